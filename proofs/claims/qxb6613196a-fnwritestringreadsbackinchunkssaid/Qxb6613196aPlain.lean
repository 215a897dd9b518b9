/-
  PLAIN LEAN, NO GO IN SIGHT: the UTF-8 reading of a list of bytes, its UTF-16 units, their bytes, how a string is cut into chunks and written.
-/
import GoSem.Core.Utf8
namespace Go.Proofs.Qxb6613196a

/-- One character, from four bytes and whether the second, third, fourth go on. -/
def decC (b0 b1 b2 b3 : Nat) (c1 c2 c3 : Bool) : Nat × Nat :=
  if b0 < 0x80 then (b0, 1)
  else if b0 / 32 == 6 && c1 then
    (if (b0 % 32) * 64 + b1 % 64 ≥ 0x80 then ((b0 % 32) * 64 + b1 % 64, 2) else (0xfffd, 1))
  else if b0 / 16 == 14 && c1 && c2 then
    (if (b0 % 16) * 4096 + (b1 % 64) * 64 + b2 % 64 ≥ 0x800 && Utf8.valid (((b0 % 16) * 4096 + (b1 % 64) * 64 + b2 % 64 : Nat) : Int) then ((b0 % 16) * 4096 + (b1 % 64) * 64 + b2 % 64, 3) else (0xfffd, 1))
  else if b0 / 8 == 30 && c1 && c2 && c3 then
    (if (b0 % 8) * 262144 + (b1 % 64) * 4096 + (b2 % 64) * 64 + b3 % 64 ≥ 0x10000 && Utf8.valid (((b0 % 8) * 262144 + (b1 % 64) * 4096 + (b2 % 64) * 64 + b3 % 64 : Nat) : Int) then ((b0 % 8) * 262144 + (b1 % 64) * 4096 + (b2 % 64) * 64 + b3 % 64, 4) else (0xfffd, 1))
  else (0xfffd, 1)

def lat (l : List UInt8) (k : Nat) : Nat := (l.getD k 0).toNat
def lct (l : List UInt8) (k : Nat) : Bool := decide (k < l.length) && lat l k / 64 == 2
/-- The character at the head of l, and how many bytes it takes. -/
def dec (l : List UInt8) : Nat × Nat := decC (lat l 0) (lat l 1) (lat l 2) (lat l 3) (lct l 1) (lct l 2) (lct l 3)

theorem get!_lat (s : ByteArray) (i k : Nat) : (s.get! (i + k)).toNat = lat (s.data.toList.drop i) k := by
  unfold lat
  congr 1
  show s.data[i + k]! = _
  rw [List.getD_eq_getElem?_getD, List.getElem?_drop]
  simp only [Array.getElem?_toList, getElem!_def]
  cases s.data[i + k]? <;> rfl

theorem decode_dec (s : ByteArray) (i : Nat) : Utf8.decode s i = dec (s.data.toList.drop i) := by
  have e : ∀ k, (decide (i + k < s.size) && lat (s.data.toList.drop i) k / 64 == 2) = lct (s.data.toList.drop i) k := by
    intro k
    unfold lct
    congr 1
    simp only [List.length_drop, Array.length_toList, decide_eq_decide]
    show i + k < s.data.size ↔ _
    omega
  unfold Utf8.decode dec decC
  simp only [get!_lat, e, Utf8.runeError]

theorem decC_rune (b0 b1 b2 b3 : Nat) (c1 c2 c3 : Bool) : (decC b0 b1 b2 b3 c1 c2 c3).1 < 55296 ∨ (57344 ≤ (decC b0 b1 b2 b3 c1 c2 c3).1 ∧ (decC b0 b1 b2 b3 c1 c2 c3).1 ≤ 1114111) := by
  unfold decC
  repeat' split
  all_goals simp_all [Utf8.valid]
  all_goals omega

theorem decC_width (b0 b1 b2 b3 : Nat) (c1 c2 c3 : Bool) : 1 ≤ (decC b0 b1 b2 b3 c1 c2 c3).2 ∧ (decC b0 b1 b2 b3 c1 c2 c3).2 ≤ 4 ∧ (65536 ≤ (decC b0 b1 b2 b3 c1 c2 c3).1 → (decC b0 b1 b2 b3 c1 c2 c3).2 = 4) := by
  unfold decC
  repeat' split
  all_goals simp_all
  all_goals omega

theorem decC_le (b0 b1 b2 b3 : Nat) (c1 c2 c3 : Bool) : (2 ≤ (decC b0 b1 b2 b3 c1 c2 c3).2 → c1 = true) ∧ (3 ≤ (decC b0 b1 b2 b3 c1 c2 c3).2 → c2 = true) ∧ (4 ≤ (decC b0 b1 b2 b3 c1 c2 c3).2 → c3 = true) := by
  unfold decC
  repeat' split
  all_goals simp_all

theorem dec_rune (l : List UInt8) : (dec l).1 < 55296 ∨ (57344 ≤ (dec l).1 ∧ (dec l).1 ≤ 1114111) := decC_rune _ _ _ _ _ _ _
theorem dec_pos (l : List UInt8) : 1 ≤ (dec l).2 := (decC_width _ _ _ _ _ _ _).1
theorem dec_four (l : List UInt8) (h : 65536 ≤ (dec l).1) : (dec l).2 = 4 := (decC_width _ _ _ _ _ _ _).2.2 h
theorem lct_lt {l : List UInt8} {k : Nat} (h : lct l k = true) : k < l.length := by
  unfold lct at h
  simp at h
  exact h.1
theorem dec_le (l : List UInt8) (hl : l ≠ []) : (dec l).2 ≤ l.length := by
  have h1 : 0 < l.length := List.length_pos_iff.2 hl
  have h4 := (decC_width (lat l 0) (lat l 1) (lat l 2) (lat l 3) (lct l 1) (lct l 2) (lct l 3)).2.1
  have hc := decC_le (lat l 0) (lat l 1) (lat l 2) (lat l 3) (lct l 1) (lct l 2) (lct l 3)
  show (decC _ _ _ _ _ _ _).2 ≤ _
  by_cases e4 : 4 ≤ (decC (lat l 0) (lat l 1) (lat l 2) (lat l 3) (lct l 1) (lct l 2) (lct l 3)).2
  · have := lct_lt (hc.2.2 e4); omega
  · by_cases e3 : 3 ≤ (decC (lat l 0) (lat l 1) (lat l 2) (lat l 3) (lct l 1) (lct l 2) (lct l 3)).2
    · have := lct_lt (hc.2.1 e3); omega
    · by_cases e2 : 2 ≤ (decC (lat l 0) (lat l 1) (lat l 2) (lat l 3) (lct l 1) (lct l 2) (lct l 3)).2
      · have := lct_lt (hc.1 e2); omega
      · omega

/-- What lies behind the character does not matter. -/
theorem decC_cut (b0 b1 b2 b3 b1' b2' b3' : Nat) (c1 c2 c3 c1' c2' c3' : Bool) (n : Nat) (hn : 1 ≤ n) (hw : (decC b0 b1 b2 b3 c1 c2 c3).2 ≤ n)
    (h1 : 1 < n → b1' = b1 ∧ c1' = c1) (h2 : 2 < n → b2' = b2 ∧ c2' = c2) (h3 : 3 < n → b3' = b3 ∧ c3' = c3)
    (k1 : ¬ 1 < n → c1' = false) (k2 : ¬ 2 < n → c2' = false) (k3 : ¬ 3 < n → c3' = false) :
    decC b0 b1' b2' b3' c1' c2' c3' = decC b0 b1 b2 b3 c1 c2 c3 := by
  by_cases a1 : 1 < n
  · obtain ⟨rfl, rfl⟩ := h1 a1
    by_cases a2 : 2 < n
    · obtain ⟨rfl, rfl⟩ := h2 a2
      by_cases a3 : 3 < n
      · obtain ⟨rfl, rfl⟩ := h3 a3; rfl
      · rw [k3 a3]
        unfold decC at hw ⊢
        repeat' split
        all_goals simp_all
        all_goals omega
    · rw [k2 a2, k3 (by omega)]
      unfold decC at hw ⊢
      repeat' split
      all_goals simp_all
      all_goals omega
  · rw [k1 a1, k2 (by omega), k3 (by omega)]
    unfold decC at hw ⊢
    repeat' split
    all_goals simp_all
    all_goals omega

theorem lat_take (l : List UInt8) (n k : Nat) (h : k < n) : lat (l.take n) k = lat l k := by
  unfold lat
  simp [List.getD_eq_getElem?_getD, h]
theorem lct_take (l : List UInt8) (n k : Nat) (h : k < n) : lct (l.take n) k = lct l k := by
  unfold lct
  rw [lat_take l n k h]
  congr 1
  simp only [List.length_take, decide_eq_decide]
  omega
theorem lct_take_no (l : List UInt8) (n k : Nat) (h : ¬ k < n) : lct (l.take n) k = false := by
  unfold lct
  have : ¬ k < (l.take n).length := by simp only [List.length_take]; omega
  rw [decide_eq_false this, Bool.false_and]

theorem dec_take (l : List UInt8) (n : Nat) (hn : 1 ≤ n) (hw : (dec l).2 ≤ n) : dec (l.take n) = dec l := by
  unfold dec at hw ⊢
  rw [lat_take l n 0 (by omega)]
  exact decC_cut _ _ _ _ _ _ _ _ _ _ _ _ _ n hn hw
    (fun h => ⟨lat_take l n 1 h, lct_take l n 1 h⟩) (fun h => ⟨lat_take l n 2 h, lct_take l n 2 h⟩) (fun h => ⟨lat_take l n 3 h, lct_take l n 3 h⟩)
    (fun h => lct_take_no l n 1 h) (fun h => lct_take_no l n 2 h) (fun h => lct_take_no l n 3 h)

/-! ### The UTF-16 units of a string -/
def runeUnits (r : Nat) : List Int := if r < 65536 then [(r : Int)] else [55296 + ((r : Int) - 65536) / 1024, 56320 + ((r : Int) - 65536) % 1024]
def runeLen (r : Nat) : Nat := if r < 65536 then 1 else 2
theorem runeUnits_length (r : Nat) : (runeUnits r).length = runeLen r := by unfold runeUnits runeLen; split <;> rfl

def unitsF : Nat → List UInt8 → List Int
  | 0, _ => []
  | f + 1, l => if l = [] then [] else runeUnits (dec l).1 ++ unitsF f (l.drop (dec l).2)

theorem unitsF_more : ∀ (f : Nat) (l : List UInt8), l.length ≤ f → unitsF f l = unitsF l.length l := by
  intro f
  induction f using Nat.strongRecOn with
  | ind f ih =>
    intro l hl
    cases hL : l.length with
    | zero =>
      have : l = [] := List.eq_nil_of_length_eq_zero hL
      subst this
      cases f <;> simp [unitsF]
    | succ m =>
      have hne : l ≠ [] := by intro h; subst h; simp at hL
      obtain ⟨g, rfl⟩ : ∃ g, f = g + 1 := ⟨f - 1, by omega⟩
      have hp := dec_pos l
      have hd : (l.drop (dec l).2).length ≤ m := by simp only [List.length_drop]; omega
      simp only [unitsF, if_neg hne]
      rw [ih g (by omega) _ (by omega)]
      by_cases hgm : m < g + 1
      · rw [ih m hgm _ hd]
      · have : m = g := by omega
        subst this
        rw [ih m (by omega) _ hd]

def units (l : List UInt8) : List Int := unitsF l.length l
theorem units_nil : units [] = [] := rfl
theorem units_step (l : List UInt8) (h : l ≠ []) : units l = runeUnits (dec l).1 ++ units (l.drop (dec l).2) := by
  unfold units
  have hpos := List.length_pos_iff.2 h
  obtain ⟨m, hm⟩ : ∃ m, l.length = m + 1 := ⟨l.length - 1, by omega⟩
  rw [hm]
  simp only [unitsF, if_neg h]
  rw [unitsF_more m _ (by have := dec_pos l; simp only [List.length_drop]; omega)]

/-- A character takes at least as many bytes as units. -/
theorem runeLen_le (l : List UInt8) : runeLen (dec l).1 ≤ (dec l).2 := by
  unfold runeLen
  have := dec_pos l
  split
  · omega
  · rw [dec_four l (by omega)]; omega
theorem runeLen_pos (r : Nat) : 1 ≤ runeLen r := by unfold runeLen; split <;> omega

theorem units_le : ∀ (n : Nat) (l : List UInt8), l.length ≤ n → (units l).length ≤ l.length := by
  intro n
  induction n with
  | zero => intro l hl; have : l = [] := List.eq_nil_of_length_eq_zero (by omega); subst this; simp [units_nil]
  | succ n ih =>
    intro l hl
    by_cases h : l = []
    · subst h; simp [units_nil]
    · have h1 := dec_pos l
      have h2 := dec_le l h
      have h3 := runeLen_le l
      have h4 := ih (l.drop (dec l).2) (by simp only [List.length_drop]; omega)
      rw [units_step l h, List.length_append, runeUnits_length]
      simp only [List.length_drop] at h4
      omega

/-! ### Where a string is cut -/
/-- From l, u units already taken: (how many bytes more, how many units in all). -/
def cutF (limit : Nat) : Nat → Nat → List UInt8 → Nat × Nat
  | 0, u, _ => (0, u)
  | f + 1, u, l => if l = [] then (0, u) else if u + runeLen (dec l).1 > limit then (0, u) else ((dec l).2 + (cutF limit f (u + runeLen (dec l).1) (l.drop (dec l).2)).1, (cutF limit f (u + runeLen (dec l).1) (l.drop (dec l).2)).2)

/-- THE CUT, AS A LIST IS CUT: the units before and behind it are all units, in order. -/
theorem cutF_units (limit : Nat) : ∀ (f u : Nat) (l : List UInt8), l.length ≤ f →
    (cutF limit f u l).1 ≤ l.length ∧ units l = units (l.take (cutF limit f u l).1) ++ units (l.drop (cutF limit f u l).1) ∧ (cutF limit f u l).2 = u + (units (l.take (cutF limit f u l).1)).length ∧
    (u ≤ limit → (cutF limit f u l).2 ≤ limit) ∧ (u + (units l).length > limit → limit ≤ (cutF limit f u l).2 + 1) := by
  intro f
  induction f with
  | zero =>
    intro u l hl
    have : l = [] := List.eq_nil_of_length_eq_zero (by omega)
    subst this
    simp only [cutF, units_nil, List.length_nil, List.take_nil, List.drop_nil, List.append_nil]
    refine ⟨by omega, trivial, by omega, id, ?_⟩
    intro h
    omega
  | succ f ih =>
    intro u l hl
    by_cases h : l = []
    · subst h
      simp only [cutF, if_true, units_nil, List.length_nil, List.take_nil, List.drop_nil, List.append_nil]
      refine ⟨by omega, trivial, by omega, id, ?_⟩
      intro h
      omega
    · by_cases hc : u + runeLen (dec l).1 > limit
      · simp only [cutF, if_neg h, if_pos hc]
        refine ⟨by omega, by simp [units_nil], by simp [units_nil], id, fun _ => ?_⟩
        have : runeLen (dec l).1 ≤ 2 := by unfold runeLen; split <;> omega
        omega
      · have h1 := dec_pos l
        have h2 := dec_le l h
        obtain ⟨i1, i2, i3, i4, i5⟩ := ih (u + runeLen (dec l).1) (l.drop (dec l).2) (by simp only [List.length_drop]; omega)
        simp only [cutF, if_neg h, if_neg hc]
        generalize hq : cutF limit f (u + runeLen (dec l).1) (l.drop (dec l).2) = q at *
        simp only [List.length_drop] at i1
        have ht : l.take ((dec l).2 + q.1) ≠ [] := by
          intro e
          have := congrArg List.length e
          rw [List.length_take, List.length_nil] at this
          omega
        have hdt : dec (l.take ((dec l).2 + q.1)) = dec l := dec_take l _ (by omega) (by omega)
        have e1 : units (l.take ((dec l).2 + q.1)) = runeUnits (dec l).1 ++ units ((l.drop (dec l).2).take q.1) := by
          rw [units_step _ ht, hdt, List.drop_take]
          rw [Nat.add_sub_cancel_left]
        refine ⟨by omega, ?_, ?_, fun _ => i4 (by omega), ?_⟩
        · rw [units_step l h, i2, e1, List.append_assoc, List.drop_drop]
        · rw [i3, e1, List.length_append, runeUnits_length]; omega
        · intro hh
          refine i5 ?_
          rw [units_step l h, List.length_append, runeUnits_length] at hh
          omega

/-! ### The bytes of the units -/
def unitBytes (u : Int) : List Int := if u < 128 then [u] else if u < 2048 then [192 + u / 64, 128 + u % 64] else [224 + u / 4096, 128 + u / 64 % 64, 128 + u % 64]
def ubs (us : List Int) : List Int := us.flatMap unitBytes
theorem ubs_nil : ubs [] = [] := rfl
theorem ubs_append (a b : List Int) : ubs (a ++ b) = ubs a ++ ubs b := by simp [ubs]
theorem ubs_cons (a : Int) (b : List Int) : ubs (a :: b) = unitBytes a ++ ubs b := by simp [ubs]
theorem unitBytes_le (u : Int) : (unitBytes u).length ≤ 3 := by
  unfold unitBytes
  split
  · simp
  · split <;> simp
theorem ubs_le (us : List Int) : (ubs us).length ≤ 3 * us.length := by
  induction us with
  | nil => simp [ubs_nil]
  | cons a us ih =>
    rw [ubs_cons, List.length_append, List.length_cons]
    have := unitBytes_le a
    omega

def head1 (n : Nat) : List Int := if n ≤ 31 then [(n : Int)] else if n ≤ 1023 then [48 + (n : Int) / 256, (n : Int) % 256] else [83, (n : Int) / 256, (n : Int) % 256]
def cut (l : List UInt8) : Nat × Nat := cutF 32768 l.length 0 l

/-- What WriteString writes. -/
def wstrF : Nat → List UInt8 → List Int
  | 0, _ => []
  | f + 1, l => if 32768 < (units l).length then [82, ((cut l).2 : Int) / 256, ((cut l).2 : Int) % 256] ++ ubs (units (l.take (cut l).1)) ++ wstrF f (l.drop (cut l).1) else head1 (units l).length ++ ubs (units l)
def wstr (l : List UInt8) : List Int := wstrF (l.length + 1) l

theorem cut_facts (l : List UInt8) : (cut l).1 ≤ l.length ∧ units l = units (l.take (cut l).1) ++ units (l.drop (cut l).1) ∧ (cut l).2 = (units (l.take (cut l).1)).length ∧ (cut l).2 ≤ 32768 ∧ (32768 < (units l).length → 32767 ≤ (cut l).2) := by
  obtain ⟨h1, h2, h3, h4, h5⟩ := cutF_units 32768 l.length 0 l (Nat.le_refl _)
  refine ⟨h1, h2, by rw [Nat.zero_add] at h3; exact h3, h4 (by omega), fun h => ?_⟩
  have := h5 (by omega)
  unfold cut
  omega

theorem cut_pos (l : List UInt8) (h : 32768 < (units l).length) : 1 ≤ (cut l).1 := by
  obtain ⟨h1, h2, h3, h4, h5⟩ := cut_facts l
  have h6 := h5 h
  by_cases h0 : (cut l).1 = 0
  · rw [h0] at h3; simp [units_nil] at h3; omega
  · omega

end Go.Proofs.Qxb6613196a
