import Derived.Test.Qxb6613196aA3
namespace Go.Proofs.Qxb6613196a
open Go.RowKit

/-! ### Plain: the first byte of what WriteString writes -/
def tagOf (n : Nat) : Int := if 32768 < n then 82 else if n ≤ 31 then (n : Int) else if n ≤ 1023 then 48 + (n : Int) / 256 else 83
theorem wstr_head (l : List UInt8) : ∃ r, wstr l = tagOf (units l).length :: r := by
  unfold wstr tagOf
  rw [wstrF]
  by_cases h : 32768 < (units l).length
  · rw [if_pos h, if_pos h]; exact ⟨_, rfl⟩
  · rw [if_neg h, if_neg h]
    unfold head1
    by_cases h1 : (units l).length ≤ 31
    · rw [if_pos h1, if_pos h1]; exact ⟨_, rfl⟩
    · rw [if_neg h1, if_neg h1]
      by_cases h2 : (units l).length ≤ 1023
      · rw [if_pos h2, if_pos h2]; exact ⟨_, rfl⟩
      · rw [if_neg h2, if_neg h2]; exact ⟨_, rfl⟩

theorem dec_ascii (a : UInt8) (l : List UInt8) (h : a.toNat < 128) : dec (a :: l) = (a.toNat, 1) := by
  unfold dec decC lat
  simp [h]
theorem units_a (m : Nat) : (units (List.replicate m (97 : UInt8))).length = m := by
  induction m with
  | zero => rfl
  | succ m ih =>
    rw [List.replicate_succ, units_step _ (by simp), dec_ascii 97 _ (by decide)]
    simp only [List.drop_succ_cons, List.drop_zero, List.length_append, ih]
    rw [runeUnits_length]
    unfold runeLen
    rw [if_pos (by decide)]
    omega

def mOf (j : Nat) : Nat := if j = 1025 then 32769 else j
def openB (t : Int) : Nat → Bool
  | 0 => false
  | k + 1 => openB t k || (tagOf (mOf k) == t)
def isTag (t : Int) : Bool := decide (t ≤ 31) || (decide (48 ≤ t) && decide (t ≤ 51)) || t == 82 || t == 83

theorem openB_iff (t : Int) (k : Nat) : openB t k = true ↔ ∃ j, j < k ∧ tagOf (mOf j) = t := by
  induction k with
  | zero => simp [openB]
  | succ k ih =>
    simp only [openB, Bool.or_eq_true, ih, beq_iff_eq]
    constructor
    · rintro (⟨j, h1, h2⟩ | h)
      · exact ⟨j, by omega, h2⟩
      · exact ⟨k, by omega, h⟩
    · rintro ⟨j, h1, h2⟩
      by_cases e : j = k
      · subst e; exact .inr h2
      · exact .inl ⟨j, by omega, h2⟩

theorem tagOf_is (n : Nat) : isTag (tagOf n) = true := by
  unfold isTag tagOf
  simp only [Bool.or_eq_true, Bool.and_eq_true, decide_eq_true_eq, beq_iff_eq]
  repeat' split
  all_goals omega

/-- THE PLAIN LAW: a byte is a string tag exactly when one of the 1026 lengths opens with it. -/
theorem tags_all (t : Int) (h0 : 0 ≤ t) : openB t 1026 = isTag t := by
  rw [Bool.eq_iff_iff, openB_iff]
  constructor
  · rintro ⟨j, _, rfl⟩
    exact tagOf_is _
  · intro h
    unfold isTag at h
    simp only [Bool.or_eq_true, Bool.and_eq_true, decide_eq_true_eq, beq_iff_eq] at h
    rcases h with ((h | h) | h) | h
    · refine ⟨t.toNat, by omega, ?_⟩
      have em : mOf t.toNat = t.toNat := by unfold mOf; rw [if_neg (by omega)]
      rw [em]
      unfold tagOf
      rw [if_neg (by omega), if_pos (by omega)]
      omega
    · by_cases e : t = 48
      · refine ⟨32, by omega, ?_⟩
        subst e
        decide
      · refine ⟨((t - 48) * 256).toNat, by omega, ?_⟩
        have em : mOf ((t - 48) * 256).toNat = ((t - 48) * 256).toNat := by unfold mOf; rw [if_neg (by omega)]
        rw [em]
        unfold tagOf
        rw [if_neg (by omega), if_neg (by omega), if_pos (by omega)]
        omega
    · exact ⟨1025, by omega, by rw [h]; decide⟩
    · exact ⟨1024, by omega, by rw [h]; decide⟩

/-! ### isStringTag -/
set_option maxHeartbeats 400000 in
theorem isStringTag_any (t : Int) (w : World) (h0 : 0 ≤ t) (h1 : t ≤ 255) :
    Calls Try.prog 22 #[.int .u8 t] w fun e w' => e = .returned (.bool (isTag t)) ∧ w' = w := by
  have ret_bool : ∀ a b : Bool, a = b → Ending.returned (.bool a) = .returned (.bool b) := by intro a b h; rw [h]
  by_cases a : t ≤ 31
  · have e : isTag t = true := by simp [isTag, a]
    rw [e]
    go_enter Try.func22, Try.ntmps22
    go_wp2
    go_ret
    exact ⟨rfl, rfl⟩
  · by_cases b : 48 ≤ t
    · by_cases c : t ≤ 51
      · have e : isTag t = true := by simp [isTag, b, c]
        rw [e]
        go_enter Try.func22, Try.ntmps22
        go_wp2
        go_ret
        exact ⟨rfl, rfl⟩
      · have e : isTag t = (t == 82 || t == 83) := by simp [isTag, a, c]
        rw [e]
        by_cases d : t = 82
        · subst d
          go_enter Try.func22, Try.ntmps22
          go_wp2
          go_ret
          exact ⟨rfl, rfl⟩
        · have d' : (t == 82) = false := by simpa using d
          go_enter Try.func22, Try.ntmps22
          go_wp2
          go_ret
          exact ⟨ret_bool _ _ (by simp), rfl⟩
    · have e : isTag t = false := by
        unfold isTag
        simp [a, b]
        omega
      have d' : (t == 82) = false := by simp; omega
      have d'' : (t == 83) = false := by simp; omega
      rw [e]
      go_enter Try.func22, Try.ntmps22
      go_wp2
      go_ret
      exact ⟨rfl, rfl⟩

set_option maxHeartbeats 400000 in
theorem zzIsStringTag_any (t : Int) (w : World) (h0 : 0 ≤ t) (h1 : t ≤ 255) :
    Calls Try.prog 10 #[.int .u8 t] w fun e w' => e = .returned (.bool (isTag t)) ∧ w' = w := by
  go_enter Try.func10, Try.ntmps10
  go_wp2_with (go_at_call 22; refine (isStringTag_any t _ h0 h1).mono ?_; rintro e w' ⟨rfl, rfl⟩)
  go_ret
  exact ⟨rfl, rfl⟩

/-- What an encoder's buffer reads as: the slice and its cells. -/
theorem enc_buf {b : Nat} {bs : List Int} {w : World} (h : Enc b bs w) (hne : 1 ≤ bs.length) : ∃ g cap, b < g ∧ bs.length ≤ cap ∧ w.cell? ⟨b, 0, none⟩ = some (.slice (some ⟨g, 0, none⟩) bs.length cap) ∧ g < w.heap.size ∧ ∀ j, j < bs.length → w.cell? ⟨g, j, none⟩ = some (.int .u8 (bs.getD j 0)) := by
  obtain ⟨v, hb, hown⟩ := h
  have hc := enc_cell hb
  have hlt := hown.lt
  rcases hown.2 with ⟨rfl, h0⟩ | ⟨g, cap, cur, rfl, hbg, hg, hnc, _⟩
  · omega
  · refine ⟨g, cap, by omega, hnc, hc, (Array.getElem?_eq_some_iff.1 hg).1, fun j hj => ?_⟩
    rw [hown.cellAt j (by omega)]
    simp [List.getD, hj]

set_option maxHeartbeats 400000 in
theorem encoderBuf_any (b : Nat) (w : World) (ao : Option Addr) (n cap : Nat) (hv : w.cell? ⟨b, 0, none⟩ = some (.slice ao n cap)) :
    Calls Try.prog 9 #[.pointer (some ⟨b, 0, none⟩)] w fun e w' => e = .returned (.slice ao n cap) ∧ w' = w := by
  go_enter Try.func9, Try.ntmps9
  go_wp2
  go_ret
  exact ⟨rfl, rfl⟩

end Go.Proofs.Qxb6613196a
