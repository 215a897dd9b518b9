import Derived.Test.Qxb6613196aPlain
namespace Go.Proofs.Qxb6613196a

theorem units_bd : ∀ (n : Nat) (l : List UInt8), l.length ≤ n → ∀ u ∈ units l, 0 ≤ u ∧ u < 65536 := by
  intro n
  induction n with
  | zero => intro l hl u hu; have : l = [] := List.eq_nil_of_length_eq_zero (by omega); subst this; simp [units_nil] at hu
  | succ n ih =>
    intro l hl u hu
    by_cases h : l = []
    · subst h; simp [units_nil] at hu
    · rw [units_step l h, List.mem_append] at hu
      have h1 := dec_pos l
      rcases hu with hu | hu
      · have hr := dec_rune l
        unfold runeUnits at hu
        split at hu
        · simp at hu; omega
        · simp at hu; omega
      · exact ih (l.drop (dec l).2) (by simp only [List.length_drop]; omega) u hu

/-- No character's last unit is the first half of a pair. -/
theorem units_last : ∀ (n : Nat) (l : List UInt8), l.length ≤ n → ∀ (a : List Int) (x : Int), units l = a ++ [x] → x < 55296 ∨ 56319 < x := by
  intro n
  induction n with
  | zero => intro l hl a x hx; have : l = [] := List.eq_nil_of_length_eq_zero (by omega); subst this; simp [units_nil] at hx
  | succ n ih =>
    intro l hl a x hx
    by_cases h : l = []
    · subst h; simp [units_nil] at hx
    · have h1 := dec_pos l
      rw [units_step l h] at hx
      by_cases hr0 : units (l.drop (dec l).2) = []
      · rw [hr0, List.append_nil] at hx
        have hr := dec_rune l
        unfold runeUnits at hx
        split at hx
        · have : a = [] ∧ x = ((dec l).1 : Int) := by
            cases a with
            | nil => simp at hx; exact ⟨rfl, hx.symm⟩
            | cons y ys => simp at hx
          omega
        · have : x = 56320 + (((dec l).1 : Int) - 65536) % 1024 := by
            cases a with
            | nil => simp at hx
            | cons y ys => cases ys with
              | nil => simp at hx; exact hx.2.symm
              | cons z zs => simp at hx
          omega
      · obtain ⟨a', y, hy⟩ : ∃ a' y, units (l.drop (dec l).2) = a' ++ [y] := ⟨_, _, (List.dropLast_concat_getLast hr0).symm⟩
        have hxy : x = y := by
          rw [hy, ← List.append_assoc] at hx
          have := congrArg List.getLast? hx
          simp at this
          exact this.symm
        rw [hxy]
        exact ih (l.drop (dec l).2) (by simp only [List.length_drop]; omega) a' y hy

theorem wstrF_chunk (f : Nat) (l : List UInt8) (h : 32768 < (units l).length) : wstrF (f + 1) l = [82, ((cut l).2 : Int) / 256, ((cut l).2 : Int) % 256] ++ ubs (units (l.take (cut l).1)) ++ wstrF f (l.drop (cut l).1) := by
  rw [wstrF, if_pos h]
theorem wstrF_last (f : Nat) (l : List UInt8) (h : ¬ 32768 < (units l).length) : wstrF (f + 1) l = head1 (units l).length ++ ubs (units l) := by
  rw [wstrF, if_neg h]

theorem wstrF_len : ∀ (f : Nat) (l : List UInt8), (wstrF f l).length ≤ 6 * l.length + 3 := by
  intro f
  induction f with
  | zero => intro l; simp [wstrF]
  | succ f ih =>
    intro l
    by_cases h : 32768 < (units l).length
    · rw [wstrF_chunk f l h]
      have h1 := cut_pos l h
      obtain ⟨k1, k2, k3, k4, k5⟩ := cut_facts l
      have h2 := ih (l.drop (cut l).1)
      have h3 := ubs_le (units (l.take (cut l).1))
      have h4 : (units (l.take (cut l).1)).length ≤ (cut l).1 := by
        have := units_le _ (l.take (cut l).1) (Nat.le_refl _)
        rw [List.length_take] at this
        omega
      rw [List.length_drop] at h2
      simp only [List.length_append, List.length_cons, List.length_nil]
      omega
    · rw [wstrF_last f l h]
      have h3 := ubs_le (units l)
      have h4 := units_le _ l (Nat.le_refl _)
      have h5 : (head1 (units l).length).length ≤ 3 := by
        unfold head1
        split
        · simp
        · split <;> simp
      rw [List.length_append]
      omega

theorem ubs_drop (us : List Int) (j : Nat) (h : j < us.length) : ubs (us.drop j) = unitBytes (us.getD j 0) ++ ubs (us.drop (j + 1)) := by
  rw [List.drop_eq_getElem_cons h, ubs_cons]
  simp [List.getD, h]
theorem ubs_take (us : List Int) (j : Nat) (h : j < us.length) : ubs (us.take (j + 1)) = ubs (us.take j) ++ unitBytes (us.getD j 0) := by
  rw [List.take_succ_eq_append_getElem h, ubs_append]
  congr 1
  simp [ubs, List.getD, h]
theorem ubs_split (us : List Int) (j : Nat) : ubs us = ubs (us.take j) ++ ubs (us.drop j) := by
  rw [← ubs_append, List.take_append_drop]
theorem unitBytes_pos (u : Int) : 1 ≤ (unitBytes u).length := by
  unfold unitBytes
  split
  · simp
  · split <;> simp

/-- A byte of a list read off what is left of it. -/
theorem getD_drop (bs : List Int) (p k : Nat) : bs.getD (p + k) 0 = (bs.drop p).getD k 0 := by
  rw [List.getD_eq_getElem?_getD, List.getD_eq_getElem?_getD, List.getElem?_drop]
/-- Where the bytes of the j-th unit lie, behind a header. -/
theorem unit_at (bs hd rest us : List Int) (p j : Nat) (hb : bs.drop p = hd ++ (ubs us ++ rest)) (h : j < us.length) (t : Nat) (ht : t < (unitBytes (us.getD j 0)).length) :
    bs.getD (p + hd.length + (ubs (us.take j)).length + t) 0 = (unitBytes (us.getD j 0)).getD t 0 := by
  have e : p + hd.length + (ubs (us.take j)).length + t = p + (hd.length + ((ubs (us.take j)).length + t)) := by omega
  rw [e, getD_drop, hb, ubs_split us j, ubs_drop us j h]
  rw [List.getD_eq_getElem?_getD, List.getElem?_append_right (by omega), Nat.add_sub_cancel_left, List.append_assoc, List.getElem?_append_right (by omega), Nat.add_sub_cancel_left, List.append_assoc, List.getElem?_append_left (by simpa using ht)]
  simp only [List.getD_eq_getElem?_getD]
theorem unit_room (bs hd rest us : List Int) (p j : Nat) (hp : p ≤ bs.length) (hb : bs.drop p = hd ++ (ubs us ++ rest)) (h : j < us.length) : p + hd.length + (ubs (us.take j)).length + (unitBytes (us.getD j 0)).length ≤ bs.length := by
  have hl := congrArg List.length hb
  rw [ubs_split us j, ubs_drop us j h] at hl
  simp only [List.length_append, List.length_drop] at hl
  omega

end Go.Proofs.Qxb6613196a
