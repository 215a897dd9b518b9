import Derived.Test.Qxb6613196aE1
namespace Go.Proofs.Qxb6613196a
open Go.RowKit

/-- What writeLong writes opens with no string tag. -/
theorem long_head (v : Int) : ∃ x r, longBytes v = x :: r ∧ isTag x = false ∧ 0 ≤ x ∧ x ≤ 255 := by
  have key : ∀ x : Int, 32 ≤ x → x < 48 ∨ 51 < x → x ≠ 82 → x ≠ 83 → isTag x = false := by
    intro x h1 h2 h3 h4
    unfold isTag
    simp
    omega
  rcases long_cases v with h | h | h | h | h
  · rw [long_1 h.1 h.2]; exact ⟨_, _, rfl, key _ (by omega) (by omega) (by omega) (by omega), by omega, by omega⟩
  · rw [long_2 h.1 h.2.1 h.2.2]; exact ⟨_, _, rfl, key _ (by omega) (by omega) (by omega) (by omega), by omega, by omega⟩
  · rw [long_3 h.1 h.2.1 h.2.2]; exact ⟨_, _, rfl, key _ (by omega) (by omega) (by omega) (by omega), by omega, by omega⟩
  · rw [long_4 h.1 h.2.1 h.2.2]; exact ⟨_, _, rfl, key _ (by omega) (by omega) (by omega) (by omega), by omega, by omega⟩
  · rw [long_5 h]; exact ⟨_, _, rfl, key _ (by omega) (by omega) (by omega) (by omega), by omega, by omega⟩

theorem tagOf_bd (n : Nat) : 0 ≤ tagOf n ∧ tagOf n ≤ 255 := by
  unfold tagOf
  repeat' split
  all_goals omega

set_option maxHeartbeats 400000 in
theorem zzBytes16_any (s : ByteArray) (v : Int) (w : World) (hs : s.size ≤ maxLen) :
    Calls Try.prog 16 #[.string s, .int .i64 v] w fun e w' => e = .returned (.bool (decide (s.size ≤ 1048576))) ∧ w' = w := by
  unfold maxLen at hs
  by_cases h : s.size ≤ 1048576
  · have h' : ¬ (1048576 : Int) < (s.size : Int) := by omega
    rw [decide_eq_true h]
    go_enter Try.func16, Try.ntmps16
    go_wp2
    go_ret
    exact ⟨rfl, rfl⟩
  · have h' : (1048576 : Int) < (s.size : Int) := by omega
    rw [decide_eq_false h]
    go_enter Try.func16, Try.ntmps16
    go_wp2
    go_ret
    exact ⟨rfl, rfl⟩

set_option maxHeartbeats 2000000 in
theorem walk5 (s : ByteArray) (v : Int) (w : World) (hs : s.size ≤ maxLen) :
    Calls Try.prog 5 #[.string s, .int .i64 v] w fun e w' => e = .returned (.bool true) ∧ Below w.heap.size w w' := by
  by_cases h0 : s.size ≤ 1048576
  · have h0' : ¬ (1048576 : Int) < (s.size : Int) := by omega
    go_enter Try.func5, Try.ntmps5
    go_wp2_with (go_at_call 16; refine (zzBytes16_any s _ _ hs).mono ?_; rintro e w' ⟨rfl, rfl⟩)
    refine (writeString_any _ [] s _ h0 (enc_new w') (by simp)).mono ?_
    rintro e W1 ⟨rfl, hE1, hb1⟩
    rw [List.nil_append] at hE1
    obtain ⟨r1, hh1⟩ := wstr_head s.data.toList
    rw [hh1] at hE1
    have ht1 := tagOf_is (units s.data.toList).length
    have hbd1 := tagOf_bd (units s.data.toList).length
    generalize tagOf (units s.data.toList).length = t1 at *
    clear hh1
    obtain ⟨g, cap, hbg, hcap, hcm, hcell, hgs, hcells⟩ := enc_buf2 hE1 (by simp)
    rw [List.length_cons] at hcell
    have hc1 : W1.cell? ⟨g, 0, none⟩ = some (.int .u8 t1) := hcells 0 (by simp)
    have hbw : Below w'.heap.size w' W1 := ((Below.refl _ w').alloc (Nat.le_refl _) _).trans hb1
    clear hcells hE1 hb1
    go_wp2_with fail
    refine (encoderBuf_any _ _ _ _ _ hcell).mono ?_
    rintro e W2 ⟨rfl, rfl⟩
    clear hcell
    go_wp2_with fail
    refine (zzWriteLong_any _ [] v _ (enc_new W2) (by simp)).mono ?_
    rintro e W3 ⟨rfl, hE3, hb3⟩
    rw [List.nil_append] at hE3
    obtain ⟨t2, r2, hh2, ht2, hlo2, hhi2⟩ := long_head v
    rw [hh2] at hE3
    clear hh2
    obtain ⟨g', cap', hbg', hcap', hcm', hcell', hgs', hcells'⟩ := enc_buf2 hE3 (by simp)
    rw [List.length_cons] at hcell'
    have hc2 : W3.cell? ⟨g', 0, none⟩ = some (.int .u8 t2) := hcells' 0 (by simp)
    have hb23 : Below W2.heap.size W2 W3 := ((Below.refl _ W2).alloc (Nat.le_refl _) _).trans hb3
    have hc1' : W3.cell? ⟨g, 0, none⟩ = some (.int .u8 t1) := by rw [hb23.cell (p := ⟨g, 0, none⟩) hgs]; exact hc1
    clear hcells' hE3 hb3 hc1
    go_wp2_with fail
    refine (encoderBuf_any _ _ _ _ _ hcell').mono ?_
    rintro e W4 ⟨rfl, rfl⟩
    clear hcell'
    have z1 : ((r1.length : Int) + 1 == 0) = false := by simp; omega
    have z2 : ((r2.length : Int) + 1 == 0) = false := by simp; omega
    have y1 : (0 : Int) < (r1.length : Int) + 1 := by omega
    have y2 : (0 : Int) < (r2.length : Int) + 1 := by omega
    go_wp2_with fail
    refine (zzIsStringTag_any t1 _ hbd1.1 hbd1.2).mono ?_
    rintro e W5 ⟨rfl, rfl⟩
    go_wp2_with fail
    refine (zzIsStringTag_any t2 _ hlo2 hhi2).mono ?_
    rintro e W6 ⟨rfl, rfl⟩
    go_wp2_with fail
    go_ret
    exact ⟨rfl, hbw.trans (hb23.mono hbw.size)⟩
  · go_enter Try.func5, Try.ntmps5
    go_wp2_with (go_at_call 16; refine (zzBytes16_any s _ _ hs).mono ?_; rintro e w' ⟨rfl, rfl⟩)
    go_ret
    exact ⟨rfl, Below.refl _ _⟩

end Go.Proofs.Qxb6613196a
