import Derived.Test.Qxb6613196aD4
import Derived.Test.Qxb6613196aB2
namespace Go.Proofs.Qxb6613196a
open Go.RowKit

theorem getD_left (a b : List Int) (j : Nat) (h : j < a.length) : (a ++ b).getD j 0 = a.getD j 0 := by
  rw [List.getD_eq_getElem?_getD, List.getElem?_append_left h, List.getD_eq_getElem?_getD]
theorem getD_right (a b : List Int) (j : Nat) : (a ++ b).getD (a.length + j) 0 = b.getD j 0 := by
  rw [List.getD_eq_getElem?_getD, List.getElem?_append_right (by omega), Nat.add_sub_cancel_left, List.getD_eq_getElem?_getD]

theorem readLong_zero (g n cap : Nat) (v : Int) (w : World) (hv : -9223372036854775808 ≤ v ∧ v ≤ 9223372036854775807) (hp : (longBytes v).length ≤ n) (hn : n ≤ cap) (hcap : cap ≤ 9223372036854775807) (hg : g < w.heap.size)
    (hc : ∀ j, j < (longBytes v).length → w.cell? ⟨g, j, none⟩ = some (.int .u8 ((longBytes v).getD j 0))) :
    Calls Try.prog 18 #[.slice (some ⟨g, 0, none⟩) n cap, .int .i64 0] w fun e w' => e = .returned (.tuple #[.int .i64 v, .int .i64 ((longBytes v).length : Int), .bool true]) ∧ Below w.heap.size w w' := by
  have h := readLong_any g n cap 0 v w hv (by omega) hn hcap hg (fun j hj => by rw [Nat.zero_add]; exact hc j hj)
  refine Calls.mono h ?_
  rintro e w' ⟨rfl, hb⟩
  exact ⟨ret_three rfl (by simp), hb⟩

set_option maxHeartbeats 1000000 in
theorem walk6 (v u : Int) (w : World) (hv : -9223372036854775808 ≤ v ∧ v ≤ 9223372036854775807) (hu : -9223372036854775808 ≤ u ∧ u ≤ 9223372036854775807) :
    Calls Try.prog 6 #[.int .i64 v, .int .i64 u] w fun e w' => e = .returned (.bool true) ∧ Below w.heap.size w w' := by
  have hlv := long_len v
  have hlu := long_len u
  go_enter Try.func6, Try.ntmps6
  go_wp2_with fail
  refine (zzWriteLong_any w.heap.size [] v _ (enc_new w) (by simp)).mono ?_
  rintro e W1 ⟨rfl, hE1, hb1⟩
  rw [List.nil_append] at hE1
  go_wp2_with fail
  refine (zzWriteLong_any w.heap.size _ u _ hE1 (by omega)).mono ?_
  rintro e W2 ⟨rfl, hE2, hb2⟩
  obtain ⟨g, cap, hbg, hcap, hcm, hcell, hgs, hcells⟩ := enc_buf2 hE2 (by rw [List.length_append]; omega)
  have hbw : Below w.heap.size w W2 := (((Below.refl _ w).alloc (Nat.le_refl _) _).trans hb1).trans hb2
  rw [List.length_append] at hcell hcap hcells
  have HC : Hid (∀ j, j < (longBytes v).length + (longBytes u).length → W2.cell? ⟨g, j, none⟩ = some (.int .u8 ((longBytes v ++ longBytes u).getD j 0))) := hcells
  clear hcells hE1 hE2 hb1 hb2
  have HV : Hid (∀ j, j < (longBytes v).length → W2.cell? ⟨g, j, none⟩ = some (.int .u8 ((longBytes v).getD j 0))) := fun j hj => by
    rw [HC.out j (by omega), getD_left _ _ _ hj]
  have HU : Hid (∀ j, j < (longBytes u).length → W2.cell? ⟨g, (longBytes v).length + j, none⟩ = some (.int .u8 ((longBytes u).getD j 0))) := fun j hj => by
    rw [HC.out _ (by omega), getD_right]
  go_wp2_with fail
  refine (encoderBuf_any w.heap.size _ _ _ _ hcell).mono ?_
  rintro e W3 ⟨rfl, rfl⟩
  go_wp2_with fail
  refine (readLong_zero g _ cap v _ hv (by omega) hcap hcm hgs HV.out).mono ?_
  rintro e W4 ⟨rfl, hb4⟩
  go_wp2_with fail
  have hgs4 : g < W4.heap.size := Nat.lt_of_lt_of_le hgs hb4.size
  refine (readLong_any g _ cap (longBytes v).length u _ hu (Nat.le_refl _) hcap hcm hgs4 (fun j hj => by rw [hb4.cell (p := ⟨g, _, none⟩) hgs]; exact HU.out j hj)).mono ?_
  rintro e W5 ⟨rfl, hb5⟩
  go_wp2_with fail
  go_ret
  have hs2 := hbw.size
  have hs4 := hb4.size
  exact ⟨rfl, hbw.trans ((hb4.mono hs2).trans (hb5.mono (Nat.le_trans hs2 hs4)))⟩

/-! ### Plain: toward zero a long never takes more bytes -/
theorem len_2 {u : Int} (h0 : -2048 ≤ u) (h1 : u ≤ 2047) : (longBytes u).length ≤ 2 := by
  by_cases h : -8 ≤ u ∧ u ≤ 15
  · rw [long_1 h.1 h.2]; simp
  · rw [long_2 (by omega) h0 h1]; simp
theorem len_3 {u : Int} (h0 : -262144 ≤ u) (h1 : u ≤ 262143) : (longBytes u).length ≤ 3 := by
  by_cases h : -2048 ≤ u ∧ u ≤ 2047
  · have := len_2 h.1 h.2; omega
  · rw [long_3 (by omega) h0 h1]; simp
theorem len_5 {u : Int} (h0 : -2147483648 ≤ u) (h1 : u ≤ 2147483647) : (longBytes u).length ≤ 5 := by
  by_cases h : -262144 ≤ u ∧ u ≤ 262143
  · have := len_3 h.1 h.2; omega
  · rw [long_4 (by omega) h0 h1]; simp [be4]
theorem len_mono {u v : Int} (h : (0 ≤ u ∧ u ≤ v) ∨ (v ≤ u ∧ u ≤ 0)) : (longBytes u).length ≤ (longBytes v).length := by
  rcases long_cases v with c | c | c | c | c
  · rw [long_1 c.1 c.2, long_1 (by omega) (by omega)]; simp
  · have := @len_2 u (by omega) (by omega)
    rw [long_2 c.1 c.2.1 c.2.2]; simpa using this
  · have := @len_3 u (by omega) (by omega)
    rw [long_3 c.1 c.2.1 c.2.2]; simpa using this
  · have := @len_5 u (by omega) (by omega)
    rw [long_4 c.1 c.2.1 c.2.2]; simpa [be4] using this
  · have := (long_len u).2
    rw [long_5 c]; simpa [be8] using this

set_option maxHeartbeats 2000000 in
theorem walk7 (v u : Int) (w : World) (hv : -9223372036854775808 ≤ v ∧ v ≤ 9223372036854775807) (hu : -9223372036854775808 ≤ u ∧ u ≤ 9223372036854775807) :
    Calls Try.prog 7 #[.int .i64 v, .int .i64 u] w fun e w' => e = .returned (.bool true) ∧ Below w.heap.size w w' := by
  have hlv := long_len v
  have hlu := long_len u
  have hsplit : (¬ 0 ≤ u ∧ ¬ v ≤ u) ∨ (0 ≤ u ∧ ¬ u ≤ v ∧ v ≤ u ∧ ¬ u ≤ 0) ∨ (0 ≤ u ∧ u ≤ v) ∨ (0 ≤ u ∧ ¬ u ≤ v ∧ v ≤ u ∧ u ≤ 0) ∨ (¬ 0 ≤ u ∧ v ≤ u ∧ u ≤ 0) := by omega
  rcases hsplit with ⟨q1, q3⟩ | ⟨q1, q2, q3, q4⟩ | hin
  · have d1 : decide (0 ≤ u) = false := decide_eq_false q1
    have d3 : decide (v ≤ u) = false := decide_eq_false q3
    go_enter Try.func7, Try.ntmps7
    go_wp2_with fail
    go_ret
    exact ⟨rfl, Below.refl _ _⟩
  · have d1 : decide (0 ≤ u) = true := decide_eq_true q1
    have d2 : decide (u ≤ v) = false := decide_eq_false q2
    have d3 : decide (v ≤ u) = true := decide_eq_true q3
    have d4 : decide (u ≤ 0) = false := decide_eq_false q4
    go_enter Try.func7, Try.ntmps7
    go_wp2_with fail
    go_ret
    exact ⟨rfl, Below.refl _ _⟩
  have hlen : (longBytes u).length ≤ (longBytes v).length := len_mono (by omega)
  rcases hin with ⟨q1, q2⟩ | ⟨q1, q2, q3, q4⟩ | ⟨q1, q3, q4⟩
  · have d1 : decide (0 ≤ u) = true := decide_eq_true q1
    have d2 : decide (u ≤ v) = true := decide_eq_true q2
    go_enter Try.func7, Try.ntmps7
    go_wp2_with fail
    clear d1 d2
    refine (zzWriteLong_any w.heap.size [] v _ (enc_new w) (by simp)).mono ?_
    rintro e W1 ⟨rfl, hE1, hb1⟩
    rw [List.nil_append] at hE1
    obtain ⟨g, cap, hbg, hcap, hcm, hcell, hgs, hcells⟩ := enc_buf2 hE1 (by omega)
    have hbw : Below w.heap.size w W1 := ((Below.refl _ w).alloc (Nat.le_refl _) _).trans hb1
    have HV : Hid (∀ j, j < (longBytes v).length → W1.cell? ⟨g, j, none⟩ = some (.int .u8 ((longBytes v).getD j 0))) := hcells
    clear hcells hE1 hb1
    go_wp2_with fail
    refine (encoderBuf_any w.heap.size _ _ _ _ hcell).mono ?_
    rintro e W2 ⟨rfl, rfl⟩
    go_wp2_with fail
    refine (zzWriteLong_any _ [] u _ (enc_new W2) (by simp)).mono ?_
    rintro e W3 ⟨rfl, hE3, hb3⟩
    rw [List.nil_append] at hE3
    obtain ⟨g', cap', hbg', hcap', hcm', hcell', hgs', hcells'⟩ := enc_buf2 hE3 (by omega)
    have hb23 : Below W2.heap.size W2 W3 := ((Below.refl _ W2).alloc (Nat.le_refl _) _).trans hb3
    have HU : Hid (∀ j, j < (longBytes u).length → W3.cell? ⟨g', j, none⟩ = some (.int .u8 ((longBytes u).getD j 0))) := hcells'
    clear hcells' hE3 hb3 hcell
    have hs2 := hbw.size
    have hs3 := hb23.size
    go_wp2_with fail
    refine (encoderBuf_any W2.heap.size _ _ _ _ hcell').mono ?_
    rintro e W4 ⟨rfl, rfl⟩
    clear hcell'
    go_wp2_with fail
    refine (readLong_zero g _ cap v _ hv (Nat.le_refl _) hcap hcm (by omega) (fun j hj => by rw [hb23.cell (p := ⟨g, j, none⟩) hgs]; exact HV.out j hj)).mono ?_
    rintro e W5 ⟨rfl, hb5⟩
    have hs5 := hb5.size
    go_wp2_with fail
    refine (readLong_zero g' _ cap' u _ hu (Nat.le_refl _) hcap' hcm' (by omega) (fun j hj => by rw [hb5.cell (p := ⟨g', j, none⟩) hgs']; exact HU.out j hj)).mono ?_
    rintro e W6 ⟨rfl, hb6⟩
    go_wp2_with fail
    go_ret
    exact ⟨rfl, ((hbw.trans (hb23.mono hs2)).trans (hb5.mono (by omega))).trans (hb6.mono (by omega))⟩
  · have d1 : decide (0 ≤ u) = true := decide_eq_true q1
    have d2 : decide (u ≤ v) = false := decide_eq_false q2
    have d3 : decide (v ≤ u) = true := decide_eq_true q3
    have d4 : decide (u ≤ 0) = true := decide_eq_true q4
    go_enter Try.func7, Try.ntmps7
    go_wp2_with fail
    clear d1 d2 d3 d4
    refine (zzWriteLong_any w.heap.size [] v _ (enc_new w) (by simp)).mono ?_
    rintro e W1 ⟨rfl, hE1, hb1⟩
    rw [List.nil_append] at hE1
    obtain ⟨g, cap, hbg, hcap, hcm, hcell, hgs, hcells⟩ := enc_buf2 hE1 (by omega)
    have hbw : Below w.heap.size w W1 := ((Below.refl _ w).alloc (Nat.le_refl _) _).trans hb1
    have HV : Hid (∀ j, j < (longBytes v).length → W1.cell? ⟨g, j, none⟩ = some (.int .u8 ((longBytes v).getD j 0))) := hcells
    clear hcells hE1 hb1
    go_wp2_with fail
    refine (encoderBuf_any w.heap.size _ _ _ _ hcell).mono ?_
    rintro e W2 ⟨rfl, rfl⟩
    go_wp2_with fail
    refine (zzWriteLong_any _ [] u _ (enc_new W2) (by simp)).mono ?_
    rintro e W3 ⟨rfl, hE3, hb3⟩
    rw [List.nil_append] at hE3
    obtain ⟨g', cap', hbg', hcap', hcm', hcell', hgs', hcells'⟩ := enc_buf2 hE3 (by omega)
    have hb23 : Below W2.heap.size W2 W3 := ((Below.refl _ W2).alloc (Nat.le_refl _) _).trans hb3
    have HU : Hid (∀ j, j < (longBytes u).length → W3.cell? ⟨g', j, none⟩ = some (.int .u8 ((longBytes u).getD j 0))) := hcells'
    clear hcells' hE3 hb3 hcell
    have hs2 := hbw.size
    have hs3 := hb23.size
    go_wp2_with fail
    refine (encoderBuf_any W2.heap.size _ _ _ _ hcell').mono ?_
    rintro e W4 ⟨rfl, rfl⟩
    clear hcell'
    go_wp2_with fail
    refine (readLong_zero g _ cap v _ hv (Nat.le_refl _) hcap hcm (by omega) (fun j hj => by rw [hb23.cell (p := ⟨g, j, none⟩) hgs]; exact HV.out j hj)).mono ?_
    rintro e W5 ⟨rfl, hb5⟩
    have hs5 := hb5.size
    go_wp2_with fail
    refine (readLong_zero g' _ cap' u _ hu (Nat.le_refl _) hcap' hcm' (by omega) (fun j hj => by rw [hb5.cell (p := ⟨g', j, none⟩) hgs']; exact HU.out j hj)).mono ?_
    rintro e W6 ⟨rfl, hb6⟩
    go_wp2_with fail
    go_ret
    exact ⟨rfl, ((hbw.trans (hb23.mono hs2)).trans (hb5.mono (by omega))).trans (hb6.mono (by omega))⟩
  · have d1 : decide (0 ≤ u) = false := decide_eq_false q1
    have d3 : decide (v ≤ u) = true := decide_eq_true q3
    have d4 : decide (u ≤ 0) = true := decide_eq_true q4
    go_enter Try.func7, Try.ntmps7
    go_wp2_with fail
    clear d1 d3 d4
    refine (zzWriteLong_any w.heap.size [] v _ (enc_new w) (by simp)).mono ?_
    rintro e W1 ⟨rfl, hE1, hb1⟩
    rw [List.nil_append] at hE1
    obtain ⟨g, cap, hbg, hcap, hcm, hcell, hgs, hcells⟩ := enc_buf2 hE1 (by omega)
    have hbw : Below w.heap.size w W1 := ((Below.refl _ w).alloc (Nat.le_refl _) _).trans hb1
    have HV : Hid (∀ j, j < (longBytes v).length → W1.cell? ⟨g, j, none⟩ = some (.int .u8 ((longBytes v).getD j 0))) := hcells
    clear hcells hE1 hb1
    go_wp2_with fail
    refine (encoderBuf_any w.heap.size _ _ _ _ hcell).mono ?_
    rintro e W2 ⟨rfl, rfl⟩
    go_wp2_with fail
    refine (zzWriteLong_any _ [] u _ (enc_new W2) (by simp)).mono ?_
    rintro e W3 ⟨rfl, hE3, hb3⟩
    rw [List.nil_append] at hE3
    obtain ⟨g', cap', hbg', hcap', hcm', hcell', hgs', hcells'⟩ := enc_buf2 hE3 (by omega)
    have hb23 : Below W2.heap.size W2 W3 := ((Below.refl _ W2).alloc (Nat.le_refl _) _).trans hb3
    have HU : Hid (∀ j, j < (longBytes u).length → W3.cell? ⟨g', j, none⟩ = some (.int .u8 ((longBytes u).getD j 0))) := hcells'
    clear hcells' hE3 hb3 hcell
    have hs2 := hbw.size
    have hs3 := hb23.size
    go_wp2_with fail
    refine (encoderBuf_any W2.heap.size _ _ _ _ hcell').mono ?_
    rintro e W4 ⟨rfl, rfl⟩
    clear hcell'
    go_wp2_with fail
    refine (readLong_zero g _ cap v _ hv (Nat.le_refl _) hcap hcm (by omega) (fun j hj => by rw [hb23.cell (p := ⟨g, j, none⟩) hgs]; exact HV.out j hj)).mono ?_
    rintro e W5 ⟨rfl, hb5⟩
    have hs5 := hb5.size
    go_wp2_with fail
    refine (readLong_zero g' _ cap' u _ hu (Nat.le_refl _) hcap' hcm' (by omega) (fun j hj => by rw [hb5.cell (p := ⟨g', j, none⟩) hgs']; exact HU.out j hj)).mono ?_
    rintro e W6 ⟨rfl, hb6⟩
    go_wp2_with fail
    go_ret
    exact ⟨rfl, ((hbw.trans (hb23.mono hs2)).trans (hb5.mono (by omega))).trans (hb6.mono (by omega))⟩

end Go.Proofs.Qxb6613196a
