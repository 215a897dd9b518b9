import Derived.Test.Qxb6613196aC1
namespace Go.Proofs.Qxb6613196a
open Go.RowKit

set_option maxHeartbeats 1000000 in
theorem writeLong_1 (b : Nat) (bs : List Int) (v : Int) (w : World) (h0 : -8 ≤ v) (h1 : v ≤ 15) (hE : Enc b bs w) (hl : bs.length ≤ 100000000000) :
    Calls Try.prog 25 #[.pointer (some ⟨b, 0, none⟩), .int .i64 v] w fun e w' => e = .returned (.tuple #[]) ∧ Enc b (bs ++ [224 + v]) w' ∧ Below b w w' := by
  have hlt := hE.lt
  obtain ⟨sv, hb, hown⟩ := hE
  have hc := enc_cell hb
  obtain ⟨i0, hi, hz0, hz1, hz2⟩ := info_parts Try.info5
  have d1 : decide (-8 ≤ v) = true := decide_eq_true (by omega)
  have d2 : decide (v ≤ 15) = true := decide_eq_true (by omega)
  go_enter Try.func25, Try.ntmps25
  go_wp2_with (at_builtin; refine wpList_append_own _ rfl (.tmp 28) (.tmp 32) 22 rfl (b + 1) 5 i0 (.int .u8 0) 1 1 Try.underlying22 hi hz0 hz1 hz2 rfl (by decide) _ _ _ rfl (hown.alloc _) _ _ _ _ rfl (by rfl) (cells_one _ _) (ints_oneCell _ _) ?c3 ?c4 ?c5 ?_)
  case c3 => unfold maxLen; omega
  case c4 => omega
  case c5 => first | omega | (simp; omega)
  intro v' w1 hown1 hg1 _
  obtain ⟨ao, cp, hv'⟩ := own_slice hown1
  rw [hv'] at hown1 ⊢
  clear hv'
  have S := enc_step (news := [224 + v]) hb hown hown1 hg1 rfl
  have hc1 := enc_cell S.1
  have hf1 := enc_frozen S.1 0
  clear hown1 hg1 hown hb hc
  go_wp2
  go_end0
  exact ⟨rfl, S.2.1, S.2.2.1⟩

set_option maxHeartbeats 1000000 in
theorem writeLong_2a (b : Nat) (bs : List Int) (v : Int) (w : World) (h0 : -2048 ≤ v) (h1 : v < -8) (hE : Enc b bs w) (hl : bs.length ≤ 100000000000) :
    Calls Try.prog 25 #[.pointer (some ⟨b, 0, none⟩), .int .i64 v] w fun e w' => e = .returned (.tuple #[]) ∧ Enc b (bs ++ [248 + v / 256, v % 256]) w' ∧ Below b w w' := by
  have hlt := hE.lt
  obtain ⟨sv, hb, hown⟩ := hE
  have hc := enc_cell hb
  obtain ⟨i0, hi, hz0, hz1, hz2⟩ := info_parts Try.info5
  have d1 : decide (-8 ≤ v) = false := decide_eq_false (by omega)
  have d3 : decide (-2048 ≤ v) = true := decide_eq_true (by omega)
  have d4 : decide (v ≤ 2047) = true := decide_eq_true (by omega)
  go_enter Try.func25, Try.ntmps25
  go_wp2_with (at_builtin; refine wpList_append_own _ rfl (.tmp 47) (.tmp 54) 22 rfl (b + 1) 5 i0 (.int .u8 0) 1 1 Try.underlying22 hi hz0 hz1 hz2 rfl (by decide) _ _ _ rfl (hown.alloc _) _ _ _ _ rfl (by rfl) (cells_two _ _ _) (ints_oneCell _ _) ?c3 ?c4 ?c5 ?_)
  case c3 => unfold maxLen; omega
  case c4 => omega
  case c5 => first | omega | (simp; omega)
  intro v' w1 hown1 hg1 _
  obtain ⟨ao, cp, hv'⟩ := own_slice hown1
  rw [hv'] at hown1 ⊢
  clear hv'
  have S := enc_step (news := [248 + v / 256, v % 256]) hb hown hown1 hg1 rfl
  have hc1 := enc_cell S.1
  have hf1 := enc_frozen S.1 0
  clear hown1 hg1 hown hb hc
  go_wp2
  go_end0
  exact ⟨rfl, S.2.1, S.2.2.1⟩

set_option maxHeartbeats 1000000 in
theorem writeLong_2b (b : Nat) (bs : List Int) (v : Int) (w : World) (h0 : 15 < v) (h1 : v ≤ 2047) (hE : Enc b bs w) (hl : bs.length ≤ 100000000000) :
    Calls Try.prog 25 #[.pointer (some ⟨b, 0, none⟩), .int .i64 v] w fun e w' => e = .returned (.tuple #[]) ∧ Enc b (bs ++ [248 + v / 256, v % 256]) w' ∧ Below b w w' := by
  have hlt := hE.lt
  obtain ⟨sv, hb, hown⟩ := hE
  have hc := enc_cell hb
  obtain ⟨i0, hi, hz0, hz1, hz2⟩ := info_parts Try.info5
  have d1 : decide (-8 ≤ v) = true := decide_eq_true (by omega)
  have d2 : decide (v ≤ 15) = false := decide_eq_false (by omega)
  have d3 : decide (-2048 ≤ v) = true := decide_eq_true (by omega)
  have d4 : decide (v ≤ 2047) = true := decide_eq_true (by omega)
  go_enter Try.func25, Try.ntmps25
  go_wp2_with (at_builtin; refine wpList_append_own _ rfl (.tmp 47) (.tmp 54) 22 rfl (b + 1) 5 i0 (.int .u8 0) 1 1 Try.underlying22 hi hz0 hz1 hz2 rfl (by decide) _ _ _ rfl (hown.alloc _) _ _ _ _ rfl (by rfl) (cells_two _ _ _) (ints_oneCell _ _) ?c3 ?c4 ?c5 ?_)
  case c3 => unfold maxLen; omega
  case c4 => omega
  case c5 => first | omega | (simp; omega)
  intro v' w1 hown1 hg1 _
  obtain ⟨ao, cp, hv'⟩ := own_slice hown1
  rw [hv'] at hown1 ⊢
  clear hv'
  have S := enc_step (news := [248 + v / 256, v % 256]) hb hown hown1 hg1 rfl
  have hc1 := enc_cell S.1
  have hf1 := enc_frozen S.1 0
  clear hown1 hg1 hown hb hc
  go_wp2
  go_end0
  exact ⟨rfl, S.2.1, S.2.2.1⟩

set_option maxHeartbeats 1000000 in
theorem writeLong_3a (b : Nat) (bs : List Int) (v : Int) (w : World) (h0 : -262144 ≤ v) (h1 : v < -2048) (hE : Enc b bs w) (hl : bs.length ≤ 100000000000) :
    Calls Try.prog 25 #[.pointer (some ⟨b, 0, none⟩), .int .i64 v] w fun e w' => e = .returned (.tuple #[]) ∧ Enc b (bs ++ [60 + v / 65536, v / 256 % 256, v % 256]) w' ∧ Below b w w' := by
  have hlt := hE.lt
  obtain ⟨sv, hb, hown⟩ := hE
  have hc := enc_cell hb
  obtain ⟨i0, hi, hz0, hz1, hz2⟩ := info_parts Try.info5
  have d1 : decide (-8 ≤ v) = false := decide_eq_false (by omega)
  have d3 : decide (-2048 ≤ v) = false := decide_eq_false (by omega)
  have d5 : decide (-262144 ≤ v) = true := decide_eq_true (by omega)
  have d6 : decide (v ≤ 262143) = true := decide_eq_true (by omega)
  go_enter Try.func25, Try.ntmps25
  go_wp2_with (at_builtin; refine wpList_append_own _ rfl (.tmp 69) (.tmp 79) 22 rfl (b + 1) 5 i0 (.int .u8 0) 1 1 Try.underlying22 hi hz0 hz1 hz2 rfl (by decide) _ _ _ rfl (hown.alloc _) _ _ _ _ rfl (by rfl) (cells_three _ _ _ _) (ints_oneCell _ _) ?c3 ?c4 ?c5 ?_)
  case c3 => unfold maxLen; omega
  case c4 => omega
  case c5 => first | omega | (simp; omega)
  intro v' w1 hown1 hg1 _
  obtain ⟨ao, cp, hv'⟩ := own_slice hown1
  rw [hv'] at hown1 ⊢
  clear hv'
  have S := enc_step (news := [60 + v / 65536, v / 256 % 256, v % 256]) hb hown hown1 hg1 rfl
  have hc1 := enc_cell S.1
  have hf1 := enc_frozen S.1 0
  clear hown1 hg1 hown hb hc
  go_wp2
  go_end0
  exact ⟨rfl, S.2.1, S.2.2.1⟩

set_option maxHeartbeats 1000000 in
theorem writeLong_3b (b : Nat) (bs : List Int) (v : Int) (w : World) (h0 : 2047 < v) (h1 : v ≤ 262143) (hE : Enc b bs w) (hl : bs.length ≤ 100000000000) :
    Calls Try.prog 25 #[.pointer (some ⟨b, 0, none⟩), .int .i64 v] w fun e w' => e = .returned (.tuple #[]) ∧ Enc b (bs ++ [60 + v / 65536, v / 256 % 256, v % 256]) w' ∧ Below b w w' := by
  have hlt := hE.lt
  obtain ⟨sv, hb, hown⟩ := hE
  have hc := enc_cell hb
  obtain ⟨i0, hi, hz0, hz1, hz2⟩ := info_parts Try.info5
  have d1 : decide (-8 ≤ v) = true := decide_eq_true (by omega)
  have d2 : decide (v ≤ 15) = false := decide_eq_false (by omega)
  have d3 : decide (-2048 ≤ v) = true := decide_eq_true (by omega)
  have d4 : decide (v ≤ 2047) = false := decide_eq_false (by omega)
  have d5 : decide (-262144 ≤ v) = true := decide_eq_true (by omega)
  have d6 : decide (v ≤ 262143) = true := decide_eq_true (by omega)
  go_enter Try.func25, Try.ntmps25
  go_wp2_with (at_builtin; refine wpList_append_own _ rfl (.tmp 69) (.tmp 79) 22 rfl (b + 1) 5 i0 (.int .u8 0) 1 1 Try.underlying22 hi hz0 hz1 hz2 rfl (by decide) _ _ _ rfl (hown.alloc _) _ _ _ _ rfl (by rfl) (cells_three _ _ _ _) (ints_oneCell _ _) ?c3 ?c4 ?c5 ?_)
  case c3 => unfold maxLen; omega
  case c4 => omega
  case c5 => first | omega | (simp; omega)
  intro v' w1 hown1 hg1 _
  obtain ⟨ao, cp, hv'⟩ := own_slice hown1
  rw [hv'] at hown1 ⊢
  clear hv'
  have S := enc_step (news := [60 + v / 65536, v / 256 % 256, v % 256]) hb hown hown1 hg1 rfl
  have hc1 := enc_cell S.1
  have hf1 := enc_frozen S.1 0
  clear hown1 hg1 hown hb hc
  go_wp2
  go_end0
  exact ⟨rfl, S.2.1, S.2.2.1⟩

end Go.Proofs.Qxb6613196a
