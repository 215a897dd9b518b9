import Derived.Test.Qxb6613196aA1
import Derived.Deep.QuietTactic
import Derived.BigQuiet
namespace Go.Proofs.Qxb6613196a
open Go.RowKit

set_option maxHeartbeats 1000000 in
/-- (*Decoder).take at the message's head. -/
theorem take_any (d : Nat) (ao : Option Addr) (L C n : Nat) (w : World) (h0 : w.cell? ⟨d, 0, none⟩ = some (.slice ao L C)) (h1 : w.cell? ⟨d, 1, none⟩ = some (.int .i64 0)) (hf : w.frozen? ⟨d, 1, none⟩ = false)
    (hn : n ≤ L) (hL : L ≤ C) (hC : C ≤ 9223372036854775807) :
    Calls Try.prog 34 #[.pointer (some ⟨d, 0, none⟩), .int .i64 (n : Int)] w fun e w' => e = .returned (.tuple #[.slice ao n C, .nilIface]) ∧ Below d w w' := by
  have hnn : ¬ (L : Int) < (n : Int) := by omega
  have hn1 : (n : Int) ≤ (L : Int) := by omega
  have hn2 : (n : Int) ≤ (C : Int) := by omega
  go_enter Try.func34, Try.ntmps34
  go_wp2_with fail
  go_quiet (fail)
  go_wp2_with fail
  go_quiet (fail)
  go_wp2
  go_ret2
  refine ⟨rfl, Below.setCell (p := ⟨d, 1, none⟩) ?_ (Nat.le_refl _) _⟩
  exact below_drewN (Below.refl d w) _

/-! ### Plain: 'v<<8 | c' -/
theorem or_add (A c : Nat) (h : A % 256 = 0) (hc : c < 256) : A ||| c = A + c := by
  have h1 : A = 2 ^ 8 * (A / 256) := by omega
  rw [h1, ← Nat.two_pow_add_eq_or_of_lt (by omega) (A / 256)]
theorem i64_or8 (x c : Int) (h0 : -9223372036854775808 ≤ x) (h1 : x ≤ 9223372036854775807) (hx : x % 256 = 0) (h2 : 0 ≤ c) (h3 : c < 256) : bits .or .i64 x c = x + c := by
  have e1 : (BitVec.ofInt 64 x).toNat = (x % 18446744073709551616).toNat := by
    rw [BitVec.toNat_ofInt]; rfl
  have e2 : (BitVec.ofInt 64 c).toNat = c.toNat := by
    rw [BitVec.toNat_ofInt]
    congr 1
    show c % 18446744073709551616 = c
    omega
  show IntKind.i64.wrap ((BitVec.ofInt 64 x ||| BitVec.ofInt 64 c).toNat : Int) = _
  rw [BitVec.toNat_or, e1, e2, or_add _ _ (by omega) (by omega), IntKind.wrap_i64]
  omega

theorem ret_val {a b : Int} {v : Value} (h : a = b) : Ending.returned (.tuple #[.int .i64 a, v]) = .returned (.tuple #[.int .i64 b, v]) := by rw [h]

def cval (x : Int) (cs : List Int) : Int := cs.foldl (fun a c => a * 256 + c) x
theorem cval_snoc (x : Int) (cs : List Int) (k : Nat) (h : k < cs.length) : cval x (cs.take (k + 1)) = cval x (cs.take k) * 256 + cs.getD k 0 := by
  unfold cval
  rw [List.take_succ_eq_append_getElem h, List.foldl_append]
  simp [List.getD, h]
theorem cval_bd (x : Int) (cs : List Int) (hx : -128 ≤ x ∧ x ≤ 127) (hc : ∀ j, j < cs.length → 0 ≤ cs.getD j 0 ∧ cs.getD j 0 ≤ 255) (hl : cs.length ≤ 2) : ∀ k, k ≤ cs.length → -9000000 ≤ cval x (cs.take k) ∧ cval x (cs.take k) ≤ 9000000 := by
  intro k hk
  have h0 : cval x (cs.take 0) = x := by simp [cval]
  have hk2 : k = 0 ∨ k = 1 ∨ k = 2 := by omega
  rcases hk2 with rfl | rfl | rfl
  · rw [h0]; omega
  · rw [cval_snoc x cs 0 (by omega), h0]
    have := hc 0 (by omega)
    omega
  · rw [cval_snoc x cs 1 (by omega), cval_snoc x cs 0 (by omega), h0]
    have := hc 0 (by omega)
    have := hc 1 (by omega)
    omega

set_option maxHeartbeats 1000000 in
/-- (*Decoder).compact at the message's head. -/
theorem compact_any (d : Nat) (ao : Option Addr) (L C : Nat) (t z : Int) (cs : List Int) (w : World) (h0 : w.cell? ⟨d, 0, none⟩ = some (.slice ao L C)) (h1 : w.cell? ⟨d, 1, none⟩ = some (.int .i64 0)) (hf : w.frozen? ⟨d, 1, none⟩ = false)
    (hn : cs.length ≤ L) (hL : L ≤ C) (hC : C ≤ 9223372036854775807) (ht : 0 ≤ t ∧ t ≤ 255) (hz : 0 ≤ z ∧ z ≤ 255) (htz : -128 ≤ t - z ∧ t - z ≤ 127) (hlen : cs.length ≤ 2)
    (hcs : ∀ j, j < cs.length → 0 ≤ cs.getD j 0 ∧ cs.getD j 0 ≤ 255)
    (hcell : ∀ j, j < cs.length → ∃ g q, ao = some ⟨g, q, none⟩ ∧ g < d ∧ w.cell? ⟨g, q + j, none⟩ = some (.int .u8 (cs.getD j 0))) :
    Calls Try.prog 33 #[.pointer (some ⟨d, 0, none⟩), .int .u8 t, .int .u8 z, .int .i64 (cs.length : Int)] w fun e w' => e = .returned (.tuple #[.int .i64 (cval (t - z) cs), .nilIface]) ∧ Below d w w' := by
  have hbd := cval_bd (t - z) cs htz hcs hlen
  have HBD : Hid (∀ k, k ≤ cs.length → -9000000 ≤ cval (t - z) (cs.take k) ∧ cval (t - z) (cs.take k) ≤ 9000000) := hbd
  have HCS : Hid (∀ j, j < cs.length → 0 ≤ cs.getD j 0 ∧ cs.getD j 0 ≤ 255) := hcs
  have HCL : Hid (∀ j, j < cs.length → ∃ g q, ao = some ⟨g, q, none⟩ ∧ g < d ∧ w.cell? ⟨g, q + j, none⟩ = some (.int .u8 (cs.getD j 0))) := hcell
  clear hbd hcs hcell
  go_enter Try.func33, Try.ntmps33
  go_wp2_with fail
  refine (take_any d ao L C cs.length _ h0 h1 hf hn hL hC).mono ?_
  rintro e w1 ⟨rfl, hb1⟩
  clear h0 h1 hf
  go_wp2_with fail
  go_loop [12, 31] (fun v i => ∃ k : Nat, k ≤ cs.length ∧ i = .int .i64 k ∧ v = .int .i64 (cval (t - z) (cs.take k))) (fun _ i => cs.length - (intOf i).toNat)
  case atStart => exact ⟨0, Nat.zero_le _, rfl, by simp [cval]⟩
  case round =>
    obtain ⟨k, hk, rfl, rfl⟩ := hrel
    have hv := HBD.out k hk
    by_cases hlt : k < cs.length
    · have hlt' : (k : Int) < (cs.length : Int) := by omega
      obtain ⟨g, q, hao, hgd, hcl⟩ := HCL.out k hlt
      have hcl1 : w1.cell? ⟨g, q + k, none⟩ = some (.int .u8 (cs.getD k 0)) := by rw [hb1.cell (p := ⟨g, q + k, none⟩) hgd]; exact hcl
      have hbc := HCS.out k hlt
      have hsn := cval_snoc (t - z) cs k hlt
      have HSN : Hid (cval (t - z) (cs.take (k + 1)) = cval (t - z) (cs.take k) * 256 + cs.getD k 0) := hsn
      clear hsn hcl
      generalize hcc : cs.getD k 0 = c at *
      generalize hvv : cval (t - z) (cs.take k) = V at *
      have HV : Hid (cval (t - z) (cs.take k) = V) := hvv
      clear hcc hvv
      have hor := i64_or8 (V * 256) c (by omega) (by omega) (by omega) (by omega) (by omega)
      rw [hao]
      go_wp2
      go_round
      case rel => exact ⟨k + 1, by omega, by go_num, by rw [HSN.out]⟩
      case measure => simp [intOf]; omega
    · have hlt' : ¬ (k : Int) < (cs.length : Int) := by omega
      have HK : Hid (cs.take k = cs) := List.take_of_length_le (by omega)
      go_wp2
      go_ret2
      refine ⟨ret_val ?_, hb1⟩
      rw [HK.out]

set_option maxHeartbeats 1000000 in
/-- ZZcompact. -/
theorem zzCompact_any (ao : Option Addr) (L C : Nat) (t z : Int) (cs : List Int) (w : World)
    (hn : cs.length ≤ L) (hL : L ≤ C) (hC : C ≤ 9223372036854775807) (ht : 0 ≤ t ∧ t ≤ 255) (hz : 0 ≤ z ∧ z ≤ 255) (htz : -128 ≤ t - z ∧ t - z ≤ 127) (hlen : cs.length ≤ 2)
    (hcs : ∀ j, j < cs.length → 0 ≤ cs.getD j 0 ∧ cs.getD j 0 ≤ 255)
    (hcell : ∀ j, j < cs.length → ∃ g q, ao = some ⟨g, q, none⟩ ∧ g < w.heap.size ∧ w.cell? ⟨g, q + j, none⟩ = some (.int .u8 (cs.getD j 0))) :
    Calls Try.prog 26 #[.slice ao L C, .int .u8 t, .int .u8 z, .int .i64 (cs.length : Int)] w fun e w' => e = .returned (.tuple #[.int .i64 (cval (t - z) cs), .nilIface]) ∧ Below w.heap.size w w' := by
  have HCS : Hid (∀ j, j < cs.length → 0 ≤ cs.getD j 0 ∧ cs.getD j 0 ≤ 255) := hcs
  have HCL : Hid (∀ j, j < cs.length → ∃ g q, ao = some ⟨g, q, none⟩ ∧ g < w.heap.size ∧ w.cell? ⟨g, q + j, none⟩ = some (.int .u8 (cs.getD j 0))) := hcell
  clear hcs hcell
  go_enter Try.func26, Try.ntmps26
  go_wp2_with (go_at_call 32; go_in)
  refine (compact_any w.heap.size ao L C t z cs _ (by simp) (by simp) (by simp) hn hL hC ht hz htz hlen HCS.out (fun j hj => ?_)).mono ?_
  · obtain ⟨g, q, h1, h2, h3⟩ := HCL.out j hj
    exact ⟨g, q, h1, h2, by rw [Below.cell ((Below.refl _ w).alloc (Nat.le_refl _) _) (p := ⟨g, q + j, none⟩) h2]; exact h3⟩
  rintro e w1 ⟨rfl, hb1⟩
  go_wp2_with fail
  go_ret2
  exact ⟨rfl, ((Below.refl _ w).alloc (Nat.le_refl _) _).trans hb1⟩

end Go.Proofs.Qxb6613196a
