import Derived.Test.Qxb6613128aRows
import Derived.WalkKit
import Derived.WalkLawsBesides
import Derived.WalkSpells
namespace Go.Proofs.Qxb6613128a
open Go.RowKit

theorem ret_bool {a b : Bool} (h : a = b) : Ending.returned (.bool a) = .returned (.bool b) := by rw [h]

/-- t is "filesystem", "volume". -/
def isF (t : ByteArray) : Bool := t.toList == [102, 105, 108, 101, 115, 121, 115, 116, 101, 109]
def isV (t : ByteArray) : Bool := t.toList == [118, 111, 108, 117, 109, 101]

set_option maxHeartbeats 1000000 in
theorem takes_any (n : ByteArray) (f v c l : Bool) (vs t : ByteArray) (w : World) :
    Calls Try.prog 7 #[.string n, .bool f, .bool v, .bool c, .bool l, .string vs, .string t] w fun e w' => e = .returned (.bool ((isF t && f) || (isV t && v))) ∧ Below w.heap.size w w' := by
  have HF : Hid (isF t = (t.toList == [102, 105, 108, 101, 115, 121, 115, 116, 101, 109])) := rfl
  have HV : Hid (isV t = (t.toList == [118, 111, 108, 117, 109, 101])) := rfl
  go_enter Try.func7, Try.ntmps7
  go_wp2
  all_goals
    go_ret
    refine ⟨ret_bool ?_, (Below.refl _ _).alloc (Nat.le_refl _) _⟩
    rw [HF.out, HV.out]
    simp_all

set_option maxHeartbeats 400000 in
theorem zzBytes6_in (n : ByteArray) (f v c l : Bool) (vs t : ByteArray) (w : World) (h : n.size + vs.size + t.size ≤ 1048576) :
    Calls Try.prog 6 #[.string n, .bool f, .bool v, .bool c, .bool l, .string vs, .string t] w fun e w' => e = .returned (.bool true) ∧ w' = w := by
  have h1 : ¬ (1048576 : Int) < (n.size : Int) := by omega
  have h2 : ¬ (1048576 : Int) < (vs.size : Int) := by omega
  have h3 : ¬ (1048576 : Int) < (n.size : Int) + (vs.size : Int) := by omega
  have h4 : ¬ (1048576 : Int) < (t.size : Int) := by omega
  have h5 : ¬ (1048576 : Int) < (n.size : Int) + (vs.size : Int) + (t.size : Int) := by omega
  go_enter Try.func6, Try.ntmps6
  go_wp2
  go_ret
  exact ⟨rfl, rfl⟩

set_option maxHeartbeats 1000000 in
theorem zzBytes6_out (n : ByteArray) (f v c l : Bool) (vs t : ByteArray) (w : World) (hn : n.size ≤ maxLen) (hv : vs.size ≤ maxLen) (ht : t.size ≤ maxLen) (h : 1048576 < n.size + vs.size + t.size) :
    Calls Try.prog 6 #[.string n, .bool f, .bool v, .bool c, .bool l, .string vs, .string t] w fun e w' => e = .returned (.bool false) ∧ w' = w := by
  unfold maxLen at hn hv ht
  by_cases h1 : (1048576 : Int) < (n.size : Int)
  · go_enter Try.func6, Try.ntmps6
    go_wp2
    go_ret
    exact ⟨rfl, rfl⟩
  · by_cases h2 : (1048576 : Int) < (vs.size : Int)
    · go_enter Try.func6, Try.ntmps6
      go_wp2
      go_ret
      exact ⟨rfl, rfl⟩
    · by_cases h3 : (1048576 : Int) < (n.size : Int) + (vs.size : Int)
      · go_enter Try.func6, Try.ntmps6
        go_wp2
        go_ret
        exact ⟨rfl, rfl⟩
      · by_cases h4 : (1048576 : Int) < (t.size : Int)
        · go_enter Try.func6, Try.ntmps6
          go_wp2
          go_ret
          exact ⟨rfl, rfl⟩
        · have h5 : (1048576 : Int) < (n.size : Int) + (vs.size : Int) + (t.size : Int) := by omega
          go_enter Try.func6, Try.ntmps6
          go_wp2
          go_ret
          exact ⟨rfl, rfl⟩

set_option maxHeartbeats 2000000 in
theorem walk3 (n : ByteArray) (f v c l : Bool) (vs t : ByteArray) (w : World) (hn : n.size ≤ maxLen) (hv : vs.size ≤ maxLen) (ht : t.size ≤ maxLen) :
    Calls Try.prog 3 #[.string n, .bool f, .bool v, .bool c, .bool l, .string vs, .string t] w fun e w' => e = .returned (.bool true) ∧ Below w.heap.size w w' := by
  by_cases h0 : 1048576 < n.size + vs.size + t.size
  · go_enter Try.func3, Try.ntmps3
    go_wp2_with (go_at_call 6; refine (zzBytes6_out n f v c l vs t _ hn hv ht h0).mono ?_; rintro e w' ⟨rfl, rfl⟩)
    go_ret
    exact ⟨rfl, Below.refl _ _⟩
  by_cases h1 : 262144 < n.size
  · have d1 : decide ((262144 : Int) < (n.size : Int)) = true := decide_eq_true (by omega)
    go_enter Try.func3, Try.ntmps3
    go_wp2_with (go_at_call 6; refine (zzBytes6_in n f v c l vs t _ (by omega)).mono ?_; rintro e w' ⟨rfl, rfl⟩)
    go_ret
    exact ⟨rfl, Below.refl _ _⟩
  have d1 : decide ((262144 : Int) < (n.size : Int)) = false := decide_eq_false (by omega)
  by_cases h2 : 262144 < vs.size
  · have d2 : decide ((262144 : Int) < (vs.size : Int)) = true := decide_eq_true (by omega)
    go_enter Try.func3, Try.ntmps3
    go_wp2_with (go_at_call 6; refine (zzBytes6_in n f v c l vs t _ (by omega)).mono ?_; rintro e w' ⟨rfl, rfl⟩)
    go_ret
    exact ⟨rfl, Below.refl _ _⟩
  have d2 : decide ((262144 : Int) < (vs.size : Int)) = false := decide_eq_false (by omega)
  by_cases h3 : 262144 < t.size
  · have d3 : decide ((262144 : Int) < (t.size : Int)) = true := decide_eq_true (by omega)
    go_enter Try.func3, Try.ntmps3
    go_wp2_with (go_at_call 6; refine (zzBytes6_in n f v c l vs t _ (by omega)).mono ?_; rintro e w' ⟨rfl, rfl⟩)
    go_ret
    exact ⟨rfl, Below.refl _ _⟩
  have d3 : decide ((262144 : Int) < (t.size : Int)) = false := decide_eq_false (by omega)
  go_enter Try.func3, Try.ntmps3
  go_wp2_with (go_at_call 6; refine (zzBytes6_in n f v c l vs t _ (by omega)).mono ?_; rintro e w' ⟨rfl, rfl⟩)
  clear d1 d2 d3
  refine (takes_any n f v c l vs t _).mono ?_
  rintro e W1 ⟨rfl, hb1⟩
  go_wp2_with fail
  refine (takes_any n f false c l vs t _).mono ?_
  rintro e W2 ⟨rfl, hb2⟩
  go_wp2_with fail
  refine (takes_any n false v c l vs t _).mono ?_
  rintro e W3 ⟨rfl, hb3⟩
  go_wp2_with fail
  refine (takes_any n true true c l vs t _).mono ?_
  rintro e W4 ⟨rfl, hb4⟩
  have hb : Below w'.heap.size w' W4 := ((hb1.trans (hb2.mono hb1.size)).trans (hb3.mono (Nat.le_trans hb1.size hb2.size))).trans (hb4.mono (Nat.le_trans (Nat.le_trans hb1.size hb2.size) hb3.size))
  clear hb1 hb2 hb3 hb4
  have HFV : Hid (isF t = (t.toList == [102, 105, 108, 101, 115, 121, 115, 116, 101, 109]) ∧ isV t = (t.toList == [118, 111, 108, 117, 109, 101])) := ⟨rfl, rfl⟩
  cases hf : isF t
  · have htf : (t.toList == [102, 105, 108, 101, 115, 121, 115, 116, 101, 109]) = false := by rw [← HFV.out.1]; exact hf
    cases hv2 : isV t
    · have htv : (t.toList == [118, 111, 108, 117, 109, 101]) = false := by rw [← HFV.out.2]; exact hv2
      go_wp2_with fail
      go_ret
      exact ⟨rfl, hb⟩
    · have htv : (t.toList == [118, 111, 108, 117, 109, 101]) = true := by rw [← HFV.out.2]; exact hv2
      cases v
      · go_wp2_with fail
        go_ret
        exact ⟨rfl, hb⟩
      · go_wp2_with fail
        go_ret
        exact ⟨rfl, hb⟩
  · have htf : (t.toList == [102, 105, 108, 101, 115, 121, 115, 116, 101, 109]) = true := by rw [← HFV.out.1]; exact hf
    have htl : t.toList = [102, 105, 108, 101, 115, 121, 115, 116, 101, 109] := by simpa using htf
    have hv2 : isV t = false := by rw [HFV.out.2, htl]; decide
    clear htl
    cases f
    · go_wp2_with fail
      go_ret
      exact ⟨rfl, hb⟩
    · go_wp2_with fail
      go_ret
      exact ⟨rfl, hb⟩

end Go.Proofs.Qxb6613128a
