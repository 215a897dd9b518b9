import Derived.Test.Qxb6613243aRows
import Derived.WalkKit
import Derived.WalkLawsBesides
import Derived.WalkSpells
namespace Go.Proofs.Qxb6613243a
open Go.RowKit

/-! ### Plain -/
def nb (b : Int) : Bool := (decide (97 ≤ b) && decide (b ≤ 122)) || (decide (65 ≤ b) && decide (b ≤ 90)) || (decide (48 ≤ b) && decide (b ≤ 57)) || b == 95 || decide (128 ≤ b)
/-- A byte behind which a word may start. -/
def brk (b : Int) : Bool := !nb b && b != 36
def bAt (s : ByteArray) (k : Nat) : Int := ((s.data.toList.getD k 0).toNat : Int)
theorem bAt_get (s : ByteArray) (k : Nat) (h : k < s.size) : bAt s k = ((s[k]'h).toNat : Int) := by
  unfold bAt
  congr 2
  have h' : k < s.data.toList.length := h
  rw [List.getD_eq_getElem?_getD, List.getElem?_eq_getElem h']
  rfl
theorem bAt_bd (s : ByteArray) (k : Nat) : 0 ≤ bAt s k ∧ bAt s k ≤ 255 := by
  unfold bAt
  have := (s.data.toList.getD k 0).toNat_lt
  omega

theorem ret_bool {a b : Bool} (h : a = b) : Ending.returned (.bool a) = .returned (.bool b) := by rw [h]

theorem nb_cases (b : Int) (h0 : 0 ≤ b) (h1 : b ≤ 255) : (b < 48) ∨ (48 ≤ b ∧ b ≤ 57) ∨ (58 ≤ b ∧ b ≤ 64) ∨ (65 ≤ b ∧ b ≤ 90) ∨ (91 ≤ b ∧ b ≤ 94) ∨ (b = 95) ∨ (b = 96) ∨ (97 ≤ b ∧ b ≤ 122) ∨ (123 ≤ b ∧ b ≤ 127) ∨ 128 ≤ b := by omega

set_option maxHeartbeats 1000000 in
theorem nameByte_any (b : Int) (w : World) (h0 : 0 ≤ b) (h1 : b ≤ 255) :
    Calls Try.prog 20 #[.int .u8 b] w fun e w' => e = .returned (.bool (nb b)) ∧ w' = w := by
  have hn : nb b = (decide (48 ≤ b ∧ b ≤ 57) || decide (65 ≤ b ∧ b ≤ 90) || decide (b = 95) || decide (97 ≤ b ∧ b ≤ 122) || decide (128 ≤ b)) := by
    unfold nb
    rw [Bool.eq_iff_iff]
    simp
    omega
  have HN : Hid (nb b = (decide (48 ≤ b ∧ b ≤ 57) || decide (65 ≤ b ∧ b ≤ 90) || decide (b = 95) || decide (97 ≤ b ∧ b ≤ 122) || decide (128 ≤ b))) := hn
  clear hn
  rcases nb_cases b h0 h1 with c | ⟨c, c'⟩ | ⟨c, c'⟩ | ⟨c, c'⟩ | ⟨c, c'⟩ | c | c | ⟨c, c'⟩ | ⟨c, c'⟩ | c
  all_goals
    go_enter Try.func20, Try.ntmps20
    go_wp2
    go_ret
    exact ⟨ret_bool (by rw [HN.out, Bool.eq_iff_iff]; simp; try omega), rfl⟩

set_option maxHeartbeats 1000000 in
theorem startsWord_zero (s : ByteArray) (w : World) :
    Calls Try.prog 18 #[.string s, .int .i64 0] w fun e w' => e = .returned (.bool true) ∧ w' = w := by
  go_enter Try.func18, Try.ntmps18
  go_wp2
  go_ret
  exact ⟨rfl, rfl⟩

set_option maxHeartbeats 1000000 in
theorem startsWord_at (s : ByteArray) (k : Nat) (i : Int) (w : World) (hi : i = (k : Int) + 1) (hk : k < s.size) (hs : s.size ≤ 1000000000000) :
    Calls Try.prog 18 #[.string s, .int .i64 i] w fun e w' => e = .returned (.bool (brk (bAt s k))) ∧ w' = w := by
  have hb := bAt_bd s k
  have hg := bAt_get s k hk
  have HG : Hid (bAt s k = ((s[k]'hk).toNat : Int)) := hg
  clear hg
  have hi0 : (i == 0) = false := by simp; omega
  have hik : i - 1 = (k : Int) := by omega
  have hks : (k : Int) < (s.size : Int) := by omega
  go_enter Try.func18, Try.ntmps18
  go_wp2_with fail
  refine (nameByte_any _ _ (by omega) (by have := (s[k]'hk).toNat_lt; omega)).mono ?_
  rintro e w' ⟨rfl, rfl⟩
  cases hnb : nb ((s[k]'hk).toNat : Int)
  · go_wp2_with fail
    go_ret
    refine ⟨ret_bool ?_, rfl⟩
    rw [HG.out]
    unfold brk
    rw [hnb]
    simp
    intro h
    omega
  · go_wp2_with fail
    go_ret
    refine ⟨ret_bool ?_, rfl⟩
    rw [HG.out]
    unfold brk
    rw [hnb]
    simp
    intro h
    omega

set_option maxHeartbeats 1000000 in
theorem zzStartsWord_zero (s : ByteArray) (w : World) :
    Calls Try.prog 8 #[.string s, .int .i64 0] w fun e w' => e = .returned (.bool true) ∧ w' = w := by
  go_enter Try.func8, Try.ntmps8
  go_wp2_with (go_at_call 18; refine (startsWord_zero s _).mono ?_; rintro e w' ⟨rfl, rfl⟩)
  go_ret
  exact ⟨rfl, rfl⟩

set_option maxHeartbeats 1000000 in
theorem zzStartsWord_at (s : ByteArray) (k : Nat) (i : Int) (w : World) (hi : i = (k : Int) + 1) (hk : k < s.size) (hs : s.size ≤ 1000000000000) :
    Calls Try.prog 8 #[.string s, .int .i64 i] w fun e w' => e = .returned (.bool (brk (bAt s k))) ∧ w' = w := by
  have HI : Hid (i = (k : Int) + 1) := hi
  clear hi
  go_enter Try.func8, Try.ntmps8
  go_wp2_with (go_at_call 18; refine (startsWord_at s k i _ HI.out hk hs).mono ?_; rintro e w' ⟨rfl, rfl⟩)
  go_ret
  exact ⟨rfl, rfl⟩

end Go.Proofs.Qxb6613243a
