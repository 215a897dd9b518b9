import Derived.Test.Qxb6613196aA2
import Derived.Deep.QuietTactic
import Derived.BigQuiet
namespace Go.Proofs.Qxb6613196a
open Go.RowKit

def contB (b : Int) : Bool := decide (128 ≤ b) && decide (b ≤ 191)
def highB (u : Int) : Bool := decide (55296 ≤ u) && decide (u ≤ 56319)
theorem contB_t {b : Int} (h0 : 128 ≤ b) (h1 : b ≤ 191) : contB b = true := by simp [contB, h0, h1]
theorem contB_f {b : Int} (h : b < 128 ∨ 191 < b) : contB b = false := by unfold contB; simp; omega

set_option maxHeartbeats 400000 in
theorem zzCont_any (b : Int) (w : World) : Calls Try.prog 23 #[.int .u8 b] w fun e w' => e = .returned (.bool (contB b)) ∧ w' = w := by
  have ret_bool : ∀ {a b : Bool}, a = b → Ending.returned (.bool a) = .returned (.bool b) := by intro a b h; rw [h]
  have HC : Hid (contB b = (decide (128 ≤ b) && decide (b ≤ 191))) := rfl
  by_cases h : 128 ≤ b
  · have d1 : decide (128 ≤ b) = true := decide_eq_true h
    go_enter Try.func23, Try.ntmps23
    go_wp2
    go_ret
    exact ⟨ret_bool (by rw [HC.out]; simp [h]), rfl⟩
  · have d1 : decide (128 ≤ b) = false := decide_eq_false h
    go_enter Try.func23, Try.ntmps23
    go_wp2
    go_ret
    exact ⟨ret_bool (by rw [HC.out, d1, Bool.false_and]), rfl⟩

set_option maxHeartbeats 400000 in
theorem zzIsHigh_any (u : Int) (w : World) : Calls Try.prog 13 #[.int .i64 u] w fun e w' => e = .returned (.bool (highB u)) ∧ w' = w := by
  have ret_bool : ∀ {a b : Bool}, a = b → Ending.returned (.bool a) = .returned (.bool b) := by intro a b h; rw [h]
  have HC : Hid (highB u = (decide (55296 ≤ u) && decide (u ≤ 56319))) := rfl
  by_cases h : 55296 ≤ u
  · have d1 : decide (55296 ≤ u) = true := decide_eq_true h
    go_enter Try.func13, Try.ntmps13
    go_wp2
    go_ret
    exact ⟨ret_bool (by rw [HC.out]; simp [h]), rfl⟩
  · have d1 : decide (55296 ≤ u) = false := decide_eq_false h
    go_enter Try.func13, Try.ntmps13
    go_wp2
    go_ret
    exact ⟨ret_bool (by rw [HC.out, d1, Bool.false_and]), rfl⟩

/-! ### zzReadUnit -/
set_option maxHeartbeats 1000000 in
theorem readUnit_1 (g n cap p : Nat) (c : Int) (w : World) (hp : p + 1 ≤ n) (hc : w.cell? ⟨g, p, none⟩ = some (.int .u8 c)) (h0 : 0 ≤ c) (h1 : c < 128) :
    Calls Try.prog 12 #[.slice (some ⟨g, 0, none⟩) n cap, .int .i64 (p : Int)] w fun e w' => e = .returned (.tuple #[.int .i64 c, .int .i64 1]) ∧ Below w.heap.size w w' := by
  have hp1 : (p : Int) < (n : Int) := by omega
  have hge : ¬ (n : Int) ≤ (p : Int) := by omega
  go_enter Try.func12, Try.ntmps12
  go_wp2_with fail
  go_ret2
  exact ⟨ret_tup2 rfl rfl, Below.refl _ _⟩

set_option maxHeartbeats 1000000 in
theorem readUnit_2 (g n cap p : Nat) (c d : Int) (w : World) (hp : p + 2 ≤ n) (hn : n ≤ 1000000000000) (hc : w.cell? ⟨g, p, none⟩ = some (.int .u8 c)) (hd : w.cell? ⟨g, p + 1, none⟩ = some (.int .u8 d)) (h0 : 194 ≤ c) (h1 : c ≤ 223) (h2 : 128 ≤ d) (h3 : d ≤ 191) :
    Calls Try.prog 12 #[.slice (some ⟨g, 0, none⟩) n cap, .int .i64 (p : Int)] w fun e w' => e = .returned (.tuple #[.int .i64 ((c - 192) * 64 + (d - 128)), .int .i64 2]) ∧ Below w.heap.size w w' := by
  have hp1 : (p : Int) < (n : Int) := by omega
  have hge : ¬ (n : Int) ≤ (p : Int) := by omega
  have hp2 : (p : Int) + 1 < (n : Int) := by omega
  have hlt : ¬ (n : Int) - (p : Int) < 2 := by omega
  have hcb := contB_t h2 h3
  go_enter Try.func12, Try.ntmps12
  go_wp2_with (go_at_call 23; refine (zzCont_any d _).mono ?_; rintro e w' ⟨rfl, rfl⟩)
  go_ret2
  exact ⟨ret_tup2 rfl rfl, Below.refl _ _⟩

set_option maxHeartbeats 1000000 in
theorem readUnit_3 (g n cap p : Nat) (c d1 d2 : Int) (w : World) (hp : p + 3 ≤ n) (hn : n ≤ 1000000000000) (hc : w.cell? ⟨g, p, none⟩ = some (.int .u8 c)) (hd1 : w.cell? ⟨g, p + 1, none⟩ = some (.int .u8 d1)) (hd2 : w.cell? ⟨g, p + 2, none⟩ = some (.int .u8 d2)) (h0 : 224 ≤ c) (h1 : c ≤ 239) (h2 : 128 ≤ d1) (h3 : d1 ≤ 191) (h4 : 128 ≤ d2) (h5 : d2 ≤ 191)
    (hu : 2048 ≤ (c - 224) * 4096 + (d1 - 128) * 64 + (d2 - 128)) :
    Calls Try.prog 12 #[.slice (some ⟨g, 0, none⟩) n cap, .int .i64 (p : Int)] w fun e w' => e = .returned (.tuple #[.int .i64 ((c - 224) * 4096 + (d1 - 128) * 64 + (d2 - 128)), .int .i64 3]) ∧ Below w.heap.size w w' := by
  have hp1 : (p : Int) < (n : Int) := by omega
  have hge : ¬ (n : Int) ≤ (p : Int) := by omega
  have hp2 : (p : Int) + 1 < (n : Int) := by omega
  have hp3 : (p : Int) + 2 < (n : Int) := by omega
  have hlt : ¬ (n : Int) - (p : Int) < 3 := by omega
  have hcb1 := contB_t h2 h3
  have hcb2 := contB_t h4 h5
  go_enter Try.func12, Try.ntmps12
  go_wp2_with (go_at_call 23; refine (zzCont_any _ _).mono ?_; rintro e w' ⟨rfl, rfl⟩)
  go_quiet (fail)
  go_wp2_with fail
  go_ret2
  exact ⟨ret_tup2 rfl rfl, below_drewN (Below.refl _ _) _⟩

/-- zzReadUnit where the bytes of u lie. -/
theorem readUnit_any (g n cap p : Nat) (u : Int) (w : World) (h0 : 0 ≤ u) (h1 : u < 65536) (hp : p + (unitBytes u).length ≤ n) (hn : n ≤ 1000000000000)
    (hc : ∀ j, j < (unitBytes u).length → w.cell? ⟨g, p + j, none⟩ = some (.int .u8 ((unitBytes u).getD j 0))) :
    Calls Try.prog 12 #[.slice (some ⟨g, 0, none⟩) n cap, .int .i64 (p : Int)] w fun e w' => e = .returned (.tuple #[.int .i64 u, .int .i64 ((unitBytes u).length : Int)]) ∧ Below w.heap.size w w' := by
  by_cases c1 : u < 128
  · have e : unitBytes u = [u] := by unfold unitBytes; rw [if_pos c1]
    rw [e] at hp hc ⊢
    exact readUnit_1 g n cap p u w hp (hc 0 (by simp)) h0 c1
  · by_cases c2 : u < 2048
    · have e : unitBytes u = [192 + u / 64, 128 + u % 64] := by unfold unitBytes; rw [if_neg c1, if_pos c2]
      rw [e] at hp hc ⊢
      refine (readUnit_2 g n cap p (192 + u / 64) (128 + u % 64) w hp hn (hc 0 (by simp)) (hc 1 (by simp)) (by omega) (by omega) (by omega) (by omega)).mono ?_
      rintro e w' ⟨rfl, hb⟩
      exact ⟨ret_tup2 (by omega) rfl, hb⟩
    · have e : unitBytes u = [224 + u / 4096, 128 + u / 64 % 64, 128 + u % 64] := by unfold unitBytes; rw [if_neg c1, if_neg c2]
      rw [e] at hp hc ⊢
      refine (readUnit_3 g n cap p (224 + u / 4096) (128 + u / 64 % 64) (128 + u % 64) w hp hn (hc 0 (by simp)) (hc 1 (by simp)) (hc 2 (by simp)) (by omega) (by omega) (by omega) (by omega) (by omega) (by omega) (by omega)).mono ?_
      rintro e w' ⟨rfl, hb⟩
      exact ⟨ret_tup2 (by omega) rfl, hb⟩

end Go.Proofs.Qxb6613196a
