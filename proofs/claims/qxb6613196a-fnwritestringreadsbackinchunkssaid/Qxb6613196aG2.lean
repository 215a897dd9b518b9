import Derived.Test.Qxb6613196aG1
namespace Go.Proofs.Qxb6613196a
open Go.RowKit
set_option linter.unusedVariables false

set_option maxRecDepth 100000 in
set_option maxHeartbeats 2000000 in
theorem dr_1 (s : ByteArray) (i : Nat) (b0 : Int) (w : World) (hi0 : i < s.size) (hs : s.size ≤ 1048576) (e0 : ((s[i]'hi0).toNat : Int) = b0) (c0 : 0 ≤ b0) (c1 : b0 < 128) :
    Calls Try.prog 24 #[.string s, .int .i64 (i : Int)] w fun e w' => e = .returned (.tuple #[.int .i64 (b0), .int .i64 1]) ∧ Below w.heap.size w w' := by
  have hi : (i : Int) < (s.size : Int) := by omega
  go_enter Try.func24, Try.ntmps24
  go_wp2_with (go_at_call 23; refine (zzCont_any _ _).mono ?_; rintro e w' ⟨rfl, rfl⟩)
  go_ret2
  exact ⟨ret_tup2 (by omega) rfl, Below.refl _ _⟩

set_option maxRecDepth 100000 in
set_option maxHeartbeats 2000000 in
theorem dr_5a (s : ByteArray) (i : Nat) (b0 : Int) (w : World) (hi0 : i < s.size) (hs : s.size ≤ 1048576) (e0 : ((s[i]'hi0).toNat : Int) = b0) (c0 : 128 ≤ b0) (c1 : b0 < 194) :
    Calls Try.prog 24 #[.string s, .int .i64 (i : Int)] w fun e w' => e = .returned (.tuple #[.int .i64 (65533), .int .i64 1]) ∧ Below w.heap.size w w' := by
  have hi : (i : Int) < (s.size : Int) := by omega
  go_enter Try.func24, Try.ntmps24
  go_wp2_with (go_at_call 23; refine (zzCont_any _ _).mono ?_; rintro e w' ⟨rfl, rfl⟩)
  go_ret2
  exact ⟨ret_tup2 (by omega) rfl, Below.refl _ _⟩

set_option maxRecDepth 100000 in
set_option maxHeartbeats 2000000 in
theorem dr_5b (s : ByteArray) (i : Nat) (b0 : Int) (w : World) (hi0 : i < s.size) (hs : s.size ≤ 1048576) (e0 : ((s[i]'hi0).toNat : Int) = b0) (c0 : 244 < b0) (c1 : b0 ≤ 255) :
    Calls Try.prog 24 #[.string s, .int .i64 (i : Int)] w fun e w' => e = .returned (.tuple #[.int .i64 (65533), .int .i64 1]) ∧ Below w.heap.size w w' := by
  have hi : (i : Int) < (s.size : Int) := by omega
  go_enter Try.func24, Try.ntmps24
  go_wp2_with (go_at_call 23; refine (zzCont_any _ _).mono ?_; rintro e w' ⟨rfl, rfl⟩)
  go_ret2
  exact ⟨ret_tup2 (by omega) rfl, Below.refl _ _⟩

set_option maxRecDepth 100000 in
set_option maxHeartbeats 2000000 in
theorem dr_2ok (s : ByteArray) (i : Nat) (b0 b1 : Int) (w : World) (hi0 : i < s.size) (hz : i + 1 < s.size) (hs : s.size ≤ 1048576) (e0 : ((s[i]'hi0).toNat : Int) = b0) (e1 : ((s[i + 1]'(by omega)).toNat : Int) = b1) (c0 : 194 ≤ b0) (c1 : b0 ≤ 223) (d0 : 128 ≤ b1) (d1 : b1 ≤ 191) :
    Calls Try.prog 24 #[.string s, .int .i64 (i : Int)] w fun e w' => e = .returned (.tuple #[.int .i64 ((b0 - 192) * 64 + (b1 - 128)), .int .i64 2]) ∧ Below w.heap.size w w' := by
  have hi : (i : Int) < (s.size : Int) := by omega
  have hl : 2 ≤ (s.size : Int) - (i : Int) := by omega
  have hcb := contB_t d0 d1
  have hi1 : (i : Int) + 1 < (s.size : Int) := by omega
  go_enter Try.func24, Try.ntmps24
  go_wp2_with (go_at_call 23; refine (zzCont_any _ _).mono ?_; rintro e w' ⟨rfl, rfl⟩)
  go_ret2
  exact ⟨ret_tup2 (by omega) rfl, Below.refl _ _⟩

set_option maxRecDepth 100000 in
set_option maxHeartbeats 2000000 in
theorem dr_2bad (s : ByteArray) (i : Nat) (b0 b1 : Int) (w : World) (hi0 : i < s.size) (hz : i + 1 < s.size) (hs : s.size ≤ 1048576) (e0 : ((s[i]'hi0).toNat : Int) = b0) (e1 : ((s[i + 1]'(by omega)).toNat : Int) = b1) (c0 : 194 ≤ b0) (c1 : b0 ≤ 223) (d0 : b1 < 128 ∨ 191 < b1) :
    Calls Try.prog 24 #[.string s, .int .i64 (i : Int)] w fun e w' => e = .returned (.tuple #[.int .i64 (65533), .int .i64 1]) ∧ Below w.heap.size w w' := by
  have hi : (i : Int) < (s.size : Int) := by omega
  have hl : 2 ≤ (s.size : Int) - (i : Int) := by omega
  have hcb := contB_f d0
  have hi1 : (i : Int) + 1 < (s.size : Int) := by omega
  go_enter Try.func24, Try.ntmps24
  go_wp2_with (go_at_call 23; refine (zzCont_any _ _).mono ?_; rintro e w' ⟨rfl, rfl⟩)
  go_ret2
  exact ⟨ret_tup2 (by omega) rfl, Below.refl _ _⟩

set_option maxRecDepth 100000 in
set_option maxHeartbeats 2000000 in
theorem dr_2short (s : ByteArray) (i : Nat) (b0 : Int) (w : World) (hi0 : i < s.size) (hs : s.size ≤ 1048576) (e0 : ((s[i]'hi0).toNat : Int) = b0) (hsh : s.size < i + 2) (c0 : 194 ≤ b0) (c1 : b0 ≤ 223) :
    Calls Try.prog 24 #[.string s, .int .i64 (i : Int)] w fun e w' => e = .returned (.tuple #[.int .i64 (65533), .int .i64 1]) ∧ Below w.heap.size w w' := by
  have hi : (i : Int) < (s.size : Int) := by omega
  have hl : ¬ 2 ≤ (s.size : Int) - (i : Int) := by omega
  go_enter Try.func24, Try.ntmps24
  go_wp2_with (go_at_call 23; refine (zzCont_any _ _).mono ?_; rintro e w' ⟨rfl, rfl⟩)
  go_ret2
  exact ⟨ret_tup2 (by omega) rfl, Below.refl _ _⟩

set_option maxRecDepth 100000 in
set_option maxHeartbeats 2000000 in
theorem dr_3ashort (s : ByteArray) (i : Nat) (w : World) (hi0 : i < s.size) (hs : s.size ≤ 1048576) (e0 : ((s[i]'hi0).toNat : Int) = 224) (hsh : s.size < i + 3) :
    Calls Try.prog 24 #[.string s, .int .i64 (i : Int)] w fun e w' => e = .returned (.tuple #[.int .i64 (65533), .int .i64 1]) ∧ Below w.heap.size w w' := by
  have hi : (i : Int) < (s.size : Int) := by omega
  have hl : ¬ 3 ≤ (s.size : Int) - (i : Int) := by omega
  go_enter Try.func24, Try.ntmps24
  go_wp2_with (go_at_call 23; refine (zzCont_any _ _).mono ?_; rintro e w' ⟨rfl, rfl⟩)
  go_ret2
  exact ⟨ret_tup2 (by omega) rfl, Below.refl _ _⟩

set_option maxRecDepth 100000 in
set_option maxHeartbeats 2000000 in
theorem dr_3alo (s : ByteArray) (i : Nat) (b1 b2 : Int) (w : World) (hi0 : i < s.size) (hz : i + 2 < s.size) (hs : s.size ≤ 1048576) (e0 : ((s[i]'hi0).toNat : Int) = 224) (e1 : ((s[i + 1]'(by omega)).toNat : Int) = b1) (e2 : ((s[i + 2]'(by omega)).toNat : Int) = b2) (d0 : b1 < 160) :
    Calls Try.prog 24 #[.string s, .int .i64 (i : Int)] w fun e w' => e = .returned (.tuple #[.int .i64 (65533), .int .i64 1]) ∧ Below w.heap.size w w' := by
  have hi : (i : Int) < (s.size : Int) := by omega
  have hl : 3 ≤ (s.size : Int) - (i : Int) := by omega
  have hi1 : (i : Int) + 1 < (s.size : Int) := by omega
  have hi2 : (i : Int) + 2 < (s.size : Int) := by omega
  go_enter Try.func24, Try.ntmps24
  go_wp2_with (go_at_call 23; refine (zzCont_any _ _).mono ?_; rintro e w' ⟨rfl, rfl⟩)
  go_ret2
  exact ⟨ret_tup2 (by omega) rfl, Below.refl _ _⟩

set_option maxRecDepth 100000 in
set_option maxHeartbeats 2000000 in
theorem dr_3ahi (s : ByteArray) (i : Nat) (b1 b2 : Int) (w : World) (hi0 : i < s.size) (hz : i + 2 < s.size) (hs : s.size ≤ 1048576) (e0 : ((s[i]'hi0).toNat : Int) = 224) (e1 : ((s[i + 1]'(by omega)).toNat : Int) = b1) (e2 : ((s[i + 2]'(by omega)).toNat : Int) = b2) (d0 : 160 ≤ b1) (d1 : 191 < b1) :
    Calls Try.prog 24 #[.string s, .int .i64 (i : Int)] w fun e w' => e = .returned (.tuple #[.int .i64 (65533), .int .i64 1]) ∧ Below w.heap.size w w' := by
  have hi : (i : Int) < (s.size : Int) := by omega
  have hl : 3 ≤ (s.size : Int) - (i : Int) := by omega
  have hi1 : (i : Int) + 1 < (s.size : Int) := by omega
  have hi2 : (i : Int) + 2 < (s.size : Int) := by omega
  go_enter Try.func24, Try.ntmps24
  go_wp2_with (go_at_call 23; refine (zzCont_any _ _).mono ?_; rintro e w' ⟨rfl, rfl⟩)
  go_ret2
  exact ⟨ret_tup2 (by omega) rfl, Below.refl _ _⟩

set_option maxRecDepth 100000 in
set_option maxHeartbeats 2000000 in
theorem dr_3ac2 (s : ByteArray) (i : Nat) (b1 b2 : Int) (w : World) (hi0 : i < s.size) (hz : i + 2 < s.size) (hs : s.size ≤ 1048576) (e0 : ((s[i]'hi0).toNat : Int) = 224) (e1 : ((s[i + 1]'(by omega)).toNat : Int) = b1) (e2 : ((s[i + 2]'(by omega)).toNat : Int) = b2) (d0 : 160 ≤ b1) (d1 : b1 ≤ 191) (d2 : b2 < 128 ∨ 191 < b2) :
    Calls Try.prog 24 #[.string s, .int .i64 (i : Int)] w fun e w' => e = .returned (.tuple #[.int .i64 (65533), .int .i64 1]) ∧ Below w.heap.size w w' := by
  have hi : (i : Int) < (s.size : Int) := by omega
  have hl : 3 ≤ (s.size : Int) - (i : Int) := by omega
  have hcb := contB_f d2
  have hi1 : (i : Int) + 1 < (s.size : Int) := by omega
  have hi2 : (i : Int) + 2 < (s.size : Int) := by omega
  go_enter Try.func24, Try.ntmps24
  go_wp2_with (go_at_call 23; refine (zzCont_any _ _).mono ?_; rintro e w' ⟨rfl, rfl⟩)
  go_ret2
  exact ⟨ret_tup2 (by omega) rfl, Below.refl _ _⟩

set_option maxRecDepth 100000 in
set_option maxHeartbeats 2000000 in
theorem dr_3aok (s : ByteArray) (i : Nat) (b1 b2 : Int) (w : World) (hi0 : i < s.size) (hz : i + 2 < s.size) (hs : s.size ≤ 1048576) (e0 : ((s[i]'hi0).toNat : Int) = 224) (e1 : ((s[i + 1]'(by omega)).toNat : Int) = b1) (e2 : ((s[i + 2]'(by omega)).toNat : Int) = b2) (d0 : 160 ≤ b1) (d1 : b1 ≤ 191) (d2 : 128 ≤ b2) (d3 : b2 ≤ 191) :
    Calls Try.prog 24 #[.string s, .int .i64 (i : Int)] w fun e w' => e = .returned (.tuple #[.int .i64 (((224 : Int) - 224) * 4096 + (b1 - 128) * 64 + (b2 - 128)), .int .i64 3]) ∧ Below w.heap.size w w' := by
  have hi : (i : Int) < (s.size : Int) := by omega
  have hl : 3 ≤ (s.size : Int) - (i : Int) := by omega
  have hcb := contB_t d2 d3
  have hi1 : (i : Int) + 1 < (s.size : Int) := by omega
  have hi2 : (i : Int) + 2 < (s.size : Int) := by omega
  go_enter Try.func24, Try.ntmps24
  go_wp2_with (go_at_call 23; refine (zzCont_any _ _).mono ?_; rintro e w' ⟨rfl, rfl⟩)
  go_quiet (fail)
  go_wp2_with fail
  go_ret2
  exact ⟨ret_tup2 (by omega) rfl, below_drewN (Below.refl _ _) _⟩

set_option maxRecDepth 100000 in
set_option maxHeartbeats 2000000 in
theorem dr_3bshort (s : ByteArray) (i : Nat) (w : World) (hi0 : i < s.size) (hs : s.size ≤ 1048576) (e0 : ((s[i]'hi0).toNat : Int) = 237) (hsh : s.size < i + 3) :
    Calls Try.prog 24 #[.string s, .int .i64 (i : Int)] w fun e w' => e = .returned (.tuple #[.int .i64 (65533), .int .i64 1]) ∧ Below w.heap.size w w' := by
  have hi : (i : Int) < (s.size : Int) := by omega
  have hl : ¬ 3 ≤ (s.size : Int) - (i : Int) := by omega
  go_enter Try.func24, Try.ntmps24
  go_wp2_with (go_at_call 23; refine (zzCont_any _ _).mono ?_; rintro e w' ⟨rfl, rfl⟩)
  go_ret2
  exact ⟨ret_tup2 (by omega) rfl, Below.refl _ _⟩

set_option maxRecDepth 100000 in
set_option maxHeartbeats 2000000 in
theorem dr_3blo (s : ByteArray) (i : Nat) (b1 b2 : Int) (w : World) (hi0 : i < s.size) (hz : i + 2 < s.size) (hs : s.size ≤ 1048576) (e0 : ((s[i]'hi0).toNat : Int) = 237) (e1 : ((s[i + 1]'(by omega)).toNat : Int) = b1) (e2 : ((s[i + 2]'(by omega)).toNat : Int) = b2) (d0 : b1 < 128) :
    Calls Try.prog 24 #[.string s, .int .i64 (i : Int)] w fun e w' => e = .returned (.tuple #[.int .i64 (65533), .int .i64 1]) ∧ Below w.heap.size w w' := by
  have hi : (i : Int) < (s.size : Int) := by omega
  have hl : 3 ≤ (s.size : Int) - (i : Int) := by omega
  have hi1 : (i : Int) + 1 < (s.size : Int) := by omega
  have hi2 : (i : Int) + 2 < (s.size : Int) := by omega
  go_enter Try.func24, Try.ntmps24
  go_wp2_with (go_at_call 23; refine (zzCont_any _ _).mono ?_; rintro e w' ⟨rfl, rfl⟩)
  go_ret2
  exact ⟨ret_tup2 (by omega) rfl, Below.refl _ _⟩

set_option maxRecDepth 100000 in
set_option maxHeartbeats 2000000 in
theorem dr_3bhi (s : ByteArray) (i : Nat) (b1 b2 : Int) (w : World) (hi0 : i < s.size) (hz : i + 2 < s.size) (hs : s.size ≤ 1048576) (e0 : ((s[i]'hi0).toNat : Int) = 237) (e1 : ((s[i + 1]'(by omega)).toNat : Int) = b1) (e2 : ((s[i + 2]'(by omega)).toNat : Int) = b2) (d0 : 128 ≤ b1) (d1 : 159 < b1) :
    Calls Try.prog 24 #[.string s, .int .i64 (i : Int)] w fun e w' => e = .returned (.tuple #[.int .i64 (65533), .int .i64 1]) ∧ Below w.heap.size w w' := by
  have hi : (i : Int) < (s.size : Int) := by omega
  have hl : 3 ≤ (s.size : Int) - (i : Int) := by omega
  have hi1 : (i : Int) + 1 < (s.size : Int) := by omega
  have hi2 : (i : Int) + 2 < (s.size : Int) := by omega
  go_enter Try.func24, Try.ntmps24
  go_wp2_with (go_at_call 23; refine (zzCont_any _ _).mono ?_; rintro e w' ⟨rfl, rfl⟩)
  go_ret2
  exact ⟨ret_tup2 (by omega) rfl, Below.refl _ _⟩

set_option maxRecDepth 100000 in
set_option maxHeartbeats 2000000 in
theorem dr_3bc2 (s : ByteArray) (i : Nat) (b1 b2 : Int) (w : World) (hi0 : i < s.size) (hz : i + 2 < s.size) (hs : s.size ≤ 1048576) (e0 : ((s[i]'hi0).toNat : Int) = 237) (e1 : ((s[i + 1]'(by omega)).toNat : Int) = b1) (e2 : ((s[i + 2]'(by omega)).toNat : Int) = b2) (d0 : 128 ≤ b1) (d1 : b1 ≤ 159) (d2 : b2 < 128 ∨ 191 < b2) :
    Calls Try.prog 24 #[.string s, .int .i64 (i : Int)] w fun e w' => e = .returned (.tuple #[.int .i64 (65533), .int .i64 1]) ∧ Below w.heap.size w w' := by
  have hi : (i : Int) < (s.size : Int) := by omega
  have hl : 3 ≤ (s.size : Int) - (i : Int) := by omega
  have hcb := contB_f d2
  have hi1 : (i : Int) + 1 < (s.size : Int) := by omega
  have hi2 : (i : Int) + 2 < (s.size : Int) := by omega
  go_enter Try.func24, Try.ntmps24
  go_wp2_with (go_at_call 23; refine (zzCont_any _ _).mono ?_; rintro e w' ⟨rfl, rfl⟩)
  go_ret2
  exact ⟨ret_tup2 (by omega) rfl, Below.refl _ _⟩

set_option maxRecDepth 100000 in
set_option maxHeartbeats 2000000 in
theorem dr_3bok (s : ByteArray) (i : Nat) (b1 b2 : Int) (w : World) (hi0 : i < s.size) (hz : i + 2 < s.size) (hs : s.size ≤ 1048576) (e0 : ((s[i]'hi0).toNat : Int) = 237) (e1 : ((s[i + 1]'(by omega)).toNat : Int) = b1) (e2 : ((s[i + 2]'(by omega)).toNat : Int) = b2) (d0 : 128 ≤ b1) (d1 : b1 ≤ 159) (d2 : 128 ≤ b2) (d3 : b2 ≤ 191) :
    Calls Try.prog 24 #[.string s, .int .i64 (i : Int)] w fun e w' => e = .returned (.tuple #[.int .i64 (((237 : Int) - 224) * 4096 + (b1 - 128) * 64 + (b2 - 128)), .int .i64 3]) ∧ Below w.heap.size w w' := by
  have hi : (i : Int) < (s.size : Int) := by omega
  have hl : 3 ≤ (s.size : Int) - (i : Int) := by omega
  have hcb := contB_t d2 d3
  have hi1 : (i : Int) + 1 < (s.size : Int) := by omega
  have hi2 : (i : Int) + 2 < (s.size : Int) := by omega
  go_enter Try.func24, Try.ntmps24
  go_wp2_with (go_at_call 23; refine (zzCont_any _ _).mono ?_; rintro e w' ⟨rfl, rfl⟩)
  go_quiet (fail)
  go_wp2_with fail
  go_ret2
  exact ⟨ret_tup2 (by omega) rfl, below_drewN (Below.refl _ _) _⟩

set_option maxRecDepth 100000 in
set_option maxHeartbeats 2000000 in
theorem dr_3cshort (s : ByteArray) (i : Nat) (b0 : Int) (w : World) (hi0 : i < s.size) (hs : s.size ≤ 1048576) (e0 : ((s[i]'hi0).toNat : Int) = b0) (hsh : s.size < i + 3) (c0 : 224 < b0) (c1 : b0 ≤ 239) (c2 : b0 ≠ 237) :
    Calls Try.prog 24 #[.string s, .int .i64 (i : Int)] w fun e w' => e = .returned (.tuple #[.int .i64 (65533), .int .i64 1]) ∧ Below w.heap.size w w' := by
  have hi : (i : Int) < (s.size : Int) := by omega
  have n1 : (b0 == 224) = false := by simp; omega
  have n2 : (b0 == 237) = false := by simp; omega
  have hl : ¬ 3 ≤ (s.size : Int) - (i : Int) := by omega
  go_enter Try.func24, Try.ntmps24
  go_wp2_with (go_at_call 23; refine (zzCont_any _ _).mono ?_; rintro e w' ⟨rfl, rfl⟩)
  go_ret2
  exact ⟨ret_tup2 (by omega) rfl, Below.refl _ _⟩

set_option maxRecDepth 100000 in
set_option maxHeartbeats 2000000 in
theorem dr_3clo (s : ByteArray) (i : Nat) (b0 b1 b2 : Int) (w : World) (hi0 : i < s.size) (hz : i + 2 < s.size) (hs : s.size ≤ 1048576) (e0 : ((s[i]'hi0).toNat : Int) = b0) (e1 : ((s[i + 1]'(by omega)).toNat : Int) = b1) (e2 : ((s[i + 2]'(by omega)).toNat : Int) = b2) (c0 : 224 < b0) (c1 : b0 ≤ 239) (c2 : b0 ≠ 237) (d0 : b1 < 128) :
    Calls Try.prog 24 #[.string s, .int .i64 (i : Int)] w fun e w' => e = .returned (.tuple #[.int .i64 (65533), .int .i64 1]) ∧ Below w.heap.size w w' := by
  have hi : (i : Int) < (s.size : Int) := by omega
  have n1 : (b0 == 224) = false := by simp; omega
  have n2 : (b0 == 237) = false := by simp; omega
  have hl : 3 ≤ (s.size : Int) - (i : Int) := by omega
  have hi1 : (i : Int) + 1 < (s.size : Int) := by omega
  have hi2 : (i : Int) + 2 < (s.size : Int) := by omega
  go_enter Try.func24, Try.ntmps24
  go_wp2_with (go_at_call 23; refine (zzCont_any _ _).mono ?_; rintro e w' ⟨rfl, rfl⟩)
  go_ret2
  exact ⟨ret_tup2 (by omega) rfl, Below.refl _ _⟩

set_option maxRecDepth 100000 in
set_option maxHeartbeats 2000000 in
theorem dr_3chi (s : ByteArray) (i : Nat) (b0 b1 b2 : Int) (w : World) (hi0 : i < s.size) (hz : i + 2 < s.size) (hs : s.size ≤ 1048576) (e0 : ((s[i]'hi0).toNat : Int) = b0) (e1 : ((s[i + 1]'(by omega)).toNat : Int) = b1) (e2 : ((s[i + 2]'(by omega)).toNat : Int) = b2) (c0 : 224 < b0) (c1 : b0 ≤ 239) (c2 : b0 ≠ 237) (d0 : 128 ≤ b1) (d1 : 191 < b1) :
    Calls Try.prog 24 #[.string s, .int .i64 (i : Int)] w fun e w' => e = .returned (.tuple #[.int .i64 (65533), .int .i64 1]) ∧ Below w.heap.size w w' := by
  have hi : (i : Int) < (s.size : Int) := by omega
  have n1 : (b0 == 224) = false := by simp; omega
  have n2 : (b0 == 237) = false := by simp; omega
  have hl : 3 ≤ (s.size : Int) - (i : Int) := by omega
  have hi1 : (i : Int) + 1 < (s.size : Int) := by omega
  have hi2 : (i : Int) + 2 < (s.size : Int) := by omega
  go_enter Try.func24, Try.ntmps24
  go_wp2_with (go_at_call 23; refine (zzCont_any _ _).mono ?_; rintro e w' ⟨rfl, rfl⟩)
  go_ret2
  exact ⟨ret_tup2 (by omega) rfl, Below.refl _ _⟩

set_option maxRecDepth 100000 in
set_option maxHeartbeats 2000000 in
theorem dr_3cc2 (s : ByteArray) (i : Nat) (b0 b1 b2 : Int) (w : World) (hi0 : i < s.size) (hz : i + 2 < s.size) (hs : s.size ≤ 1048576) (e0 : ((s[i]'hi0).toNat : Int) = b0) (e1 : ((s[i + 1]'(by omega)).toNat : Int) = b1) (e2 : ((s[i + 2]'(by omega)).toNat : Int) = b2) (c0 : 224 < b0) (c1 : b0 ≤ 239) (c2 : b0 ≠ 237) (d0 : 128 ≤ b1) (d1 : b1 ≤ 191) (d2 : b2 < 128 ∨ 191 < b2) :
    Calls Try.prog 24 #[.string s, .int .i64 (i : Int)] w fun e w' => e = .returned (.tuple #[.int .i64 (65533), .int .i64 1]) ∧ Below w.heap.size w w' := by
  have hi : (i : Int) < (s.size : Int) := by omega
  have n1 : (b0 == 224) = false := by simp; omega
  have n2 : (b0 == 237) = false := by simp; omega
  have hl : 3 ≤ (s.size : Int) - (i : Int) := by omega
  have hcb := contB_f d2
  have hi1 : (i : Int) + 1 < (s.size : Int) := by omega
  have hi2 : (i : Int) + 2 < (s.size : Int) := by omega
  go_enter Try.func24, Try.ntmps24
  go_wp2_with (go_at_call 23; refine (zzCont_any _ _).mono ?_; rintro e w' ⟨rfl, rfl⟩)
  go_ret2
  exact ⟨ret_tup2 (by omega) rfl, Below.refl _ _⟩

set_option maxRecDepth 100000 in
set_option maxHeartbeats 2000000 in
theorem dr_3cok (s : ByteArray) (i : Nat) (b0 b1 b2 : Int) (w : World) (hi0 : i < s.size) (hz : i + 2 < s.size) (hs : s.size ≤ 1048576) (e0 : ((s[i]'hi0).toNat : Int) = b0) (e1 : ((s[i + 1]'(by omega)).toNat : Int) = b1) (e2 : ((s[i + 2]'(by omega)).toNat : Int) = b2) (c0 : 224 < b0) (c1 : b0 ≤ 239) (c2 : b0 ≠ 237) (d0 : 128 ≤ b1) (d1 : b1 ≤ 191) (d2 : 128 ≤ b2) (d3 : b2 ≤ 191) :
    Calls Try.prog 24 #[.string s, .int .i64 (i : Int)] w fun e w' => e = .returned (.tuple #[.int .i64 ((b0 - 224) * 4096 + (b1 - 128) * 64 + (b2 - 128)), .int .i64 3]) ∧ Below w.heap.size w w' := by
  have hi : (i : Int) < (s.size : Int) := by omega
  have n1 : (b0 == 224) = false := by simp; omega
  have n2 : (b0 == 237) = false := by simp; omega
  have hl : 3 ≤ (s.size : Int) - (i : Int) := by omega
  have hcb := contB_t d2 d3
  have hi1 : (i : Int) + 1 < (s.size : Int) := by omega
  have hi2 : (i : Int) + 2 < (s.size : Int) := by omega
  go_enter Try.func24, Try.ntmps24
  go_wp2_with (go_at_call 23; refine (zzCont_any _ _).mono ?_; rintro e w' ⟨rfl, rfl⟩)
  go_quiet (fail)
  go_wp2_with fail
  go_ret2
  exact ⟨ret_tup2 (by omega) rfl, below_drewN (Below.refl _ _) _⟩

end Go.Proofs.Qxb6613196a
