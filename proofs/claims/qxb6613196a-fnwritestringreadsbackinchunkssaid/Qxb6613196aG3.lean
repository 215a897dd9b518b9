import Derived.Test.Qxb6613196aG2
namespace Go.Proofs.Qxb6613196a
open Go.RowKit
set_option linter.unusedVariables false

set_option maxRecDepth 100000 in
set_option maxHeartbeats 2000000 in
theorem dr_4ashort (s : ByteArray) (i : Nat) (w : World) (hi0 : i < s.size) (hs : s.size ≤ 1048576) (e0 : ((s[i]'hi0).toNat : Int) = 240) (hsh : s.size < i + 4) :
    Calls Try.prog 24 #[.string s, .int .i64 (i : Int)] w fun e w' => e = .returned (.tuple #[.int .i64 (65533), .int .i64 1]) ∧ Below w.heap.size w w' := by
  have hi : (i : Int) < (s.size : Int) := by omega
  have hl : ¬ 4 ≤ (s.size : Int) - (i : Int) := by omega
  go_enter Try.func24, Try.ntmps24
  go_wp2_with (go_at_call 23; refine (zzCont_any _ _).mono ?_; rintro e w' ⟨rfl, rfl⟩)
  go_ret2
  exact ⟨ret_tup2 (by omega) rfl, Below.refl _ _⟩

set_option maxRecDepth 100000 in
set_option maxHeartbeats 2000000 in
theorem dr_4alo (s : ByteArray) (i : Nat) (b1 b2 b3 : Int) (w : World) (hi0 : i < s.size) (hz : i + 3 < s.size) (hs : s.size ≤ 1048576) (e0 : ((s[i]'hi0).toNat : Int) = 240) (e1 : ((s[i + 1]'(by omega)).toNat : Int) = b1) (e2 : ((s[i + 2]'(by omega)).toNat : Int) = b2) (e3 : ((s[i + 3]'(by omega)).toNat : Int) = b3) (d0 : b1 < 144) :
    Calls Try.prog 24 #[.string s, .int .i64 (i : Int)] w fun e w' => e = .returned (.tuple #[.int .i64 (65533), .int .i64 1]) ∧ Below w.heap.size w w' := by
  have hi : (i : Int) < (s.size : Int) := by omega
  have hl : 4 ≤ (s.size : Int) - (i : Int) := by omega
  have hi1 : (i : Int) + 1 < (s.size : Int) := by omega
  have hi2 : (i : Int) + 2 < (s.size : Int) := by omega
  have hi3 : (i : Int) + 3 < (s.size : Int) := by omega
  go_enter Try.func24, Try.ntmps24
  go_wp2_with (go_at_call 23; refine (zzCont_any _ _).mono ?_; rintro e w' ⟨rfl, rfl⟩)
  go_ret2
  exact ⟨ret_tup2 (by omega) rfl, Below.refl _ _⟩

set_option maxRecDepth 100000 in
set_option maxHeartbeats 2000000 in
theorem dr_4ahi (s : ByteArray) (i : Nat) (b1 b2 b3 : Int) (w : World) (hi0 : i < s.size) (hz : i + 3 < s.size) (hs : s.size ≤ 1048576) (e0 : ((s[i]'hi0).toNat : Int) = 240) (e1 : ((s[i + 1]'(by omega)).toNat : Int) = b1) (e2 : ((s[i + 2]'(by omega)).toNat : Int) = b2) (e3 : ((s[i + 3]'(by omega)).toNat : Int) = b3) (d0 : 144 ≤ b1) (d1 : 191 < b1) :
    Calls Try.prog 24 #[.string s, .int .i64 (i : Int)] w fun e w' => e = .returned (.tuple #[.int .i64 (65533), .int .i64 1]) ∧ Below w.heap.size w w' := by
  have hi : (i : Int) < (s.size : Int) := by omega
  have hl : 4 ≤ (s.size : Int) - (i : Int) := by omega
  have hi1 : (i : Int) + 1 < (s.size : Int) := by omega
  have hi2 : (i : Int) + 2 < (s.size : Int) := by omega
  have hi3 : (i : Int) + 3 < (s.size : Int) := by omega
  go_enter Try.func24, Try.ntmps24
  go_wp2_with (go_at_call 23; refine (zzCont_any _ _).mono ?_; rintro e w' ⟨rfl, rfl⟩)
  go_ret2
  exact ⟨ret_tup2 (by omega) rfl, Below.refl _ _⟩

set_option maxRecDepth 100000 in
set_option maxHeartbeats 2000000 in
theorem dr_4ac2 (s : ByteArray) (i : Nat) (b1 b2 b3 : Int) (w : World) (hi0 : i < s.size) (hz : i + 3 < s.size) (hs : s.size ≤ 1048576) (e0 : ((s[i]'hi0).toNat : Int) = 240) (e1 : ((s[i + 1]'(by omega)).toNat : Int) = b1) (e2 : ((s[i + 2]'(by omega)).toNat : Int) = b2) (e3 : ((s[i + 3]'(by omega)).toNat : Int) = b3) (d0 : 144 ≤ b1) (d1 : b1 ≤ 191) (d2 : b2 < 128 ∨ 191 < b2) :
    Calls Try.prog 24 #[.string s, .int .i64 (i : Int)] w fun e w' => e = .returned (.tuple #[.int .i64 (65533), .int .i64 1]) ∧ Below w.heap.size w w' := by
  have hi : (i : Int) < (s.size : Int) := by omega
  have hl : 4 ≤ (s.size : Int) - (i : Int) := by omega
  have hcb := contB_f d2
  have hi1 : (i : Int) + 1 < (s.size : Int) := by omega
  have hi2 : (i : Int) + 2 < (s.size : Int) := by omega
  have hi3 : (i : Int) + 3 < (s.size : Int) := by omega
  go_enter Try.func24, Try.ntmps24
  go_wp2_with (go_at_call 23; refine (zzCont_any _ _).mono ?_; rintro e w' ⟨rfl, rfl⟩)
  go_ret2
  exact ⟨ret_tup2 (by omega) rfl, Below.refl _ _⟩

set_option maxRecDepth 100000 in
set_option maxHeartbeats 2000000 in
theorem dr_4ac3 (s : ByteArray) (i : Nat) (b1 b2 b3 : Int) (w : World) (hi0 : i < s.size) (hz : i + 3 < s.size) (hs : s.size ≤ 1048576) (e0 : ((s[i]'hi0).toNat : Int) = 240) (e1 : ((s[i + 1]'(by omega)).toNat : Int) = b1) (e2 : ((s[i + 2]'(by omega)).toNat : Int) = b2) (e3 : ((s[i + 3]'(by omega)).toNat : Int) = b3) (d0 : 144 ≤ b1) (d1 : b1 ≤ 191) (d2 : 128 ≤ b2) (d3 : b2 ≤ 191) (d4 : b3 < 128 ∨ 191 < b3) :
    Calls Try.prog 24 #[.string s, .int .i64 (i : Int)] w fun e w' => e = .returned (.tuple #[.int .i64 (65533), .int .i64 1]) ∧ Below w.heap.size w w' := by
  have hi : (i : Int) < (s.size : Int) := by omega
  have hl : 4 ≤ (s.size : Int) - (i : Int) := by omega
  have hcb := contB_t d2 d3
  have hcd := contB_f d4
  have hi1 : (i : Int) + 1 < (s.size : Int) := by omega
  have hi2 : (i : Int) + 2 < (s.size : Int) := by omega
  have hi3 : (i : Int) + 3 < (s.size : Int) := by omega
  go_enter Try.func24, Try.ntmps24
  go_wp2_with (go_at_call 23; refine (zzCont_any _ _).mono ?_; rintro e w' ⟨rfl, rfl⟩)
  go_ret2
  exact ⟨ret_tup2 (by omega) rfl, Below.refl _ _⟩

set_option maxRecDepth 100000 in
set_option maxHeartbeats 2000000 in
theorem dr_4aok (s : ByteArray) (i : Nat) (b1 b2 b3 : Int) (w : World) (hi0 : i < s.size) (hz : i + 3 < s.size) (hs : s.size ≤ 1048576) (e0 : ((s[i]'hi0).toNat : Int) = 240) (e1 : ((s[i + 1]'(by omega)).toNat : Int) = b1) (e2 : ((s[i + 2]'(by omega)).toNat : Int) = b2) (e3 : ((s[i + 3]'(by omega)).toNat : Int) = b3) (d0 : 144 ≤ b1) (d1 : b1 ≤ 191) (d2 : 128 ≤ b2) (d3 : b2 ≤ 191) (d4 : 128 ≤ b3) (d5 : b3 ≤ 191) :
    Calls Try.prog 24 #[.string s, .int .i64 (i : Int)] w fun e w' => e = .returned (.tuple #[.int .i64 (((240 : Int) - 240) * 262144 + (b1 - 128) * 4096 + (b2 - 128) * 64 + (b3 - 128)), .int .i64 4]) ∧ Below w.heap.size w w' := by
  have hi : (i : Int) < (s.size : Int) := by omega
  have hl : 4 ≤ (s.size : Int) - (i : Int) := by omega
  have hcb := contB_t d2 d3
  have hcd := contB_t d4 d5
  have hi1 : (i : Int) + 1 < (s.size : Int) := by omega
  have hi2 : (i : Int) + 2 < (s.size : Int) := by omega
  have hi3 : (i : Int) + 3 < (s.size : Int) := by omega
  go_enter Try.func24, Try.ntmps24
  go_wp2_with (go_at_call 23; refine (zzCont_any _ _).mono ?_; rintro e w' ⟨rfl, rfl⟩)
  go_quiet (fail)
  go_wp2_with fail
  go_ret2
  exact ⟨ret_tup2 (by omega) rfl, below_drewN (Below.refl _ _) _⟩

set_option maxRecDepth 100000 in
set_option maxHeartbeats 2000000 in
theorem dr_4bshort (s : ByteArray) (i : Nat) (w : World) (hi0 : i < s.size) (hs : s.size ≤ 1048576) (e0 : ((s[i]'hi0).toNat : Int) = 244) (hsh : s.size < i + 4) :
    Calls Try.prog 24 #[.string s, .int .i64 (i : Int)] w fun e w' => e = .returned (.tuple #[.int .i64 (65533), .int .i64 1]) ∧ Below w.heap.size w w' := by
  have hi : (i : Int) < (s.size : Int) := by omega
  have hl : ¬ 4 ≤ (s.size : Int) - (i : Int) := by omega
  go_enter Try.func24, Try.ntmps24
  go_wp2_with (go_at_call 23; refine (zzCont_any _ _).mono ?_; rintro e w' ⟨rfl, rfl⟩)
  go_ret2
  exact ⟨ret_tup2 (by omega) rfl, Below.refl _ _⟩

set_option maxRecDepth 100000 in
set_option maxHeartbeats 2000000 in
theorem dr_4blo (s : ByteArray) (i : Nat) (b1 b2 b3 : Int) (w : World) (hi0 : i < s.size) (hz : i + 3 < s.size) (hs : s.size ≤ 1048576) (e0 : ((s[i]'hi0).toNat : Int) = 244) (e1 : ((s[i + 1]'(by omega)).toNat : Int) = b1) (e2 : ((s[i + 2]'(by omega)).toNat : Int) = b2) (e3 : ((s[i + 3]'(by omega)).toNat : Int) = b3) (d0 : b1 < 128) :
    Calls Try.prog 24 #[.string s, .int .i64 (i : Int)] w fun e w' => e = .returned (.tuple #[.int .i64 (65533), .int .i64 1]) ∧ Below w.heap.size w w' := by
  have hi : (i : Int) < (s.size : Int) := by omega
  have hl : 4 ≤ (s.size : Int) - (i : Int) := by omega
  have hi1 : (i : Int) + 1 < (s.size : Int) := by omega
  have hi2 : (i : Int) + 2 < (s.size : Int) := by omega
  have hi3 : (i : Int) + 3 < (s.size : Int) := by omega
  go_enter Try.func24, Try.ntmps24
  go_wp2_with (go_at_call 23; refine (zzCont_any _ _).mono ?_; rintro e w' ⟨rfl, rfl⟩)
  go_ret2
  exact ⟨ret_tup2 (by omega) rfl, Below.refl _ _⟩

set_option maxRecDepth 100000 in
set_option maxHeartbeats 2000000 in
theorem dr_4bhi (s : ByteArray) (i : Nat) (b1 b2 b3 : Int) (w : World) (hi0 : i < s.size) (hz : i + 3 < s.size) (hs : s.size ≤ 1048576) (e0 : ((s[i]'hi0).toNat : Int) = 244) (e1 : ((s[i + 1]'(by omega)).toNat : Int) = b1) (e2 : ((s[i + 2]'(by omega)).toNat : Int) = b2) (e3 : ((s[i + 3]'(by omega)).toNat : Int) = b3) (d0 : 128 ≤ b1) (d1 : 143 < b1) :
    Calls Try.prog 24 #[.string s, .int .i64 (i : Int)] w fun e w' => e = .returned (.tuple #[.int .i64 (65533), .int .i64 1]) ∧ Below w.heap.size w w' := by
  have hi : (i : Int) < (s.size : Int) := by omega
  have hl : 4 ≤ (s.size : Int) - (i : Int) := by omega
  have hi1 : (i : Int) + 1 < (s.size : Int) := by omega
  have hi2 : (i : Int) + 2 < (s.size : Int) := by omega
  have hi3 : (i : Int) + 3 < (s.size : Int) := by omega
  go_enter Try.func24, Try.ntmps24
  go_wp2_with (go_at_call 23; refine (zzCont_any _ _).mono ?_; rintro e w' ⟨rfl, rfl⟩)
  go_ret2
  exact ⟨ret_tup2 (by omega) rfl, Below.refl _ _⟩

set_option maxRecDepth 100000 in
set_option maxHeartbeats 2000000 in
theorem dr_4bc2 (s : ByteArray) (i : Nat) (b1 b2 b3 : Int) (w : World) (hi0 : i < s.size) (hz : i + 3 < s.size) (hs : s.size ≤ 1048576) (e0 : ((s[i]'hi0).toNat : Int) = 244) (e1 : ((s[i + 1]'(by omega)).toNat : Int) = b1) (e2 : ((s[i + 2]'(by omega)).toNat : Int) = b2) (e3 : ((s[i + 3]'(by omega)).toNat : Int) = b3) (d0 : 128 ≤ b1) (d1 : b1 ≤ 143) (d2 : b2 < 128 ∨ 191 < b2) :
    Calls Try.prog 24 #[.string s, .int .i64 (i : Int)] w fun e w' => e = .returned (.tuple #[.int .i64 (65533), .int .i64 1]) ∧ Below w.heap.size w w' := by
  have hi : (i : Int) < (s.size : Int) := by omega
  have hl : 4 ≤ (s.size : Int) - (i : Int) := by omega
  have hcb := contB_f d2
  have hi1 : (i : Int) + 1 < (s.size : Int) := by omega
  have hi2 : (i : Int) + 2 < (s.size : Int) := by omega
  have hi3 : (i : Int) + 3 < (s.size : Int) := by omega
  go_enter Try.func24, Try.ntmps24
  go_wp2_with (go_at_call 23; refine (zzCont_any _ _).mono ?_; rintro e w' ⟨rfl, rfl⟩)
  go_ret2
  exact ⟨ret_tup2 (by omega) rfl, Below.refl _ _⟩

set_option maxRecDepth 100000 in
set_option maxHeartbeats 2000000 in
theorem dr_4bc3 (s : ByteArray) (i : Nat) (b1 b2 b3 : Int) (w : World) (hi0 : i < s.size) (hz : i + 3 < s.size) (hs : s.size ≤ 1048576) (e0 : ((s[i]'hi0).toNat : Int) = 244) (e1 : ((s[i + 1]'(by omega)).toNat : Int) = b1) (e2 : ((s[i + 2]'(by omega)).toNat : Int) = b2) (e3 : ((s[i + 3]'(by omega)).toNat : Int) = b3) (d0 : 128 ≤ b1) (d1 : b1 ≤ 143) (d2 : 128 ≤ b2) (d3 : b2 ≤ 191) (d4 : b3 < 128 ∨ 191 < b3) :
    Calls Try.prog 24 #[.string s, .int .i64 (i : Int)] w fun e w' => e = .returned (.tuple #[.int .i64 (65533), .int .i64 1]) ∧ Below w.heap.size w w' := by
  have hi : (i : Int) < (s.size : Int) := by omega
  have hl : 4 ≤ (s.size : Int) - (i : Int) := by omega
  have hcb := contB_t d2 d3
  have hcd := contB_f d4
  have hi1 : (i : Int) + 1 < (s.size : Int) := by omega
  have hi2 : (i : Int) + 2 < (s.size : Int) := by omega
  have hi3 : (i : Int) + 3 < (s.size : Int) := by omega
  go_enter Try.func24, Try.ntmps24
  go_wp2_with (go_at_call 23; refine (zzCont_any _ _).mono ?_; rintro e w' ⟨rfl, rfl⟩)
  go_ret2
  exact ⟨ret_tup2 (by omega) rfl, Below.refl _ _⟩

set_option maxRecDepth 100000 in
set_option maxHeartbeats 2000000 in
theorem dr_4bok (s : ByteArray) (i : Nat) (b1 b2 b3 : Int) (w : World) (hi0 : i < s.size) (hz : i + 3 < s.size) (hs : s.size ≤ 1048576) (e0 : ((s[i]'hi0).toNat : Int) = 244) (e1 : ((s[i + 1]'(by omega)).toNat : Int) = b1) (e2 : ((s[i + 2]'(by omega)).toNat : Int) = b2) (e3 : ((s[i + 3]'(by omega)).toNat : Int) = b3) (d0 : 128 ≤ b1) (d1 : b1 ≤ 143) (d2 : 128 ≤ b2) (d3 : b2 ≤ 191) (d4 : 128 ≤ b3) (d5 : b3 ≤ 191) :
    Calls Try.prog 24 #[.string s, .int .i64 (i : Int)] w fun e w' => e = .returned (.tuple #[.int .i64 (((244 : Int) - 240) * 262144 + (b1 - 128) * 4096 + (b2 - 128) * 64 + (b3 - 128)), .int .i64 4]) ∧ Below w.heap.size w w' := by
  have hi : (i : Int) < (s.size : Int) := by omega
  have hl : 4 ≤ (s.size : Int) - (i : Int) := by omega
  have hcb := contB_t d2 d3
  have hcd := contB_t d4 d5
  have hi1 : (i : Int) + 1 < (s.size : Int) := by omega
  have hi2 : (i : Int) + 2 < (s.size : Int) := by omega
  have hi3 : (i : Int) + 3 < (s.size : Int) := by omega
  go_enter Try.func24, Try.ntmps24
  go_wp2_with (go_at_call 23; refine (zzCont_any _ _).mono ?_; rintro e w' ⟨rfl, rfl⟩)
  go_quiet (fail)
  go_wp2_with fail
  go_ret2
  exact ⟨ret_tup2 (by omega) rfl, below_drewN (Below.refl _ _) _⟩

set_option maxRecDepth 100000 in
set_option maxHeartbeats 2000000 in
theorem dr_4cshort (s : ByteArray) (i : Nat) (b0 : Int) (w : World) (hi0 : i < s.size) (hs : s.size ≤ 1048576) (e0 : ((s[i]'hi0).toNat : Int) = b0) (hsh : s.size < i + 4) (c0 : 240 < b0) (c1 : b0 < 244) :
    Calls Try.prog 24 #[.string s, .int .i64 (i : Int)] w fun e w' => e = .returned (.tuple #[.int .i64 (65533), .int .i64 1]) ∧ Below w.heap.size w w' := by
  have hi : (i : Int) < (s.size : Int) := by omega
  have n1 : (b0 == 240) = false := by simp; omega
  have n2 : (b0 == 244) = false := by simp; omega
  have hl : ¬ 4 ≤ (s.size : Int) - (i : Int) := by omega
  go_enter Try.func24, Try.ntmps24
  go_wp2_with (go_at_call 23; refine (zzCont_any _ _).mono ?_; rintro e w' ⟨rfl, rfl⟩)
  go_ret2
  exact ⟨ret_tup2 (by omega) rfl, Below.refl _ _⟩

set_option maxRecDepth 100000 in
set_option maxHeartbeats 2000000 in
theorem dr_4clo (s : ByteArray) (i : Nat) (b0 b1 b2 b3 : Int) (w : World) (hi0 : i < s.size) (hz : i + 3 < s.size) (hs : s.size ≤ 1048576) (e0 : ((s[i]'hi0).toNat : Int) = b0) (e1 : ((s[i + 1]'(by omega)).toNat : Int) = b1) (e2 : ((s[i + 2]'(by omega)).toNat : Int) = b2) (e3 : ((s[i + 3]'(by omega)).toNat : Int) = b3) (c0 : 240 < b0) (c1 : b0 < 244) (d0 : b1 < 128) :
    Calls Try.prog 24 #[.string s, .int .i64 (i : Int)] w fun e w' => e = .returned (.tuple #[.int .i64 (65533), .int .i64 1]) ∧ Below w.heap.size w w' := by
  have hi : (i : Int) < (s.size : Int) := by omega
  have n1 : (b0 == 240) = false := by simp; omega
  have n2 : (b0 == 244) = false := by simp; omega
  have hl : 4 ≤ (s.size : Int) - (i : Int) := by omega
  have hi1 : (i : Int) + 1 < (s.size : Int) := by omega
  have hi2 : (i : Int) + 2 < (s.size : Int) := by omega
  have hi3 : (i : Int) + 3 < (s.size : Int) := by omega
  go_enter Try.func24, Try.ntmps24
  go_wp2_with (go_at_call 23; refine (zzCont_any _ _).mono ?_; rintro e w' ⟨rfl, rfl⟩)
  go_ret2
  exact ⟨ret_tup2 (by omega) rfl, Below.refl _ _⟩

set_option maxRecDepth 100000 in
set_option maxHeartbeats 2000000 in
theorem dr_4chi (s : ByteArray) (i : Nat) (b0 b1 b2 b3 : Int) (w : World) (hi0 : i < s.size) (hz : i + 3 < s.size) (hs : s.size ≤ 1048576) (e0 : ((s[i]'hi0).toNat : Int) = b0) (e1 : ((s[i + 1]'(by omega)).toNat : Int) = b1) (e2 : ((s[i + 2]'(by omega)).toNat : Int) = b2) (e3 : ((s[i + 3]'(by omega)).toNat : Int) = b3) (c0 : 240 < b0) (c1 : b0 < 244) (d0 : 128 ≤ b1) (d1 : 191 < b1) :
    Calls Try.prog 24 #[.string s, .int .i64 (i : Int)] w fun e w' => e = .returned (.tuple #[.int .i64 (65533), .int .i64 1]) ∧ Below w.heap.size w w' := by
  have hi : (i : Int) < (s.size : Int) := by omega
  have n1 : (b0 == 240) = false := by simp; omega
  have n2 : (b0 == 244) = false := by simp; omega
  have hl : 4 ≤ (s.size : Int) - (i : Int) := by omega
  have hi1 : (i : Int) + 1 < (s.size : Int) := by omega
  have hi2 : (i : Int) + 2 < (s.size : Int) := by omega
  have hi3 : (i : Int) + 3 < (s.size : Int) := by omega
  go_enter Try.func24, Try.ntmps24
  go_wp2_with (go_at_call 23; refine (zzCont_any _ _).mono ?_; rintro e w' ⟨rfl, rfl⟩)
  go_ret2
  exact ⟨ret_tup2 (by omega) rfl, Below.refl _ _⟩

set_option maxRecDepth 100000 in
set_option maxHeartbeats 2000000 in
theorem dr_4cc2 (s : ByteArray) (i : Nat) (b0 b1 b2 b3 : Int) (w : World) (hi0 : i < s.size) (hz : i + 3 < s.size) (hs : s.size ≤ 1048576) (e0 : ((s[i]'hi0).toNat : Int) = b0) (e1 : ((s[i + 1]'(by omega)).toNat : Int) = b1) (e2 : ((s[i + 2]'(by omega)).toNat : Int) = b2) (e3 : ((s[i + 3]'(by omega)).toNat : Int) = b3) (c0 : 240 < b0) (c1 : b0 < 244) (d0 : 128 ≤ b1) (d1 : b1 ≤ 191) (d2 : b2 < 128 ∨ 191 < b2) :
    Calls Try.prog 24 #[.string s, .int .i64 (i : Int)] w fun e w' => e = .returned (.tuple #[.int .i64 (65533), .int .i64 1]) ∧ Below w.heap.size w w' := by
  have hi : (i : Int) < (s.size : Int) := by omega
  have n1 : (b0 == 240) = false := by simp; omega
  have n2 : (b0 == 244) = false := by simp; omega
  have hl : 4 ≤ (s.size : Int) - (i : Int) := by omega
  have hcb := contB_f d2
  have hi1 : (i : Int) + 1 < (s.size : Int) := by omega
  have hi2 : (i : Int) + 2 < (s.size : Int) := by omega
  have hi3 : (i : Int) + 3 < (s.size : Int) := by omega
  go_enter Try.func24, Try.ntmps24
  go_wp2_with (go_at_call 23; refine (zzCont_any _ _).mono ?_; rintro e w' ⟨rfl, rfl⟩)
  go_ret2
  exact ⟨ret_tup2 (by omega) rfl, Below.refl _ _⟩

set_option maxRecDepth 100000 in
set_option maxHeartbeats 2000000 in
theorem dr_4cc3 (s : ByteArray) (i : Nat) (b0 b1 b2 b3 : Int) (w : World) (hi0 : i < s.size) (hz : i + 3 < s.size) (hs : s.size ≤ 1048576) (e0 : ((s[i]'hi0).toNat : Int) = b0) (e1 : ((s[i + 1]'(by omega)).toNat : Int) = b1) (e2 : ((s[i + 2]'(by omega)).toNat : Int) = b2) (e3 : ((s[i + 3]'(by omega)).toNat : Int) = b3) (c0 : 240 < b0) (c1 : b0 < 244) (d0 : 128 ≤ b1) (d1 : b1 ≤ 191) (d2 : 128 ≤ b2) (d3 : b2 ≤ 191) (d4 : b3 < 128 ∨ 191 < b3) :
    Calls Try.prog 24 #[.string s, .int .i64 (i : Int)] w fun e w' => e = .returned (.tuple #[.int .i64 (65533), .int .i64 1]) ∧ Below w.heap.size w w' := by
  have hi : (i : Int) < (s.size : Int) := by omega
  have n1 : (b0 == 240) = false := by simp; omega
  have n2 : (b0 == 244) = false := by simp; omega
  have hl : 4 ≤ (s.size : Int) - (i : Int) := by omega
  have hcb := contB_t d2 d3
  have hcd := contB_f d4
  have hi1 : (i : Int) + 1 < (s.size : Int) := by omega
  have hi2 : (i : Int) + 2 < (s.size : Int) := by omega
  have hi3 : (i : Int) + 3 < (s.size : Int) := by omega
  go_enter Try.func24, Try.ntmps24
  go_wp2_with (go_at_call 23; refine (zzCont_any _ _).mono ?_; rintro e w' ⟨rfl, rfl⟩)
  go_ret2
  exact ⟨ret_tup2 (by omega) rfl, Below.refl _ _⟩

set_option maxRecDepth 100000 in
set_option maxHeartbeats 2000000 in
theorem dr_4cok (s : ByteArray) (i : Nat) (b0 b1 b2 b3 : Int) (w : World) (hi0 : i < s.size) (hz : i + 3 < s.size) (hs : s.size ≤ 1048576) (e0 : ((s[i]'hi0).toNat : Int) = b0) (e1 : ((s[i + 1]'(by omega)).toNat : Int) = b1) (e2 : ((s[i + 2]'(by omega)).toNat : Int) = b2) (e3 : ((s[i + 3]'(by omega)).toNat : Int) = b3) (c0 : 240 < b0) (c1 : b0 < 244) (d0 : 128 ≤ b1) (d1 : b1 ≤ 191) (d2 : 128 ≤ b2) (d3 : b2 ≤ 191) (d4 : 128 ≤ b3) (d5 : b3 ≤ 191) :
    Calls Try.prog 24 #[.string s, .int .i64 (i : Int)] w fun e w' => e = .returned (.tuple #[.int .i64 ((b0 - 240) * 262144 + (b1 - 128) * 4096 + (b2 - 128) * 64 + (b3 - 128)), .int .i64 4]) ∧ Below w.heap.size w w' := by
  have hi : (i : Int) < (s.size : Int) := by omega
  have n1 : (b0 == 240) = false := by simp; omega
  have n2 : (b0 == 244) = false := by simp; omega
  have hl : 4 ≤ (s.size : Int) - (i : Int) := by omega
  have hcb := contB_t d2 d3
  have hcd := contB_t d4 d5
  have hi1 : (i : Int) + 1 < (s.size : Int) := by omega
  have hi2 : (i : Int) + 2 < (s.size : Int) := by omega
  have hi3 : (i : Int) + 3 < (s.size : Int) := by omega
  go_enter Try.func24, Try.ntmps24
  go_wp2_with (go_at_call 23; refine (zzCont_any _ _).mono ?_; rintro e w' ⟨rfl, rfl⟩)
  go_quiet (fail)
  go_wp2_with fail
  go_ret2
  exact ⟨ret_tup2 (by omega) rfl, below_drewN (Below.refl _ _) _⟩

end Go.Proofs.Qxb6613196a
