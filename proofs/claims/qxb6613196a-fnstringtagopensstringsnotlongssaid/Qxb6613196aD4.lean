import Derived.Test.Qxb6613196aC3
import Derived.Test.Qxb6613196aC4
import Derived.Test.Qxb6613196aD3
namespace Go.Proofs.Qxb6613196a
open Go.RowKit

theorem long_1 {v : Int} (h0 : -8 ≤ v) (h1 : v ≤ 15) : longBytes v = [224 + v] := by unfold longBytes; rw [if_pos ⟨h0, h1⟩]
theorem long_2 {v : Int} (h : v < -8 ∨ 15 < v) (h0 : -2048 ≤ v) (h1 : v ≤ 2047) : longBytes v = [248 + v / 256, v % 256] := by unfold longBytes; rw [if_neg (by omega), if_pos ⟨h0, h1⟩]
theorem long_3 {v : Int} (h : v < -2048 ∨ 2047 < v) (h0 : -262144 ≤ v) (h1 : v ≤ 262143) : longBytes v = [60 + v / 65536, v / 256 % 256, v % 256] := by unfold longBytes; rw [if_neg (by omega), if_neg (by omega), if_pos ⟨h0, h1⟩]
theorem long_4 {v : Int} (h : v < -262144 ∨ 262143 < v) (h0 : -2147483648 ≤ v) (h1 : v ≤ 2147483647) : longBytes v = 89 :: be4 (v % 4294967296) := by unfold longBytes; rw [if_neg (by omega), if_neg (by omega), if_neg (by omega), if_pos ⟨h0, h1⟩]
theorem long_5 {v : Int} (h : v < -2147483648 ∨ 2147483647 < v) : longBytes v = 76 :: be8 (v % 18446744073709551616) := by unfold longBytes; rw [if_neg (by omega), if_neg (by omega), if_neg (by omega), if_neg (by omega)]

/-- Which of the five forms. -/
theorem long_cases (v : Int) : (-8 ≤ v ∧ v ≤ 15) ∨ ((v < -8 ∨ 15 < v) ∧ -2048 ≤ v ∧ v ≤ 2047) ∨ ((v < -2048 ∨ 2047 < v) ∧ -262144 ≤ v ∧ v ≤ 262143) ∨ ((v < -262144 ∨ 262143 < v) ∧ -2147483648 ≤ v ∧ v ≤ 2147483647) ∨ (v < -2147483648 ∨ 2147483647 < v) := by omega

theorem long_len (v : Int) : 1 ≤ (longBytes v).length ∧ (longBytes v).length ≤ 9 := by
  rcases long_cases v with h | h | h | h | h
  · rw [long_1 h.1 h.2]; simp
  · rw [long_2 h.1 h.2.1 h.2.2]; simp
  · rw [long_3 h.1 h.2.1 h.2.2]; simp
  · rw [long_4 h.1 h.2.1 h.2.2]; simp [be4]
  · rw [long_5 h]; simp [be8]

/-- writeLong onto an encoder. -/
theorem writeLong_any (b : Nat) (bs : List Int) (v : Int) (w : World) (hE : Enc b bs w) (hl : bs.length ≤ 100000000000) :
    Calls Try.prog 25 #[.pointer (some ⟨b, 0, none⟩), .int .i64 v] w fun e w' => e = .returned (.tuple #[]) ∧ Enc b (bs ++ longBytes v) w' ∧ Below b w w' := by
  rcases long_cases v with h | h | h | h | h
  · rw [long_1 h.1 h.2]; exact writeLong_1 b bs v w h.1 h.2 hE hl
  · rw [long_2 h.1 h.2.1 h.2.2]
    rcases h.1 with h1 | h1
    · exact writeLong_2a b bs v w h.2.1 h1 hE hl
    · exact writeLong_2b b bs v w h1 h.2.2 hE hl
  · rw [long_3 h.1 h.2.1 h.2.2]
    rcases h.1 with h1 | h1
    · exact writeLong_3a b bs v w h.2.1 h1 hE hl
    · exact writeLong_3b b bs v w h1 h.2.2 hE hl
  · rw [long_4 h.1 h.2.1 h.2.2, ← IntKind.wrap_u32]; exact writeLong_32 b bs v w h.2 h.1 hE hl
  · rw [long_5 h, ← IntKind.wrap_u64]; exact writeLong_64 b bs v w h hE hl

set_option maxHeartbeats 400000 in
theorem zzWriteLong_any (b : Nat) (bs : List Int) (v : Int) (w : World) (hE : Enc b bs w) (hl : bs.length ≤ 100000000000) :
    Calls Try.prog 17 #[.pointer (some ⟨b, 0, none⟩), .int .i64 v] w fun e w' => e = .returned (.tuple #[]) ∧ Enc b (bs ++ longBytes v) w' ∧ Below b w w' := by
  go_enter Try.func17, Try.ntmps17
  go_wp2_with fail
  refine (writeLong_any b bs v _ hE hl).mono ?_
  rintro e w1 ⟨rfl, h1, h2⟩
  go_wp2_with fail
  go_end0
  exact ⟨rfl, h1, h2⟩

theorem be8_val (u : Int) (_h0 : 0 ≤ u) (_h1 : u ≤ 18446744073709551615) : cval 0 (be8 u) = u := by
  simp only [cval, be8, List.foldl_cons, List.foldl_nil]
  omega

/-- zzReadLong where the bytes of v lie. -/
theorem readLong_any (g n cap p : Nat) (v : Int) (w : World) (hv : -9223372036854775808 ≤ v ∧ v ≤ 9223372036854775807) (hp : p + (longBytes v).length ≤ n) (hn : n ≤ cap) (hcap : cap ≤ 9223372036854775807) (hg : g < w.heap.size)
    (hc : ∀ j, j < (longBytes v).length → w.cell? ⟨g, p + j, none⟩ = some (.int .u8 ((longBytes v).getD j 0))) :
    Calls Try.prog 18 #[.slice (some ⟨g, 0, none⟩) n cap, .int .i64 (p : Int)] w fun e w' => e = .returned (.tuple #[.int .i64 v, .int .i64 ((p : Int) + ((longBytes v).length : Int)), .bool true]) ∧ Below w.heap.size w w' := by
  rcases long_cases v with h | h | h | h | h
  · rw [long_1 h.1 h.2] at hc hp ⊢
    refine (readLong_1 g n cap p (224 + v) w hp hn hcap (hc 0 (by simp)) (by omega) (by omega)).mono ?_
    rintro e w' ⟨rfl, hb⟩
    exact ⟨ret_three (by omega) rfl, hb⟩
  · rw [long_2 h.1 h.2.1 h.2.2] at hc hp ⊢
    refine (readLong_2 g n cap p (248 + v / 256) (v % 256) w hp hn hcap (hc 0 (by simp)) hg (hc 1 (by simp)) (by omega) (by omega) (by omega)).mono ?_
    rintro e w' ⟨rfl, hb⟩
    exact ⟨ret_three (by omega) rfl, hb⟩
  · rw [long_3 h.1 h.2.1 h.2.2] at hc hp ⊢
    refine (readLong_3 g n cap p (60 + v / 65536) (v / 256 % 256) (v % 256) w hp hn hcap (hc 0 (by simp)) hg (hc 1 (by simp)) (hc 2 (by simp)) (by omega) (by omega) (by omega) (by omega)).mono ?_
    rintro e w' ⟨rfl, hb⟩
    exact ⟨ret_three (by omega) rfl, hb⟩
  · rw [long_4 h.1 h.2.1 h.2.2] at hc hp ⊢
    have hlen : (89 :: be4 (v % 4294967296)).length = 5 := by simp [be4]
    rw [hlen] at hc hp ⊢
    refine (readLong_4 g n cap p (v % 4294967296 / 16777216) (v % 4294967296 / 65536 % 256) (v % 4294967296 / 256 % 256) (v % 4294967296 % 256) w hp hn hcap (hc 0 (by omega)) (hc 1 (by omega)) (hc 2 (by omega)) (hc 3 (by omega)) (hc 4 (by omega)) (by omega) (by omega) (by omega) (by omega)).mono ?_
    rintro e w' ⟨rfl, hb⟩
    refine ⟨ret_three ?_ rfl, hb⟩
    unfold wrap32
    omega
  · rw [long_5 h] at hc hp ⊢
    have hlen : (76 :: be8 (v % 18446744073709551616)).length = 9 := by simp [be8]
    rw [hlen] at hc hp ⊢
    refine (readLong_5 g n cap p (be8 (v % 18446744073709551616)) w (by simp [be8]) hp hn hcap (hc 0 (by omega)) (fun j hj => ?_) (fun j hj => ?_)).mono ?_
    · have hj8 : j < 8 := by simpa [be8] using hj
      have : j = 0 ∨ j = 1 ∨ j = 2 ∨ j = 3 ∨ j = 4 ∨ j = 5 ∨ j = 6 ∨ j = 7 := by omega
      rcases this with rfl | rfl | rfl | rfl | rfl | rfl | rfl | rfl <;> simp [be8] <;> omega
    · have hj8 : j < 8 := by simpa [be8] using hj
      have := hc (j + 1) (by omega)
      rw [Nat.add_assoc, Nat.add_comm 1 j]
      exact this
    rintro e w' ⟨rfl, hb⟩
    refine ⟨ret_three ?_ rfl, hb⟩
    rw [be8_val _ (by omega) (by omega)]
    unfold wrap64
    omega

/-- What an encoder's buffer reads as: the slice and its cells. -/
theorem enc_buf2 {b : Nat} {bs : List Int} {w : World} (h : Enc b bs w) (hne : 1 ≤ bs.length) : ∃ g cap, b < g ∧ bs.length ≤ cap ∧ cap ≤ 9223372036854775807 ∧ w.cell? ⟨b, 0, none⟩ = some (.slice (some ⟨g, 0, none⟩) bs.length cap) ∧ g < w.heap.size ∧ ∀ j, j < bs.length → w.cell? ⟨g, j, none⟩ = some (.int .u8 (bs.getD j 0)) := by
  obtain ⟨v, hb, hown⟩ := h
  have hc := enc_cell hb
  have hlt := hown.lt
  rcases hown.2 with ⟨rfl, h0⟩ | ⟨g, cap, cur, rfl, hbg, hg, hnc, hcm, _⟩
  · omega
  · refine ⟨g, cap, by omega, hnc, by unfold maxLen at hcm; omega, hc, (Array.getElem?_eq_some_iff.1 hg).1, fun j hj => ?_⟩
    rw [hown.cellAt j (by omega)]
    simp [List.getD, hj]

end Go.Proofs.Qxb6613196a
