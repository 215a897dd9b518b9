import Derived.Test.Qxb6613196aD1
namespace Go.Proofs.Qxb6613196a
open Go.RowKit

theorem ret_three {a b c d : Int} {v : Value} (h : a = b) (h' : c = d) : Ending.returned (.tuple #[.int .i64 a, .int .i64 c, v]) = .returned (.tuple #[.int .i64 b, .int .i64 d, v]) := by rw [h, h']

set_option maxHeartbeats 1000000 in
theorem readLong_1 (g n cap p : Nat) (t : Int) (w : World) (hp : p + 1 ≤ n) (hn : n ≤ cap) (hcap : cap ≤ 9223372036854775807) (hc : w.cell? ⟨g, p, none⟩ = some (.int .u8 t)) (h0 : 216 ≤ t) (h1 : t ≤ 239) :
    Calls Try.prog 18 #[.slice (some ⟨g, 0, none⟩) n cap, .int .i64 (p : Int)] w fun e w' => e = .returned (.tuple #[.int .i64 (t - 224), .int .i64 ((p : Int) + 1), .bool true]) ∧ Below w.heap.size w w' := by
  have hp1 : (p : Int) < (n : Int) := by omega
  have hp2 : (p : Int) + 1 ≤ (n : Int) := by omega
  have hp3 : (n : Int) ≤ (cap : Int) := by omega
  have hneg : ¬ (p : Int) < 0 := by omega
  have hge : ¬ (n : Int) ≤ (p : Int) := by omega
  go_enter Try.func18, Try.ntmps18
  go_wp2_with fail
  all_goals
    refine (zzCompact_any _ _ _ t 224 [] _ (by simp; try omega) (by omega) (by omega) (by omega) (by omega) (by omega) (by simp) (by intro j hj; simp at hj) (by intro j hj; simp at hj)).mono ?_
    rintro e w1 ⟨rfl, hb1⟩
    go_wp2_with fail
    go_ret3
    exact ⟨rfl, hb1⟩

set_option maxHeartbeats 1000000 in
theorem readLong_2 (g n cap p : Nat) (t c1 : Int) (w : World) (hp : p + 2 ≤ n) (hn : n ≤ cap) (hcap : cap ≤ 9223372036854775807) (hc : w.cell? ⟨g, p, none⟩ = some (.int .u8 t)) (hg : g < w.heap.size) (hc1 : w.cell? ⟨g, p + 1, none⟩ = some (.int .u8 c1)) (hb1 : 0 ≤ c1 ∧ c1 ≤ 255) (h0 : 240 ≤ t) (h1 : t ≤ 255) :
    Calls Try.prog 18 #[.slice (some ⟨g, 0, none⟩) n cap, .int .i64 (p : Int)] w fun e w' => e = .returned (.tuple #[.int .i64 ((t - 248) * 256 + c1), .int .i64 ((p : Int) + 2), .bool true]) ∧ Below w.heap.size w w' := by
  have hp1 : (p : Int) < (n : Int) := by omega
  have hp2 : (p : Int) + 1 ≤ (n : Int) := by omega
  have hp3 : (n : Int) ≤ (cap : Int) := by omega
  have hneg : ¬ (p : Int) < 0 := by omega
  have hge : ¬ (n : Int) ≤ (p : Int) := by omega
  have hcc : ¬ cap = p + 1 := by omega
  have HC1 : Hid (w.cell? ⟨g, p + 1, none⟩ = some (.int .u8 c1)) := hc1
  clear hc1
  go_enter Try.func18, Try.ntmps18
  go_wp2_with fail
  all_goals
    refine (zzCompact_any _ _ _ t 248 [c1] _ (by simp; try omega) (by omega) (by omega) (by omega) (by omega) (by omega) (by simp) (by intro j hj; simp at hj; subst hj; exact hb1) (by intro j hj; simp at hj; subst hj; exact ⟨g, p + 1, rfl, hg, HC1.out⟩)).mono ?_
    rintro e w1 ⟨rfl, hbl⟩
    go_wp2_with fail
    go_ret3
    exact ⟨rfl, hbl⟩

set_option maxHeartbeats 1000000 in
theorem readLong_3 (g n cap p : Nat) (t c1 c2 : Int) (w : World) (hp : p + 3 ≤ n) (hn : n ≤ cap) (hcap : cap ≤ 9223372036854775807) (hc : w.cell? ⟨g, p, none⟩ = some (.int .u8 t)) (hg : g < w.heap.size) (hc1 : w.cell? ⟨g, p + 1, none⟩ = some (.int .u8 c1)) (hc2 : w.cell? ⟨g, p + 1 + 1, none⟩ = some (.int .u8 c2)) (hb1 : 0 ≤ c1 ∧ c1 ≤ 255) (hb2 : 0 ≤ c2 ∧ c2 ≤ 255) (h0 : 56 ≤ t) (h1 : t ≤ 63) :
    Calls Try.prog 18 #[.slice (some ⟨g, 0, none⟩) n cap, .int .i64 (p : Int)] w fun e w' => e = .returned (.tuple #[.int .i64 (((t - 60) * 256 + c1) * 256 + c2), .int .i64 ((p : Int) + 3), .bool true]) ∧ Below w.heap.size w w' := by
  have hp1 : (p : Int) < (n : Int) := by omega
  have hp2 : (p : Int) + 1 ≤ (n : Int) := by omega
  have hp3 : (n : Int) ≤ (cap : Int) := by omega
  have hneg : ¬ (p : Int) < 0 := by omega
  have hge : ¬ (n : Int) ≤ (p : Int) := by omega
  have hcc : ¬ cap = p + 1 := by omega
  have HC1 : Hid (w.cell? ⟨g, p + 1, none⟩ = some (.int .u8 c1)) := hc1
  have HC2 : Hid (w.cell? ⟨g, p + 1 + 1, none⟩ = some (.int .u8 c2)) := hc2
  clear hc1 hc2
  go_enter Try.func18, Try.ntmps18
  go_wp2_with fail
  all_goals
    refine (zzCompact_any _ _ _ t 60 [c1, c2] _ (by simp; try omega) (by omega) (by omega) (by omega) (by omega) (by omega) (by simp) (fun j hj => by match j, hj with | 0, _ => exact hb1 | 1, _ => exact hb2) (fun j hj => by match j, hj with | 0, _ => exact ⟨g, p + 1, rfl, hg, HC1.out⟩ | 1, _ => exact ⟨g, p + 1, rfl, hg, HC2.out⟩)).mono ?_
    rintro e w1 ⟨rfl, hbl⟩
    go_wp2_with fail
    go_ret3
    exact ⟨rfl, hbl⟩

end Go.Proofs.Qxb6613196a
