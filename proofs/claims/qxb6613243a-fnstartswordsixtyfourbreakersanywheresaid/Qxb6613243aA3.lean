import Derived.Test.Qxb6613243aA2
namespace Go.Proofs.Qxb6613243a
open Go.RowKit

def cnt : Nat → Nat
  | 0 => 0
  | k + 1 => cnt k + (if brk (k : Int) then 1 else 0)
theorem cnt_256 : cnt 256 = 64 := by decide +kernel
theorem cnt_le (k : Nat) : cnt k ≤ k := by
  induction k with
  | zero => simp [cnt]
  | succ k ih => unfold cnt; split <;> omega

set_option maxHeartbeats 400000 in
theorem zzBytes7_any (a b : ByteArray) (w : World) (ha : a.size ≤ maxLen) (hb : b.size ≤ maxLen) (h : 1048576 < a.size ∨ 1048576 < b.size ∨ 1048576 < a.size + b.size) :
    Calls Try.prog 7 #[.string a, .string b] w fun e w' => e = .returned (.bool false) ∧ w' = w := by
  unfold maxLen at ha hb
  by_cases h1 : 1048576 < a.size
  · have h1' : (1048576 : Int) < (a.size : Int) := by omega
    go_enter Try.func7, Try.ntmps7
    go_wp2
    go_ret
    exact ⟨rfl, rfl⟩
  · have h1' : ¬ (1048576 : Int) < (a.size : Int) := by omega
    by_cases h2 : 1048576 < b.size
    · have h2' : (1048576 : Int) < (b.size : Int) := by omega
      go_enter Try.func7, Try.ntmps7
      go_wp2
      go_ret
      exact ⟨rfl, rfl⟩
    · have h2' : ¬ (1048576 : Int) < (b.size : Int) := by omega
      have h3' : (1048576 : Int) < (a.size : Int) + (b.size : Int) := by omega
      go_enter Try.func7, Try.ntmps7
      go_wp2
      go_ret
      exact ⟨rfl, rfl⟩

set_option maxHeartbeats 400000 in
theorem zzBytes7_in (a b : ByteArray) (w : World) (h : a.size + b.size ≤ 1048576) :
    Calls Try.prog 7 #[.string a, .string b] w fun e w' => e = .returned (.bool true) ∧ w' = w := by
  have h1' : ¬ (1048576 : Int) < (a.size : Int) := by omega
  have h2' : ¬ (1048576 : Int) < (b.size : Int) := by omega
  have h3' : ¬ (1048576 : Int) < (a.size : Int) + (b.size : Int) := by omega
  go_enter Try.func7, Try.ntmps7
  go_wp2
  go_ret
  exact ⟨rfl, rfl⟩

theorem conv_one (w : World) (c : UInt8) (cap : Nat) : (convert 24 9 (.slice (some ⟨w.heap.size, 0, none⟩) 1 cap)).run Try.prog (w.alloc (.cells #[.int .u8 (c.toNat : Int)] 5)) = .ok (.string ⟨#[c]⟩) (w.alloc (.cells #[.int .u8 (c.toNat : Int)] 5)) := by
  have h := run_convert_bytes_back (P := Try.prog) (w.alloc (.cells #[.int .u8 (c.toNat : Int)] 5)) 24 9 5 ⟨w.heap.size, 0, none⟩ cap [c] Try.underlying24 Try.underlying5 Try.underlying9 (fun j hj => by
    have : j = 0 := by simpa using hj
    subst this
    simp [Addr.add])
  exact h

theorem zz_mid (a b : ByteArray) (c : UInt8) (w : World) (ha : a.size ≤ 65536) (hb : b.size ≤ 65536) :
    Calls Try.prog 8 #[.string (a ++ ⟨#[c]⟩ ++ b), .int .i64 ((a.size : Int) + 1)] w fun e w' => e = .returned (.bool (brk (c.toNat : Int))) ∧ w' = w := by
  have e : (⟨#[c]⟩ : ByteArray).size = 1 := rfl
  have hz : (a ++ (⟨#[c]⟩ : ByteArray) ++ b).size = a.size + 1 + b.size := by simp only [ByteArray.size_append, e]
  have h := zzStartsWord_at (a ++ ⟨#[c]⟩ ++ b) a.size ((a.size : Int) + 1) w rfl (by omega) (by omega)
  rw [bAt_mid a b c a.size rfl] at h
  exact h
theorem zz_end (a : ByteArray) (c : UInt8) (w : World) (ha : a.size ≤ 65536) :
    Calls Try.prog 8 #[.string (a ++ ⟨#[c]⟩), .int .i64 ((a.size : Int) + 1)] w fun e w' => e = .returned (.bool (brk (c.toNat : Int))) ∧ w' = w := by
  have e : (⟨#[c]⟩ : ByteArray).size = 1 := rfl
  have hz : (a ++ (⟨#[c]⟩ : ByteArray)).size = a.size + 1 := by simp only [ByteArray.size_append, e]
  have h := zzStartsWord_at (a ++ ⟨#[c]⟩) a.size ((a.size : Int) + 1) w rfl (by omega) (by omega)
  have h2 := bAt_app_right a ⟨#[c]⟩ 0
  rw [Nat.add_zero] at h2
  rw [h2] at h
  exact h

set_option maxHeartbeats 2000000 in
theorem walk3 (a b : ByteArray) (w : World) (ha : a.size ≤ maxLen) (hb : b.size ≤ maxLen) :
    Calls Try.prog 3 #[.string a, .string b] w fun e w' => e = .returned (.bool true) ∧ Below w.heap.size w w' := by
  by_cases h0 : 1048576 < a.size ∨ 1048576 < b.size ∨ 1048576 < a.size + b.size
  · go_enter Try.func3, Try.ntmps3
    go_wp2_with (go_at_call 7; refine (zzBytes7_any a b _ ha hb h0).mono ?_; rintro e w' ⟨rfl, rfl⟩)
    go_ret
    exact ⟨rfl, Below.refl _ _⟩
  · by_cases h1 : 65536 < a.size
    · have h1' : (65536 : Int) < (a.size : Int) := by omega
      go_enter Try.func3, Try.ntmps3
      go_wp2_with (go_at_call 7; refine (zzBytes7_in a b _ (by omega)).mono ?_; rintro e w' ⟨rfl, rfl⟩)
      go_ret
      exact ⟨rfl, Below.refl _ _⟩
    · have h1' : ¬ (65536 : Int) < (a.size : Int) := by omega
      by_cases h2 : 65536 < b.size
      · have h2' : (65536 : Int) < (b.size : Int) := by omega
        go_enter Try.func3, Try.ntmps3
        go_wp2_with (go_at_call 7; refine (zzBytes7_in a b _ (by omega)).mono ?_; rintro e w' ⟨rfl, rfl⟩)
        go_ret
        exact ⟨rfl, Below.refl _ _⟩
      · have h2' : ¬ (65536 : Int) < (b.size : Int) := by omega
        go_enter Try.func3, Try.ntmps3
        go_wp2_with (go_at_call 7; refine (zzBytes7_in a b _ (by omega)).mono ?_; rintro e w' ⟨rfl, rfl⟩)
        refine (zzStartsWord_zero _ _).mono ?_
        rintro e w' ⟨rfl, rfl⟩
        go_wp2_with fail
        go_loopw [5, 6] (fun n c wr => ∃ k : Nat, k ≤ 256 ∧ c = .int .i64 k ∧ n = .int .i64 (cnt k : Int) ∧ Below w'.heap.size w' wr) (fun _ c _ => 256 - (intOf c).toNat)
        case atStart => exact ⟨0, Nat.zero_le _, rfl, rfl, Below.refl _ _⟩
        case round =>
          obtain ⟨k, hk, rfl, rfl, hbw⟩ := hrel
          have hcl := cnt_le k
          by_cases hlt : k < 256
          · have hlt' : (k : Int) < 256 := by omega
            have em : (k : Int) % 256 = k := by omega
            have hcv := fun cap => conv_one wr (UInt8.ofNat k) cap
            have ek : ((UInt8.ofNat k).toNat : Int) = k := by simp; omega
            rw [ek] at hcv
            go_wp2_with fail
            clear em hcv
            refine (zz_mid a b (UInt8.ofNat k) _ (by omega) (by omega)).mono ?_
            rintro e W1 ⟨rfl, rfl⟩
            rw [ek]
            go_wp2_with fail
            refine (zzStartsWord_pre b (UInt8.ofNat k) _ (by omega)).mono ?_
            rintro e W1 ⟨rfl, rfl⟩
            rw [ek]
            go_wp2_with fail
            refine (zz_end a (UInt8.ofNat k) _ (by omega)).mono ?_
            rintro e W1 ⟨rfl, rfl⟩
            rw [ek]
            clear ek
            have hbw2 : Below w'.heap.size w' (wr.alloc (.cells #[.int .u8 (k : Int)] 5)) := hbw.alloc hbw.size _
            cases hbk : brk (k : Int)
            · go_wp2_with fail
              go_roundw
              case rel =>
                refine ⟨k + 1, by omega, by go_num, ?_, hbw2⟩
                simp [cnt, hbk]
              case measure => simp [intOf]; omega
            · go_wp2_with fail
              go_roundw
              case rel =>
                refine ⟨k + 1, by omega, by go_num, ?_, hbw2⟩
                simp [cnt, hbk]
              case measure => simp [intOf]; omega
          · have hlt' : ¬ (k : Int) < 256 := by omega
            have hk2 : k = 256 := by omega
            subst hk2
            have hc64 : ((cnt 256 : Int) == 64) = true := by rw [cnt_256]; rfl
            go_wp2_with fail
            go_ret
            exact ⟨rfl, hbw⟩

end Go.Proofs.Qxb6613243a
