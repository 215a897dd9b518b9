import Derived.Test.Qxb6613243aA1
namespace Go.Proofs.Qxb6613243a
open Go.RowKit

theorem bAt_app_left (a b : ByteArray) (k : Nat) (h : k < a.size) : bAt (a ++ b) k = bAt a k := by
  unfold bAt
  rw [ByteArray.data_append, Array.toList_append, List.getD_eq_getElem?_getD, List.getElem?_append_left (by exact h), List.getD_eq_getElem?_getD]
theorem bAt_app_right (a b : ByteArray) (k : Nat) : bAt (a ++ b) (a.size + k) = bAt b k := by
  unfold bAt
  have e : a.data.toList.length = a.size := rfl
  rw [ByteArray.data_append, Array.toList_append, List.getD_eq_getElem?_getD, List.getElem?_append_right (by omega), e, Nat.add_sub_cancel_left, List.getD_eq_getElem?_getD]
theorem bAt_cut (s : ByteArray) (i k : Nat) (h : k < i) : bAt (s.extract 0 i) k = bAt s k := by
  unfold bAt
  rw [ByteArray.data_extract, Array.toList_extract]
  show ((((s.data.toList.drop 0).take (i - 0)).getD k 0).toNat : Int) = _
  rw [List.drop_zero, Nat.sub_zero, List.getD_eq_getElem?_getD, List.getElem?_take, if_pos h, List.getD_eq_getElem?_getD]
theorem bAt_from (s : ByteArray) (i : Nat) (h : i < s.size) : bAt (s.extract i s.size) 0 = bAt s i := by
  unfold bAt
  rw [ByteArray.data_extract, Array.toList_extract]
  show ((((s.data.toList.drop i).take (s.size - i)).getD 0 0).toNat : Int) = _
  rw [List.getD_eq_getElem?_getD, List.getElem?_take, if_pos (by omega), List.getElem?_drop, Nat.add_zero, List.getD_eq_getElem?_getD]

theorem bAt_mid (a b : ByteArray) (c : UInt8) (n : Nat) (h : a.size = n) : bAt (a ++ ⟨#[c]⟩ ++ b) n = (c.toNat : Int) := by
  subst h
  have hs : (a ++ (⟨#[c]⟩ : ByteArray)).size = a.size + 1 := by rw [ByteArray.size_append]; rfl
  rw [bAt_app_left _ _ _ (by omega)]
  have := bAt_app_right a ⟨#[c]⟩ 0
  rw [Nat.add_zero] at this
  rw [this]
  rfl
theorem cut_size (s : ByteArray) (n : Nat) (h : n ≤ s.size) : (s.extract 0 n).size = n := by simp; omega
theorem ins_size (s : ByteArray) (c : UInt8) (n : Nat) (h : n ≤ s.size) : (s.extract 0 n ++ ⟨#[c]⟩ ++ s.extract n s.size).size = s.size + 1 := by
  have e : (⟨#[c]⟩ : ByteArray).size = 1 := rfl
  simp only [ByteArray.size_append, ByteArray.size_extract, e]
  omega
theorem brk_32 : brk 32 = true := by decide
theorem brk_36 : brk 36 = false := by decide
theorem brk_95 : brk 95 = false := by decide

/-- ZZstartsWord behind a byte that was put in. -/
theorem zzStartsWord_ins (s : ByteArray) (c : UInt8) (n : Nat) (i : Int) (w : World) (hi : i = (n : Int) + 1) (hn : n ≤ s.size) (hs : s.size ≤ 65536) :
    Calls Try.prog 8 #[.string (s.extract 0 n ++ ⟨#[c]⟩ ++ s.extract n s.size), .int .i64 i] w fun e w' => e = .returned (.bool (brk (c.toNat : Int))) ∧ w' = w := by
  have h := zzStartsWord_at (s.extract 0 n ++ ⟨#[c]⟩ ++ s.extract n s.size) n i w hi (by rw [ins_size s c n hn]; omega) (by rw [ins_size s c n hn]; omega)
  rw [bAt_mid _ _ c n (cut_size s n hn)] at h
  exact h

/-- ZZstartsWord behind a byte that was put ahead. -/
theorem zzStartsWord_pre (s : ByteArray) (c : UInt8) (w : World) (hs : s.size ≤ 65536) :
    Calls Try.prog 8 #[.string (⟨#[c]⟩ ++ s), .int .i64 1] w fun e w' => e = .returned (.bool (brk (c.toNat : Int))) ∧ w' = w := by
  have e : (⟨#[c]⟩ : ByteArray).size = 1 := rfl
  have hz : ((⟨#[c]⟩ : ByteArray) ++ s).size = 1 + s.size := by rw [ByteArray.size_append, e]
  have h := zzStartsWord_at (⟨#[c]⟩ ++ s) 0 1 w (by simp) (by omega) (by omega)
  rw [bAt_app_left _ _ 0 (by omega)] at h
  exact h

set_option maxHeartbeats 400000 in
theorem zzBytes9_any (s : ByteArray) (i : Int) (w : World) (hs : s.size ≤ maxLen) :
    Calls Try.prog 9 #[.string s, .int .i64 i] w fun e w' => e = .returned (.bool (decide (s.size ≤ 1048576))) ∧ w' = w := by
  unfold maxLen at hs
  by_cases h : s.size ≤ 1048576
  · have h' : ¬ (1048576 : Int) < (s.size : Int) := by omega
    rw [decide_eq_true h]
    go_enter Try.func9, Try.ntmps9
    go_wp2
    go_ret
    exact ⟨rfl, rfl⟩
  · have h' : (1048576 : Int) < (s.size : Int) := by omega
    rw [decide_eq_false h]
    go_enter Try.func9, Try.ntmps9
    go_wp2
    go_ret
    exact ⟨rfl, rfl⟩

set_option maxHeartbeats 1000000 in
theorem walk4 (s : ByteArray) (i : Int) (w : World) (hs : s.size ≤ maxLen) :
    Calls Try.prog 4 #[.string s, .int .i64 i] w fun e w' => e = .returned (.bool true) ∧ w' = w := by
  by_cases h1 : s.size ≤ 1048576
  · by_cases h2 : s.size ≤ 65536
    · have h2' : ¬ (65536 : Int) < (s.size : Int) := by omega
      by_cases h3 : i < 0
      · go_enter Try.func4, Try.ntmps4
        go_wp2_with (go_at_call 9; refine (zzBytes9_any s _ _ hs).mono ?_; rintro e w' ⟨rfl, rfl⟩)
        go_ret
        exact ⟨rfl, rfl⟩
      · by_cases h4 : (s.size : Int) < i
        · go_enter Try.func4, Try.ntmps4
          go_wp2_with (go_at_call 9; refine (zzBytes9_any s _ _ hs).mono ?_; rintro e w' ⟨rfl, rfl⟩)
          go_ret
          exact ⟨rfl, rfl⟩
        · obtain ⟨n, rfl⟩ := Int.eq_ofNat_of_zero_le (show 0 ≤ i by omega)
          by_cases h5 : n = 0
          · subst h5
            have hle : ¬ (s.size : Int) < 0 := by omega
            go_enter Try.func4, Try.ntmps4
            go_wp2_with (go_at_call 9; refine (zzBytes9_any s _ _ hs).mono ?_; rintro e w' ⟨rfl, rfl⟩)
            refine (zzStartsWord_zero s _).mono ?_
            rintro e w' ⟨rfl, rfl⟩
            go_wp2_with fail
            refine (zzStartsWord_zero _ _).mono ?_
            rintro e w' ⟨rfl, rfl⟩
            go_wp2_with fail
            refine (zzStartsWord_pre s 32 _ h2).mono ?_
            rintro e w' ⟨rfl, rfl⟩
            rw [show ((32 : UInt8).toNat : Int) = 32 from rfl, brk_32]
            go_wp2_with fail
            refine (zzStartsWord_pre s 36 _ h2).mono ?_
            rintro e w' ⟨rfl, rfl⟩
            rw [show ((36 : UInt8).toNat : Int) = 36 from rfl, brk_36]
            go_wp2_with fail
            refine (zzStartsWord_pre s 95 _ h2).mono ?_
            rintro e w' ⟨rfl, rfl⟩
            rw [show ((95 : UInt8).toNat : Int) = 95 from rfl, brk_95]
            go_wp2_with fail
            go_ret
            exact ⟨rfl, rfl⟩
          · obtain ⟨k, rfl⟩ : ∃ k, n = k + 1 := ⟨n - 1, by omega⟩
            have hk : k < s.size := by omega
            have hk1 : (k : Int) + 1 ≤ (s.size : Int) := by omega
            have hpos : (0 : Int) < (k : Int) + 1 := by omega
            go_enter Try.func4, Try.ntmps4
            go_wp2_with (go_at_call 9; refine (zzBytes9_any s _ _ hs).mono ?_; rintro e w' ⟨rfl, rfl⟩)
            have hB1 := bAt_cut s (k + 1) k (by omega)
            have hB2 := bAt_from s k hk
            have HB1 : Hid (bAt (s.extract 0 (k + 1)) k = bAt s k) := hB1
            have HB2 : Hid (bAt (s.extract k s.size) 0 = bAt s k) := hB2
            clear hB1 hB2
            refine (zzStartsWord_at s k _ _ rfl hk (by omega)).mono ?_
            rintro e w' ⟨rfl, rfl⟩
            go_wp2_with fail
            refine (zzStartsWord_at _ k _ _ rfl (by simp; omega) (by simp; omega)).mono ?_
            rintro e w' ⟨rfl, rfl⟩
            rw [HB1.out]
            go_wp2_with fail
            refine (zzStartsWord_at _ 0 _ _ (by simp) (by simp; omega) (by simp; omega)).mono ?_
            rintro e w' ⟨rfl, rfl⟩
            rw [HB2.out]
            go_wp2_with fail
            refine (zzStartsWord_ins s 32 (k + 1) _ _ (by omega) (by omega) h2).mono ?_
            rintro e w' ⟨rfl, rfl⟩
            rw [show ((32 : UInt8).toNat : Int) = 32 from rfl, brk_32]
            go_wp2_with fail
            refine (zzStartsWord_ins s 36 (k + 1) _ _ (by omega) (by omega) h2).mono ?_
            rintro e w' ⟨rfl, rfl⟩
            rw [show ((36 : UInt8).toNat : Int) = 36 from rfl, brk_36]
            go_wp2_with fail
            refine (zzStartsWord_ins s 95 (k + 1) _ _ (by omega) (by omega) h2).mono ?_
            rintro e w' ⟨rfl, rfl⟩
            rw [show ((95 : UInt8).toNat : Int) = 95 from rfl, brk_95]
            go_wp2_with fail
            go_ret
            exact ⟨rfl, rfl⟩
    · have h2' : (65536 : Int) < (s.size : Int) := by omega
      go_enter Try.func4, Try.ntmps4
      go_wp2_with (go_at_call 9; refine (zzBytes9_any s _ _ hs).mono ?_; rintro e w' ⟨rfl, rfl⟩)
      go_ret
      exact ⟨rfl, rfl⟩
  · have h1' : (1048576 : Int) < (s.size : Int) := by omega
    go_enter Try.func4, Try.ntmps4
    go_wp2_with (go_at_call 9; refine (zzBytes9_any s _ _ hs).mono ?_; rintro e w' ⟨rfl, rfl⟩)
    go_ret
    exact ⟨rfl, rfl⟩

end Go.Proofs.Qxb6613243a
