import Derived.Test.Qxb6613196aA2
namespace Go.Proofs.Qxb6613196a
open Go.RowKit

theorem cut_any (s : ByteArray) (w : World) (hs : s.size ≤ 1048576) :
    Calls Try.prog 20 #[.string s, .int .i64 32768] w fun e w' => ∃ (c : ByteArray) (U : Nat) (p : Nat), e = .returned (.tuple #[.string c, .int .i64 (U : Int)]) ∧ Hid (U = (cut s.data.toList).2) ∧ Hid (c.data.toList = s.data.toList.take (cut s.data.toList).1) ∧ c.size ≤ s.size ∧ U ≤ 32768 ∧ U ≤ (units s.data.toList).length ∧ w' = w.iter s p := by
  refine (cutUnits_any s w hs).mono ?_
  rintro e w' ⟨c, rfl, hc, p, rfl⟩
  obtain ⟨h1, h2, h3, h4, h5⟩ := cut_facts s.data.toList
  refine ⟨c, (cut s.data.toList).2, p, rfl, rfl, hc, ?_, h4, ?_, rfl⟩
  · have := congrArg List.length hc
    rw [List.length_take] at this
    have e1 : c.data.toList.length = c.size := rfl
    have e2 : s.data.toList.length = s.size := rfl
    omega
  · have h6 := congrArg List.length h2
    rw [List.length_append] at h6
    omega

theorem extract_drop (s : ByteArray) (n : Nat) : (s.extract n s.size).data.toList = s.data.toList.drop n := by
  rw [ByteArray.data_extract, Array.toList_extract]
  show (s.data.toList.drop n).take (s.size - n) = _
  rw [List.take_of_length_le]
  simp only [List.length_drop]
  show s.data.toList.length - n ≤ s.size - n
  exact Nat.le_refl _

set_option maxHeartbeats 1000000 in
/-- WriteString onto an encoder. -/
theorem writeString_any (b : Nat) (bs : List Int) (s : ByteArray) (w : World) (hs : s.size ≤ 1048576) (hE : Enc b bs w) (hl : bs.length ≤ 100000000000) :
    Calls Try.prog 8 #[.pointer (some ⟨b, 0, none⟩), .string s] w fun e w' => e = .returned (.tuple #[]) ∧ Enc b (bs ++ wstr s.data.toList) w' ∧ Below b w w' := by
  have hlt := hE.lt
  obtain ⟨i0, hi, hz0, hz1, hz2⟩ := info_parts Try.info5
  have HE : Hid (Enc b bs w) := hE
  clear hE
  go_enter Try.func8, Try.ntmps8
  go_wp2_with fail
  refine (utf16Len_any s _ hs).mono ?_
  rintro e w' ⟨rfl, p0, rfl⟩
  go_wp2_with fail
  go_loopw [1, 4] (fun s' n wr => ∃ (c : ByteArray) (acc : List Int) (f : Nat), s' = .string c ∧ n = .int .i64 ((units c.data.toList).length : Int) ∧ Enc b acc wr ∧ Below b w wr ∧ acc ++ wstrF (f + 1) c.data.toList = bs ++ wstr s.data.toList ∧ c.size ≤ f ∧ c.size ≤ s.size ∧ acc.length + 6 * c.size ≤ bs.length + 6 * s.size) (fun s' n wr => (intOf n).toNat)
  case atStart => exact ⟨s, bs, s.size, rfl, rfl, HE.out.alloc _, (Below.refl _ _).alloc (by omega) _, rfl, Nat.le_refl _, Nat.le_refl _, Nat.le_refl _⟩
  case round =>
    obtain ⟨c, acc, f, rfl, rfl, hA, hbw, hacc, hcf, hcs, hal⟩ := hrel
    have HC : Hid (acc ++ wstrF (f + 1) c.data.toList = bs ++ wstr s.data.toList) := hacc
    clear hacc
    have hul : (units c.data.toList).length ≤ c.size := units_le _ _ (Nat.le_refl _)
    have hltr := hA.lt
    by_cases hn : 32768 < (units c.data.toList).length
    · have hn' : (32768 : Int) < ((units c.data.toList).length : Int) := by omega
      go_wp2_with fail
      refine (cut_any c _ (by omega)).mono ?_
      rintro e w' ⟨ch, U, p, rfl, HU, HCH, hch, hU1, hU2, rfl⟩
      have hA' : Enc b acc (wr.iter c p) := hA.alloc _
      obtain ⟨v, hb, hown⟩ := hA'
      have hcl := enc_cell hb
      have em : (U : Int) / 256 % 256 = U / 256 := by omega
      go_wp2_with (at_builtin; refine wpList_append_own _ rfl (.tmp 20) (.tmp 26) 22 rfl (b + 1) 5 i0 (.int .u8 0) 1 1 Try.underlying22 hi hz0 hz1 hz2 rfl (by decide) _ _ _ rfl (hown.alloc _) _ _ _ _ rfl (by rfl) (cells_three _ _ _ _) (ints_oneCell _ _) ?c3 ?c4 ?c5 ?_)
      case c3 => unfold maxLen; omega
      case c4 => omega
      case c5 => simp [World.iter]; omega
      intro v' w1 hown1 hg1 _
      obtain ⟨ao, cp, hv'⟩ := own_slice hown1
      rw [hv'] at hown1 ⊢
      clear hv'
      have S := enc_step (news := [82, (U : Int) / 256, (U : Int) % 256]) hb hown hown1 hg1 rfl
      have hc1 := enc_cell S.1
      have hf1 := enc_frozen S.1 0
      clear hown1 hg1 hown hb hcl em
      go_wp2_with fail
      refine (appendUnits_any b _ ch _ (by omega) S.2.1 (by simp only [List.length_append, List.length_cons, List.length_nil]; omega)).mono ?_
      rintro e W2 ⟨rfl, hE2, hb2⟩
      have hch' : (ch.size : Int) ≤ (c.size : Int) := by omega
      go_wp2_with fail
      go_roundw
      case rel =>
        obtain ⟨k1, k2, k3, k4, k5⟩ := cut_facts c.data.toList
        have k6 := cut_pos c.data.toList hn
        have es : ch.size = (cut c.data.toList).1 := by
          have := congrArg List.length HCH.out
          rw [List.length_take] at this
          have e1 : ch.data.toList.length = ch.size := rfl
          omega
        have ed : (c.extract ch.size c.size).data.toList = c.data.toList.drop (cut c.data.toList).1 := by rw [extract_drop, es]
        have ez : (c.extract ch.size c.size).size = c.size - ch.size := by simp
        have e2 : c.data.toList.length = c.size := rfl
        have k7 : (units c.data.toList).length = U + (units (c.data.toList.drop (cut c.data.toList).1)).length := by
          rw [HU.out, k3, ← List.length_append, ← k2]
        have k8 := ubs_le (units ch.data.toList)
        have k9 : (units ch.data.toList).length = U := by rw [HCH.out, ← k3, HU.out]
        have k10 : (units ch.data.toList).length ≤ ch.size := units_le _ _ (Nat.le_refl _)
        obtain ⟨g, rfl⟩ : ∃ g, f = g + 1 := ⟨f - 1, by omega⟩
        refine ⟨c.extract ch.size c.size, _, g, rfl, ?_, hE2, (hbw.trans ((Below.refl _ _).alloc (by omega) _)).trans (S.2.2.1.trans hb2), ?_, by omega, by omega, ?_⟩
        · rw [ed, k7]; go_num
        · rw [ed, ← HC.out]
          have e3 : wstrF (g + 1 + 1) c.data.toList = [82, ((cut c.data.toList).2 : Int) / 256, ((cut c.data.toList).2 : Int) % 256] ++ ubs (units (c.data.toList.take (cut c.data.toList).1)) ++ wstrF (g + 1) (c.data.toList.drop (cut c.data.toList).1) := by
            rw [wstrF, if_pos hn]
          rw [e3, HU.out, HCH.out]
          simp only [List.append_assoc]
        · simp only [List.length_append, List.length_cons, List.length_nil]
          omega
      case measure =>
        obtain ⟨k1, k2, k3, k4, k5⟩ := cut_facts c.data.toList
        have := k5 hn
        rw [← HU.out] at this
        simp [intOf]
        omega
    · have hn' : ¬ (32768 : Int) < ((units c.data.toList).length : Int) := by omega
      have hw : wstrF (f + 1) c.data.toList = head1 (units c.data.toList).length ++ ubs (units c.data.toList) := by rw [wstrF, if_neg hn]
      have HW : Hid (acc ++ (head1 (units c.data.toList).length ++ ubs (units c.data.toList)) = bs ++ wstr s.data.toList) := by rw [← hw]; exact HC.out
      clear HC hw
      have HL : Hid ((units c.data.toList).length ≤ c.size) := hul
      obtain ⟨v, hb, hown⟩ := hA
      have hcl := enc_cell hb
      generalize hN : (units c.data.toList).length = N at *
      have HN : Hid ((units c.data.toList).length = N) := hN
      clear hN
      by_cases h31 : N ≤ 31
      · have h31' : (N : Int) ≤ 31 := by omega
        have em : (N : Int) % 256 = N := by omega
        have hh : head1 N = [(N : Int)] := by unfold head1; rw [if_pos h31]
        have HH : Hid (head1 N = [(N : Int)]) := hh
        clear hh
        go_wp2_with (at_builtin; refine wpList_append_own _ rfl (.tmp 61) (.tmp 64) 22 rfl (b + 1) 5 i0 (.int .u8 0) 1 1 Try.underlying22 hi hz0 hz1 hz2 rfl (by decide) _ _ _ rfl (hown.alloc _) _ _ _ _ rfl (by rfl) (cells_one _ _) (ints_oneCell _ _) ?c3 ?c4 ?c5 ?_)
        case c3 => unfold maxLen; omega
        case c4 => omega
        case c5 => first | omega | (simp; omega)
        intro v' w1 hown1 hg1 _
        obtain ⟨ao, cp, hv'⟩ := own_slice hown1
        rw [hv'] at hown1 ⊢
        clear hv'
        have S := enc_step (news := [(N : Int)]) hb hown hown1 hg1 rfl
        have hc1 := enc_cell S.1
        have hf1 := enc_frozen S.1 0
        clear hown1 hg1 hown hb hcl em
        go_wp2_with fail
        refine (appendUnits_any b _ c _ (by omega) S.2.1 (by simp only [List.length_append, List.length_cons, List.length_nil]; omega)).mono ?_
        rintro e W2 ⟨rfl, hE2, hb2⟩
        go_wp2_with fail
        go_end0
        refine ⟨rfl, ?_, hbw.trans (S.2.2.1.trans hb2)⟩
        rw [← HW.out, HH.out, ← List.append_assoc]
        exact hE2
      · have h31' : ¬ (N : Int) ≤ 31 := by omega
        by_cases h1023 : N ≤ 1023
        · have h1023' : (N : Int) ≤ 1023 := by omega
          have em : (48 + (N : Int) / 256) % 256 = 48 + N / 256 := by omega
          have hh : head1 N = [48 + (N : Int) / 256, (N : Int) % 256] := by unfold head1; rw [if_neg h31, if_pos h1023]
          have HH : Hid (head1 N = [48 + (N : Int) / 256, (N : Int) % 256]) := hh
          clear hh
          go_wp2_with (at_builtin; refine wpList_append_own _ rfl (.tmp 75) (.tmp 82) 22 rfl (b + 1) 5 i0 (.int .u8 0) 1 1 Try.underlying22 hi hz0 hz1 hz2 rfl (by decide) _ _ _ rfl (hown.alloc _) _ _ _ _ rfl (by rfl) (cells_two _ _ _) (ints_oneCell _ _) ?c3 ?c4 ?c5 ?_)
          case c3 => unfold maxLen; omega
          case c4 => omega
          case c5 => first | omega | (simp; omega)
          intro v' w1 hown1 hg1 _
          obtain ⟨ao, cp, hv'⟩ := own_slice hown1
          rw [hv'] at hown1 ⊢
          clear hv'
          have S := enc_step (news := [48 + (N : Int) / 256, (N : Int) % 256]) hb hown hown1 hg1 rfl
          have hc1 := enc_cell S.1
          have hf1 := enc_frozen S.1 0
          clear hown1 hg1 hown hb hcl em
          go_wp2_with fail
          refine (appendUnits_any b _ c _ (by omega) S.2.1 (by simp only [List.length_append, List.length_cons, List.length_nil]; omega)).mono ?_
          rintro e W2 ⟨rfl, hE2, hb2⟩
          go_wp2_with fail
          go_end0
          refine ⟨rfl, ?_, hbw.trans (S.2.2.1.trans hb2)⟩
          rw [← HW.out, HH.out, ← List.append_assoc]
          exact hE2
        · have h1023' : ¬ (N : Int) ≤ 1023 := by omega
          have em : (N : Int) / 256 % 256 = N / 256 := by omega
          have hh : head1 N = [83, (N : Int) / 256, (N : Int) % 256] := by unfold head1; rw [if_neg h31, if_neg h1023]
          have HH : Hid (head1 N = [83, (N : Int) / 256, (N : Int) % 256]) := hh
          clear hh
          go_wp2_with (at_builtin; refine wpList_append_own _ rfl (.tmp 44) (.tmp 50) 22 rfl (b + 1) 5 i0 (.int .u8 0) 1 1 Try.underlying22 hi hz0 hz1 hz2 rfl (by decide) _ _ _ rfl (hown.alloc _) _ _ _ _ rfl (by rfl) (cells_three _ _ _ _) (ints_oneCell _ _) ?c3 ?c4 ?c5 ?_)
          case c3 => unfold maxLen; omega
          case c4 => omega
          case c5 => first | omega | (simp; omega)
          intro v' w1 hown1 hg1 _
          obtain ⟨ao, cp, hv'⟩ := own_slice hown1
          rw [hv'] at hown1 ⊢
          clear hv'
          have S := enc_step (news := [83, (N : Int) / 256, (N : Int) % 256]) hb hown hown1 hg1 rfl
          have hc1 := enc_cell S.1
          have hf1 := enc_frozen S.1 0
          clear hown1 hg1 hown hb hcl em
          go_wp2_with fail
          refine (appendUnits_any b _ c _ (by omega) S.2.1 (by simp only [List.length_append, List.length_cons, List.length_nil]; omega)).mono ?_
          rintro e W2 ⟨rfl, hE2, hb2⟩
          go_wp2_with fail
          go_end0
          refine ⟨rfl, ?_, hbw.trans (S.2.2.1.trans hb2)⟩
          rw [← HW.out, HH.out, ← List.append_assoc]
          exact hE2

end Go.Proofs.Qxb6613196a
