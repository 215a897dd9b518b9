import Derived.Test.Qxb6613196aA1
namespace Go.Proofs.Qxb6613196a
open Go.RowKit

theorem next_at {P : Program} (w : World) (s : ByteArray) (pos r wd : Nat) (hp : pos < s.size) (hd : Utf8.decode s pos = (r, wd)) (ty : TypeId) :
    (Instr.next (.pointer (some ⟨w.heap.size, 0, none⟩)) true ty).run P (w.iter s pos) = .ok (.tuple #[.bool true, .int .i64 pos, .int .i32 r]) (w.iter s (pos + wd)) := by
  rw [run_next_any w s pos ty hp, hd]

/-- One character of s at pos. -/
theorem step_facts (s : ByteArray) (pos : Nat) (hp : pos < s.size) : ∃ r wd, Utf8.decode s pos = (r, wd) ∧ dec (s.data.toList.drop pos) = (r, wd) ∧ s.data.toList.drop pos ≠ [] ∧ (r < 55296 ∨ (57344 ≤ r ∧ r ≤ 1114111)) ∧ 1 ≤ wd ∧ pos + wd ≤ s.size ∧ runeLen r ≤ wd ∧
    units (s.data.toList.drop pos) = runeUnits r ++ units (s.data.toList.drop (pos + wd)) := by
  have hsz : s.data.toList.length = s.size := rfl
  have hne : s.data.toList.drop pos ≠ [] := by
    intro e
    have := congrArg List.length e
    rw [List.length_drop, List.length_nil, hsz] at this
    omega
  refine ⟨(dec (s.data.toList.drop pos)).1, (dec (s.data.toList.drop pos)).2, decode_dec s pos, rfl, hne, dec_rune _, dec_pos _, ?_, runeLen_le _, ?_⟩
  · have := dec_le _ hne
    rw [List.length_drop, hsz] at this
    omega
  · rw [units_step _ hne, List.drop_drop]

theorem ret_int {k : IntKind} {a b : Int} (h : a = b) : Ending.returned (.int k a) = .returned (.int k b) := by rw [h]

set_option maxHeartbeats 400000 in
/-- utf16Len. -/
theorem utf16Len_any (s : ByteArray) (w : World) (hs : s.size ≤ 1048576) :
    Calls Try.prog 19 #[.string s] w fun e w' => e = .returned (.int .i64 ((units s.data.toList).length : Int)) ∧ ∃ pos, w' = w.iter s pos := by
  go_enter Try.func19, Try.ntmps19
  go_wp2
  go_loopw [3] (fun n w' => ∃ (pos acc : Nat), w' = w.iter s pos ∧ n = .int .i64 acc ∧ acc + (units (s.data.toList.drop pos)).length = (units s.data.toList).length ∧ acc ≤ pos ∧ pos ≤ s.size) (fun _ w' => s.size - w'.iterPos w.heap.size)
  case atStart => exact ⟨0, 0, rfl, rfl, by simp, Nat.le_refl _, Nat.zero_le _⟩
  case round =>
    obtain ⟨pos, acc, rfl, rfl, hc, ha, hps⟩ := hrel
    have HC : Hid (acc + (units (s.data.toList.drop pos)).length = (units s.data.toList).length) := hc
    clear hc
    by_cases hp : pos < s.size
    · obtain ⟨r, wd, hd, hdd, hne, hr, hw1, hw2, hrl, hu⟩ := step_facts s pos hp
      have hnx : ∀ ty, (Instr.next (.pointer (some ⟨w.heap.size, 0, none⟩)) true ty).run Try.prog (w.iter s pos) = _ := fun ty => next_at w s pos r wd hp hd ty
      have HU : Hid (units (s.data.toList.drop pos) = runeUnits r ++ units (s.data.toList.drop (pos + wd))) := hu
      clear hu hd hdd hne
      go_wp2_with (go_at_call 27; refine (runeLen_any r _ hr).mono ?_; rintro e w' ⟨rfl, rfl⟩)
      go_roundw
      case rel =>
        refine ⟨pos + wd, acc + runeLen r, rfl, by go_num, ?_, by omega, by omega⟩
        have h1 := HC.out
        rw [HU.out, List.length_append, runeUnits_length] at h1
        omega
      case measure =>
        simp
        omega
    · have hnx : ∀ ty, (Instr.next (.pointer (some ⟨w.heap.size, 0, none⟩)) true ty).run Try.prog (w.iter s pos) = _ := fun ty => run_next_end w s pos ty hp
      go_wp2
      go_ret
      refine ⟨ret_int ?_, _, rfl⟩
      have h1 := HC.out
      rw [List.drop_eq_nil_of_le (by show s.size ≤ pos; omega), units_nil] at h1
      simp at h1
      omega

theorem cutF_step (limit f u : Nat) (l : List UInt8) (r wd : Nat) (hd : dec l = (r, wd)) (hne : l ≠ []) (h : ¬ u + runeLen r > limit) :
    cutF limit (f + 1) u l = (wd + (cutF limit f (u + runeLen r) (l.drop wd)).1, (cutF limit f (u + runeLen r) (l.drop wd)).2) := by
  simp only [cutF, if_neg hne, hd, if_neg h]
theorem cutF_stop (limit f u : Nat) (l : List UInt8) (r wd : Nat) (hd : dec l = (r, wd)) (hne : l ≠ []) (h : u + runeLen r > limit) :
    cutF limit (f + 1) u l = (0, u) := by
  simp only [cutF, if_neg hne, hd, if_pos h]
theorem cutF_nil (limit f u : Nat) : cutF limit f u [] = (0, u) := by cases f <;> simp [cutF]

theorem extract_take (s : ByteArray) (n : Nat) : (s.extract 0 n).data.toList = s.data.toList.take n := by
  rw [ByteArray.data_extract, Array.toList_extract]
  simp

theorem ret_cut {c c' : ByteArray} {a b : Int} (h : c = c') (h' : a = b) : Ending.returned (.tuple #[.string c, .int .i64 a]) = .returned (.tuple #[.string c', .int .i64 b]) := by rw [h, h']

set_option maxHeartbeats 400000 in
/-- cutUnits at 0x8000. -/
theorem cutUnits_any (s : ByteArray) (w : World) (hs : s.size ≤ 1048576) :
    Calls Try.prog 20 #[.string s, .int .i64 32768] w fun e w' => ∃ c : ByteArray, e = .returned (.tuple #[.string c, .int .i64 ((cut s.data.toList).2 : Int)]) ∧ c.data.toList = s.data.toList.take (cut s.data.toList).1 ∧ ∃ pos, w' = w.iter s pos := by
  go_enter Try.func20, Try.ntmps20
  go_wp2
  go_loopw [6] (fun n w' => ∃ (pos acc f : Nat), w' = w.iter s pos ∧ n = .int .i64 acc ∧ cut s.data.toList = (pos + (cutF 32768 f acc (s.data.toList.drop pos)).1, (cutF 32768 f acc (s.data.toList.drop pos)).2) ∧ acc ≤ pos ∧ pos ≤ s.size ∧ s.size ≤ pos + f) (fun _ w' => s.size - w'.iterPos w.heap.size)
  case atStart => exact ⟨0, 0, s.size, rfl, rfl, by simp [cut], Nat.le_refl _, Nat.zero_le _, by omega⟩
  case round =>
    obtain ⟨pos, acc, f, rfl, rfl, hc, ha, hps, hf⟩ := hrel
    have HC : Hid (cut s.data.toList = (pos + (cutF 32768 f acc (s.data.toList.drop pos)).1, (cutF 32768 f acc (s.data.toList.drop pos)).2)) := hc
    clear hc
    by_cases hp : pos < s.size
    · obtain ⟨r, wd, hd, hdd, hne, hr, hw1, hw2, hrl, hu⟩ := step_facts s pos hp
      have hnx : ∀ ty, (Instr.next (.pointer (some ⟨w.heap.size, 0, none⟩)) true ty).run Try.prog (w.iter s pos) = _ := fun ty => next_at w s pos r wd hp hd ty
      obtain ⟨g, rfl⟩ : ∃ g, f = g + 1 := ⟨f - 1, by omega⟩
      have HD : Hid (dec (s.data.toList.drop pos) = (r, wd)) := hdd
      have HN : Hid (s.data.toList.drop pos ≠ []) := hne
      clear hu hd hdd hne
      by_cases hov : 32768 < acc + runeLen r
      · have hov' : (32768 : Int) < (acc : Int) + (runeLen r : Int) := by omega
        go_wp2_with (go_at_call 27; refine (runeLen_any r _ hr).mono ?_; rintro e w' ⟨rfl, rfl⟩)
        go_ret2
        have h1 := HC.out
        rw [cutF_stop 32768 g acc _ r wd HD.out HN.out hov] at h1
        rw [h1]
        refine ⟨_, ret_cut rfl rfl, ?_, _, rfl⟩
        simp only [Nat.add_zero]
        exact extract_take s pos
      · have hov' : ¬ (32768 : Int) < (acc : Int) + (runeLen r : Int) := by omega
        go_wp2_with (go_at_call 27; refine (runeLen_any r _ hr).mono ?_; rintro e w' ⟨rfl, rfl⟩)
        go_roundw
        case rel =>
          refine ⟨pos + wd, acc + runeLen r, g, rfl, by go_num, ?_, by omega, by omega, by omega⟩
          have h1 := HC.out
          rw [cutF_step 32768 g acc _ r wd HD.out HN.out hov, List.drop_drop] at h1
          rw [h1, Nat.add_assoc]
        case measure =>
          simp
          omega
    · have hnx : ∀ ty, (Instr.next (.pointer (some ⟨w.heap.size, 0, none⟩)) true ty).run Try.prog (w.iter s pos) = _ := fun ty => run_next_end w s pos ty hp
      go_wp2
      go_ret2
      have h1 := HC.out
      rw [List.drop_eq_nil_of_le (by show s.size ≤ pos; omega), cutF_nil] at h1
      rw [h1]
      refine ⟨_, ret_cut rfl rfl, ?_, _, rfl⟩
      rw [List.take_of_length_le (by show s.size ≤ _; omega)]

theorem next_at_k {P : Program} (w : World) (k : Nat) (s : ByteArray) (pos r wd : Nat) (hk : w.heap[k]? = some (.stringIter s pos)) (hp : pos < s.size) (hd : Utf8.decode s pos = (r, wd)) (ty : TypeId) :
    (Instr.next (.pointer (some ⟨k, 0, none⟩)) true ty).run P w = .ok (.tuple #[.bool true, .int .i64 pos, .int .i32 r]) (w.iterAt k s (pos + wd)) := by
  rw [Lib.run_next_any_at w k s pos ty hk hp, hd]

theorem ubs_one (u : Int) : ubs [u] = unitBytes u := by simp [ubs]
theorem unitBytes_ascii (u : Int) (h : u < 128) : unitBytes u = [u] := by unfold unitBytes; rw [if_pos h]

set_option maxHeartbeats 1000000 in
/-- appendUnits. -/
theorem appendUnits_any (b : Nat) (bs : List Int) (s : ByteArray) (w : World) (hs : s.size ≤ 1048576) (hE : Enc b bs w) (hl : bs.length ≤ 500000000000) :
    Calls Try.prog 21 #[.pointer (some ⟨b, 0, none⟩), .string s] w fun e w' => e = .returned (.tuple #[]) ∧ Enc b (bs ++ ubs (units s.data.toList)) w' ∧ Below b w w' := by
  have hlt := hE.lt
  obtain ⟨i0, hi, hz0, hz1, hz2⟩ := info_parts Try.info5
  have HE : Hid (Enc b bs w) := hE
  clear hE
  go_enter Try.func21, Try.ntmps21
  go_wp2
  go_loopw [] (fun wr => ∃ (pos : Nat) (acc : List Int), Enc b acc wr ∧ wr.heap[w.heap.size]? = some (.stringIter s pos) ∧ Below b w wr ∧ acc ++ ubs (units (s.data.toList.drop pos)) = bs ++ ubs (units s.data.toList) ∧ acc.length ≤ bs.length + 3 * pos ∧ pos ≤ s.size) (fun wr => s.size - wr.iterPos w.heap.size)
  case atStart => exact ⟨0, bs, HE.out.alloc _, World.iter_heap w s 0, (Below.refl _ _).alloc (by omega) _, by simp, by omega, by omega⟩
  case round =>
    obtain ⟨pos, acc, hA, hit, hbw, hacc, hal, hps⟩ := hrel
    have HC : Hid (acc ++ ubs (units (s.data.toList.drop pos)) = bs ++ ubs (units s.data.toList)) := hacc
    clear hacc
    have hsz : w.heap.size < wr.heap.size := (Array.getElem?_eq_some_iff.1 hit).1
    by_cases hp : pos < s.size
    · obtain ⟨r, wd, hd, hdd, hne, hr, hw1, hw2, hrl, hu⟩ := step_facts s pos hp
      have hnx : ∀ ty, (Instr.next (.pointer (some ⟨w.heap.size, 0, none⟩)) true ty).run Try.prog wr = _ := fun ty => next_at_k wr w.heap.size s pos r wd hit hp hd ty
      have hA2 := hA.iterAt hit (pos + wd)
      have hit2 := Lib.iterAt_heap wr w.heap.size s pos (pos + wd) hit
      have hbw2 : Below b w (wr.iterAt w.heap.size s (pos + wd)) := Lib.below_iterAt hbw (k := w.heap.size) (by omega) s (pos + wd)
      have hsz2 : w.heap.size < (wr.iterAt w.heap.size s (pos + wd)).heap.size := by rw [Lib.iterAt_size]; omega
      have HU : Hid (units (s.data.toList.drop pos) = runeUnits r ++ units (s.data.toList.drop (pos + wd))) := hu
      have HIT : Hid ((wr.iterAt w.heap.size s (pos + wd)).heap[w.heap.size]? = some (.stringIter s (pos + wd))) := hit2
      have HIT0 : Hid (wr.heap[w.heap.size]? = some (.stringIter s pos)) := hit
      clear hu hd hdd hne hit2 hA hbw hit
      by_cases h1 : r < 128
      · obtain ⟨v, hb, hown⟩ := hA2
        have hc := enc_cell hb
        have h1' : (r : Int) < 128 := by omega
        have em : (r : Int) % 256 = r := by omega
        go_wp2_with (at_builtin; refine wpList_append_own _ rfl (.tmp 33) (.tmp 36) 22 rfl (b + 1) 5 i0 (.int .u8 0) 1 1 Try.underlying22 hi hz0 hz1 hz2 rfl (by decide) _ _ _ rfl (hown.alloc _) _ _ _ _ rfl (by rfl) (cells_one _ _) (ints_oneCell _ _) ?c3 ?c4 ?c5 ?_)
        case c3 => unfold maxLen; omega
        case c4 => omega
        case c5 => simp; omega
        intro v' w1 hown1 hg1 _
        obtain ⟨ao, cp, hv'⟩ := own_slice hown1
        rw [hv'] at hown1 ⊢
        clear hv'
        have S := enc_step (news := [(r : Int)]) hb hown hown1 hg1 rfl
        have hc1 := enc_cell S.1
        have hf1 := enc_frozen S.1 0
        clear hown1 hg1 hown hb hc em
        go_wp2
        go_roundw
        case rel =>
          refine ⟨pos + wd, acc ++ [(r : Int)], S.2.1, S.2.2.iter HIT.out (by omega), hbw2.trans S.2.2.1, ?_, by simp; omega, by omega⟩
          rw [← HC.out, HU.out]
          unfold runeUnits
          rw [if_pos (by omega), ubs_append, ubs_one, unitBytes_ascii _ (by omega), List.append_assoc]
        case measure =>
          simp only [World.iterPos, S.2.2.iter HIT.out (by omega), HIT0.out]
          omega
      · by_cases h2 : r < 65536
        · have h1' : ¬ (r : Int) < 128 := by omega
          have h2' : (r : Int) < 65536 := by omega
          have em : (r : Int) % 65536 = r := by omega
          go_wp2_with (go_at_call 28; refine (appendUnit_any b acc (r : Int) _ (by omega) (by omega) hA2 (by omega)).mono ?_; rintro e W1 ⟨rfl, hE1, hk1⟩)
          go_roundw
          case rel =>
            refine ⟨pos + wd, acc ++ unitBytes (r : Int), hE1, hk1.iter HIT.out (by omega), hbw2.trans hk1.1, ?_, ?_, by omega⟩
            · rw [← HC.out, HU.out]
              unfold runeUnits
              rw [if_pos (by omega), ubs_append, ubs_one, List.append_assoc]
            · have := unitBytes_le (r : Int)
              simp only [List.length_append]
              omega
          case measure =>
            simp only [World.iterPos, hk1.iter HIT.out (by omega), HIT0.out]
            omega
        · have h1' : ¬ (r : Int) < 128 := by omega
          have h2' : ¬ (r : Int) < 65536 := by omega
          go_wp2_with (go_at_call 29; refine (encodeRune_any (r : Int) _ (by omega) (by omega)).mono ?_; rintro e w' ⟨rfl, rfl⟩)
          refine (appendUnit_any b acc (55296 + ((r : Int) - 65536) / 1024) _ (by omega) (by omega) hA2 (by omega)).mono ?_
          rintro e W1 ⟨rfl, hE1, hk1⟩
          have hl1 := unitBytes_le (55296 + ((r : Int) - 65536) / 1024)
          go_wp2_with fail
          refine (appendUnit_any b _ (56320 + ((r : Int) - 65536) % 1024) _ (by omega) (by omega) hE1 (by simp only [List.length_append]; omega)).mono ?_
          rintro e W2 ⟨rfl, hE2, hk2⟩
          have hl2 := unitBytes_le (56320 + ((r : Int) - 65536) % 1024)
          go_wp2_with fail
          go_roundw
          case rel =>
            refine ⟨pos + wd, _, hE2, hk2.iter (hk1.iter HIT.out (by omega)) (by omega), (hbw2.trans hk1.1).trans hk2.1, ?_, ?_, by omega⟩
            · rw [← HC.out, HU.out]
              unfold runeUnits
              rw [if_neg (by omega), ubs_append, ubs_cons, ubs_one, List.append_assoc, List.append_assoc, List.append_assoc]
            · have h3 : 2 ≤ wd := by unfold runeLen at hrl; rw [if_neg h2] at hrl; exact hrl
              simp only [List.length_append]
              omega
          case measure =>
            simp only [World.iterPos, hk2.iter (hk1.iter HIT.out (by omega)) (by omega), HIT0.out]
            omega
    · have hnx : ∀ ty, (Instr.next (.pointer (some ⟨w.heap.size, 0, none⟩)) true ty).run Try.prog wr = _ := fun ty => Lib.run_next_end_at wr w.heap.size s pos ty hit hp
      go_wp2
      go_end0
      have h1 := HC.out
      rw [List.drop_eq_nil_of_le (by show s.size ≤ pos; omega), units_nil, ubs_nil, List.append_nil] at h1
      subst h1
      exact ⟨rfl, hA, hbw⟩

end Go.Proofs.Qxb6613196a
