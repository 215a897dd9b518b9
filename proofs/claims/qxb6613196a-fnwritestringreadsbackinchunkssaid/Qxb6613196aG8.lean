import Derived.Test.Qxb6613196aG6
import Derived.Test.Qxb6613196aG7
import Derived.Test.Qxb6613196aB2
import Derived.Deep.AppendLies
namespace Go.Proofs.Qxb6613196a
open Go.RowKit

/-- What an encoder's buffer reads as: the slice and its cells. -/
theorem enc_buf3 {b : Nat} {bs : List Int} {w : World} (h : Enc b bs w) (hne : 1 ≤ bs.length) : ∃ g cap, b < g ∧ bs.length ≤ cap ∧ cap ≤ 9223372036854775807 ∧ w.cell? ⟨b, 0, none⟩ = some (.slice (some ⟨g, 0, none⟩) bs.length cap) ∧ g < w.heap.size ∧ ∀ j, j < bs.length → w.cell? ⟨g, j, none⟩ = some (.int .u8 (bs.getD j 0)) := by
  obtain ⟨v, hb, hown⟩ := h
  have hc := enc_cell hb
  have hlt := hown.lt
  rcases hown.2 with ⟨rfl, h0⟩ | ⟨g, cap, cur, rfl, hbg, hg, hnc, hcm, _⟩
  · omega
  · refine ⟨g, cap, by omega, hnc, by unfold maxLen at hcm; omega, hc, (Array.getElem?_eq_some_iff.1 hg).1, fun j hj => ?_⟩
    rw [hown.cellAt j (by omega)]
    simp [List.getD, hj]

set_option maxHeartbeats 400000 in
theorem zzBytes11_any (s : ByteArray) (w : World) (hs : s.size ≤ maxLen) :
    Calls Try.prog 11 #[.string s] w fun e w' => e = .returned (.bool (decide (s.size ≤ 1048576))) ∧ w' = w := by
  unfold maxLen at hs
  by_cases h : s.size ≤ 1048576
  · have h' : ¬ (1048576 : Int) < (s.size : Int) := by omega
    rw [decide_eq_true h]
    go_enter Try.func11, Try.ntmps11
    go_wp2
    go_ret
    exact ⟨rfl, rfl⟩
  · have h' : (1048576 : Int) < (s.size : Int) := by omega
    rw [decide_eq_false h]
    go_enter Try.func11, Try.ntmps11
    go_wp2
    go_ret
    exact ⟨rfl, rfl⟩

/-- What holds at each round's head. -/
def Rel (B : Nat) (W : World) (bs : List Int) (us0 : List Int) (v ps sw : Value) (wr : World) : Prop :=
  ∃ (p f : Nat) (acc : List Int) (l : List UInt8) (b : Bool), ps = .int .i64 (p : Int) ∧ sw = .bool b ∧ wr.ownsRow B 3 1 v acc.length (acc.map (Value.int .i64)) ∧ bs.drop p = wstrF (f + 1) l ∧ l.length ≤ f ∧ acc ++ units l = us0 ∧ (b = true → 1 ≤ (units l).length) ∧ Below B W wr ∧ p ≤ bs.length

theorem own_drewN {w : World} {q base : Nat} {e : TypeId} {size : Nat} {v : Value} {n : Nat} {xs : List Value} (h : w.ownsRow base e size v n xs) : (w.drewN q).ownsRow base e size v n xs := h
theorem take_one (us : List Int) (j : Nat) (h : j < us.length) : us.take (j + 1) = us.take j ++ [us.getD j 0] := by
  rw [List.take_succ_eq_append_getElem h, List.getD_eq_getElem?_getD, List.getElem?_eq_getElem h]
  rfl

theorem hd_at {bs hd rest : List Int} {p : Nat} (hb : bs.drop p = hd ++ rest) (k : Nat) (hk : k < hd.length) : bs.getD (p + k) 0 = hd.getD k 0 := by
  rw [getD_drop, hb, List.getD_eq_getElem?_getD, List.getElem?_append_left hk, List.getD_eq_getElem?_getD]

theorem not_high {l : List UInt8} {us : List Int} (h : units l = us) : ∀ a x, us = a ++ [x] → highB x = false := by
  intro a x hx
  have := units_last l.length l (Nat.le_refl _) a x (h.trans hx)
  unfold highB
  simp
  omega

/-- A chunk that is not the last. -/
theorem chunk_facts (bs : List Int) (p f : Nat) (l : List UInt8) (hbs : bs.drop p = wstrF (f + 1) l) (hp : p ≤ bs.length) (hlf : l.length ≤ f) (hch : 32768 < (units l).length) :
    ∃ (U : Nat) (us R : List Int), us.length = U ∧ 32767 ≤ U ∧ U ≤ 32768 ∧ (∀ u ∈ us, 0 ≤ u ∧ u < 65536) ∧ bs.drop p = [82, (U : Int) / 256, (U : Int) % 256] ++ (ubs us ++ R) ∧ (∀ a x, us = a ++ [x] → highB x = false) ∧ p + 3 + (ubs us).length ≤ bs.length ∧
      ∀ (B : Nat) (W : World) (us0 acc : List Int) (v : Value) (wi : World), acc ++ units l = us0 → wi.ownsRow B 3 1 v (acc.length + U) ((acc ++ us).map (Value.int .i64)) → Below B W wi → Rel B W bs us0 v (.int .i64 ((p + 3 + (ubs us).length : Nat) : Int)) (.bool true) wi := by
  obtain ⟨k1, k2, k3, k4, k5⟩ := cut_facts l
  have k6 := cut_pos l hch
  have k7 := k5 hch
  have hB : bs.drop p = [82, ((cut l).2 : Int) / 256, ((cut l).2 : Int) % 256] ++ (ubs (units (l.take (cut l).1)) ++ wstrF f (l.drop (cut l).1)) := by
    rw [hbs, wstrF_chunk f l hch, List.append_assoc]
  have hL := congrArg List.length hB
  simp only [List.length_drop, List.length_append, List.length_cons, List.length_nil] at hL
  refine ⟨(cut l).2, units (l.take (cut l).1), wstrF f (l.drop (cut l).1), k3.symm, k7, k4, units_bd _ _ (Nat.le_refl _), hB, not_high rfl, by omega, ?_⟩
  intro B W us0 acc v wi hacc hown hbel
  obtain ⟨f', rfl⟩ : ∃ f', f = f' + 1 := ⟨f - 1, by omega⟩
  have hk2 := congrArg List.length k2
  rw [List.length_append] at hk2
  refine ⟨p + 3 + (ubs (units (l.take (cut l).1))).length, f', acc ++ units (l.take (cut l).1), l.drop (cut l).1, true, rfl, rfl, ?_, ?_, ?_, ?_, ?_, hbel, by omega⟩
  · rw [List.length_append, ← k3]; exact hown
  · have e : p + 3 + (ubs (units (l.take (cut l).1))).length = p + (3 + (ubs (units (l.take (cut l).1))).length) := by omega
    rw [e, ← List.drop_drop, hB, ← List.drop_drop]
    simp
  · rw [List.length_drop]; omega
  · rw [List.append_assoc, ← k2]; exact hacc
  · intro _; omega

/-- The last chunk. -/
theorem last_facts (bs : List Int) (p f : Nat) (l : List UInt8) (hbs : bs.drop p = wstrF (f + 1) l) (hp : p ≤ bs.length) (hch : ¬ 32768 < (units l).length) :
    ∃ (N : Nat) (us : List Int), us = units l ∧ us.length = N ∧ N ≤ 32768 ∧ (∀ u ∈ us, 0 ≤ u ∧ u < 65536) ∧ bs.drop p = head1 N ++ (ubs us ++ []) ∧ p + (head1 N).length + (ubs us).length = bs.length := by
  have hB : bs.drop p = head1 (units l).length ++ (ubs (units l) ++ []) := by rw [hbs, wstrF_last f l hch, List.append_nil]
  have hL := congrArg List.length hB
  simp only [List.length_drop, List.length_append, List.length_nil] at hL
  refine ⟨_, _, rfl, rfl, by omega, units_bd _ _ (Nat.le_refl _), hB, ?_⟩
  by_cases h1 : (head1 (units l).length).length = 0
  · unfold head1 at h1; split at h1
    · simp at h1
    · split at h1 <;> simp at h1
  · omega

set_option maxRecDepth 100000 in
set_option maxHeartbeats 4000000 in
theorem walk4 (s : ByteArray) (w : World) (hs : s.size ≤ maxLen) :
    Calls Try.prog 4 #[.string s] w fun e w' => e = .returned (.bool true) ∧ Below w.heap.size w w' := by
  by_cases h0 : s.size ≤ 1048576
  · have h0' : ¬ (1048576 : Int) < (s.size : Int) := by omega
    obtain ⟨i0, hi, hz0, hz1, hz2⟩ := info_parts Try.info3
    go_enter Try.func4, Try.ntmps4
    go_wp2_with (go_at_call 11; refine (zzBytes11_any s _ hs).mono ?_; rintro e w' ⟨rfl, rfl⟩)
    refine (writeString_any _ [] s _ h0 (enc_new w') (by simp)).mono ?_
    rintro e W1 ⟨rfl, hE1, hb1⟩
    rw [List.nil_append] at hE1
    obtain ⟨r1, hh1⟩ := wstr_head s.data.toList
    have hlen1 : 1 ≤ (wstr s.data.toList).length := by rw [hh1]; simp
    have hlenN : (wstr s.data.toList).length ≤ 7000000 := by
      have := wstrF_len (s.data.toList.length + 1) s.data.toList
      have e1 : s.data.toList.length = s.size := rfl
      unfold wstr
      omega
    obtain ⟨g, cap, hbg, hcap, hcm, hcell, hgs, hcells⟩ := enc_buf3 hE1 hlen1
    have hbw : Below w'.heap.size w' W1 := ((Below.refl _ w').alloc (Nat.le_refl _) _).trans hb1
    have HBS : Hid ((wstr s.data.toList).drop 0 = wstrF (s.data.toList.length + 1) s.data.toList) := rfl
    generalize wstr s.data.toList = bs at *
    have HC : Hid (∀ j, j < bs.length → W1.cell? ⟨g, j, none⟩ = some (.int .u8 (bs.getD j 0))) := hcells
    clear hcells hE1 hb1 hh1 hcm
    generalize hN : bs.length = n at *
    have HN : Hid (bs.length = n) := hN
    clear hN
    go_wp2_with fail
    refine (encoderBuf_any _ _ _ _ _ hcell).mono ?_
    rintro e W2 ⟨rfl, rfl⟩
    clear hcell
    go_wp2_with fail
    go_loopw [5, 6, 7] (fun v ps sw wr => Rel W2.heap.size W2 bs (units s.data.toList) v ps sw wr) (fun _ ps _ _ => n - (intOf ps).toNat)
    case atStart => exact ⟨0, s.data.toList.length, [], s.data.toList, false, rfl, rfl, World.ownsRow_nil _ _ _ _, HBS.out, Nat.le_refl _, by simp, by simp, Below.refl _ _, Nat.zero_le _⟩
    case round =>
      obtain ⟨p, f, acc, l, b, rfl, rfl, hown, hbs, hlf, hacc, hsaw, hbr, hpn⟩ := hrel
      have HBS : Hid (bs.drop p = wstrF (f + 1) l) := hbs
      have HACC : Hid (acc ++ units l = units s.data.toList) := hacc
      have HSAW : Hid (b = true → 1 ≤ (units l).length) := hsaw
      have HO : Hid (wr.ownsRow W2.heap.size 3 1 u5 acc.length (acc.map (Value.int .i64))) := hown
      rw [HN.out] at hpn
      have haccl : acc.length ≤ 1048576 := by
        have h1 := congrArg List.length hacc
        rw [List.length_append] at h1
        have h2 := units_le _ s.data.toList (Nat.le_refl _)
        have e1 : s.data.toList.length = s.size := rfl
        omega
      clear hbs hacc hsaw hown
      by_cases hch : 32768 < (units l).length
      · obtain ⟨U, us, R, hus, hU1, hU2, hub, hB, hnh, hend, hrel⟩ := chunk_facts bs p f l HBS.out (by rw [HN.out]; exact hpn) hlf hch
        rw [HN.out] at hend
        have HUS : Hid (us.length = U) := hus
        have HUB : Hid (∀ u ∈ us, 0 ≤ u ∧ u < 65536) := hub
        have HB : Hid (bs.drop p = [82, (U : Int) / 256, (U : Int) % 256] ++ (ubs us ++ R)) := hB
        have HNH : Hid (∀ a x, us = a ++ [x] → highB x = false) := hnh
        have HREL : Hid (∀ (B : Nat) (W : World) (us0 acc : List Int) (v : Value) (wi : World), acc ++ units l = us0 → wi.ownsRow B 3 1 v (acc.length + U) ((acc ++ us).map (Value.int .i64)) → Below B W wi → Rel B W bs us0 v (.int .i64 ((p + 3 + (ubs us).length : Nat) : Int)) (.bool true) wi) := hrel
        have x0 : wr.cell? ⟨g, p, none⟩ = some (.int .u8 82) := by
          rw [hbr.cell (p := ⟨g, p, none⟩) hgs, HC.out p (by omega)]
          have := hd_at hB 0 (by simp)
          rw [Nat.add_zero] at this
          rw [this]; rfl
        have x1 : wr.cell? ⟨g, p + 1, none⟩ = some (.int .u8 ((U : Int) / 256)) := by
          rw [hbr.cell (p := ⟨g, p + 1, none⟩) hgs, HC.out (p + 1) (by omega), hd_at hB 1 (by simp)]; rfl
        have x2 : wr.cell? ⟨g, p + 2, none⟩ = some (.int .u8 ((U : Int) % 256)) := by
          rw [hbr.cell (p := ⟨g, p + 2, none⟩) hgs, HC.out (p + 2) (by omega), hd_at hB 2 (by simp)]; rfl
        clear hus hub hB hnh hrel HBS hlf
        have y0 : (p : Int) < (n : Int) := by omega
        have y1 : (p : Int) + 1 < (n : Int) := by omega
        have y2 : (p : Int) + 2 < (n : Int) := by omega
        have y3 : ¬ (n : Int) ≤ (p : Int) := by omega
        have y4 : ¬ (n : Int) - (p : Int) < 3 := by omega
        have hk : (U : Int) / 256 * 256 + (U : Int) % 256 = (U : Int) := by omega
        go_wp2_with fail
        go_quiet (fail)
        go_wp2_with fail
        clear x0 x1 x2 y1 y2 y3 y4 hk
        go_loopw [5, 6, 11] (fun v ps j wi => ∃ (jj Q : Nat), jj ≤ U ∧ j = .int .i64 (jj : Int) ∧ Q = p + 3 + (ubs (us.take jj)).length ∧ ps = .int .i64 (Q : Int) ∧ wi.ownsRow W2.heap.size 3 1 v (acc.length + jj) ((acc ++ us.take jj).map (Value.int .i64)) ∧ Below W2.heap.size W2 wi) (fun _ _ j _ => U - (intOf j).toNat)
        case atStart => exact ⟨0, p + 3, Nat.zero_le _, rfl, by simp [ubs], by go_num, by first | simpa using HO.out | simpa using own_drewN HO.out, by first | exact hbr | exact below_drewN hbr _⟩
        case round =>
          clear HO hbr
          obtain ⟨jj, Q, hjU, rfl, hQ, rfl, hown, hbi⟩ := hrel
          have HQ : Hid (Q = p + 3 + (ubs (us.take jj)).length) := hQ
          clear hQ
          have hbis := hbi.size
          by_cases hjlt : jj < U
          · have hjlt' : (jj : Int) < (U : Int) := by omega
            have hjl : jj < us.length := by rw [HUS.out]; exact hjlt
            have hub := HUB.out (us.getD jj 0) (by rw [List.getD_eq_getElem?_getD, List.getElem?_eq_getElem hjl]; exact List.getElem_mem hjl)
            have hroom := unit_room bs [82, (U : Int) / 256, (U : Int) % 256] R us p jj (by rw [HN.out]; exact hpn) HB.out hjl
            have hat := unit_at bs [82, (U : Int) / 256, (U : Int) % 256] R us p jj HB.out hjl
            simp only [List.length_cons, List.length_nil, ← HQ.out, HN.out] at hroom hat
            have HT : Hid (ubs (us.take (jj + 1)) = ubs (us.take jj) ++ unitBytes (us.getD jj 0)) := ubs_take us jj hjl
            have HTK : Hid (us.take (jj + 1) = us.take jj ++ [us.getD jj 0]) := take_one us jj hjl
            have hwl := unitBytes_le (us.getD jj 0)
            have hwp := unitBytes_pos (us.getD jj 0)
            clear hjl
            generalize us.getD jj 0 = x at *
            have hrd := fun wx (hx : ∀ t, t < (unitBytes x).length → wx.cell? ⟨g, Q + t, none⟩ = some (.int .u8 ((unitBytes x).getD t 0))) => readUnit_any g n cap Q x wx hub.1 hub.2 hroom (by omega) hx
            have hcx : ∀ t, t < (unitBytes x).length → wr.cell? ⟨g, Q + t, none⟩ = some (.int .u8 ((unitBytes x).getD t 0)) := by
              intro t ht
              rw [hbi.cell (p := ⟨g, Q + t, none⟩) hgs, HC.out (Q + t) (by omega), hat t ht]
            have hR := hrd _ hcx
            have HRD : Hid (Calls Try.prog 12 #[.slice (some ⟨g, 0, none⟩) n cap, .int .i64 (Q : Int)] wr fun e w' => e = .returned (.tuple #[.int .i64 x, .int .i64 ((unitBytes x).length : Int)]) ∧ Below wr.heap.size wr w') := hR
            clear hat hrd hcx hR
            generalize hWL : (unitBytes x).length = wl at *
            have HWL : Hid ((unitBytes x).length = wl) := hWL
            clear hWL
            go_wp2_with fail
            refine HRD.out.mono ?_
            rintro e W3 ⟨rfl, hb3⟩
            clear HRD
            have hown3 := own_kept hown hb3
            obtain ⟨XS, hXS⟩ : ∃ XS, (acc ++ us.take jj).map (Value.int .i64) = XS := ⟨_, rfl⟩
            rw [hXS] at hown3
            have HXS : Hid ((acc ++ us.take jj).map (Value.int .i64) = XS) := hXS
            clear hXS
            have hbi3 : Below W2.heap.size W2 W3 := hbi.trans (hb3.mono hbis)
            have hb3s := hb3.size
            clear hown hbi hb3
            have hw0 : ((wl : Int) == 0) = false := by simp; omega
            go_wp2_with (at_builtin; refine wpList_append_own _ rfl (.tmp 109) (.tmp 111) 34 rfl W2.heap.size 3 i0 (.int .i64 0) 1 8 Try.underlying34 hi hz0 hz1 hz2 rfl (by decide) _ _ _ rfl (hown3.alloc _) _ _ _ _ rfl (by rfl) (icells_one _ _) (ints_oneCell _ _) ?c3 ?c4 ?c5 ?_)
            case c3 => unfold maxLen; omega
            case c4 => omega
            case c5 => first | omega | (simp; omega)
            intro v' w4 hown4 hg4 _
            have hbi4 := below_app hbi3 (by omega) hown3 hg4
            have HO4 : Hid (w4.ownsRow W2.heap.size 3 1 v' (acc.length + jj + 1) (XS ++ ([x] : List Int).map (Value.int .i64))) := hown4
            clear hg4 hown3 hown4 hw0
            go_wp2_with fail
            go_roundw
            case rel =>
              refine ⟨jj + 1, Q + wl, by omega, by go_num, ?_, by go_num, ?_, hbi4⟩
              · rw [HT.out, List.length_append, HWL.out, HQ.out]; omega
              · rw [HTK.out, ← List.append_assoc, List.map_append, HXS.out, ← Nat.add_assoc]; exact HO4.out
            case measure => simp [intOf]; omega
          · have hjlt' : ¬ (jj : Int) < (U : Int) := by omega
            have hjU2 : jj = U := by omega
            have HTA : Hid (us.take jj = us) := List.take_of_length_le (by rw [HUS.out]; omega)
            have hownU : wr.ownsRow W2.heap.size 3 1 u5 (acc.length + U) ((acc ++ us).map (Value.int .i64)) := by
              rw [HTA.out, hjU2] at hown
              exact hown
            have hRel := HREL.out W2.heap.size W2 _ acc u5 wr HACC.out hownU hbi
            have hQe : p + 3 + (ubs us).length = Q := by rw [HQ.out, HTA.out]
            rw [hQe] at hRel
            obtain ⟨gu, capu, hv, _, _⟩ := hownU.form (by omega)
            obtain ⟨M, hM⟩ : ∃ M, acc.length + U = M + 1 := ⟨acc.length + U - 1, by omega⟩
            obtain ⟨a, X, hX⟩ : ∃ a X, us = a ++ [X] := ⟨us.dropLast, us.getLast (by intro e; have := HUS.out; rw [e] at this; simp at this; omega), (List.dropLast_concat_getLast _).symm⟩
            have hh := HNH.out a X hX
            have hcl : wr.cell? ⟨gu, M, none⟩ = some (.int .i64 X) := by
              have hM2 : M = (acc ++ a).length := by
                have h1 := HUS.out
                rw [hX, List.length_append, List.length_singleton] at h1
                rw [List.length_append]; omega
              rw [hv] at hownU
              rw [hownU.cellAt M (by omega), hX, ← List.append_assoc, List.getElem?_map, hM2]
              simp
            rw [hv, hM] at hRel
            have HRel : Hid (Rel W2.heap.size W2 bs (units s.data.toList) (.slice (some ⟨gu, 0, none⟩) (M + 1) capu) (.int .i64 (Q : Int)) (.bool true) wr) := hRel
            have HQp : Hid (p + 3 ≤ Q ∧ Q ≤ n) := by have := hQe; have := hend; constructor <;> omega
            have hMb : (M : Int) + 1 ≤ 100000000 := by omega
            have hval : u5 = .slice (some ⟨gu, 0, none⟩) (M + 1) capu := by rw [hv, hM]
            clear hRel hX hownU hown hM hQe hv
            rw [hval]
            clear hval
            have hUd : decide ((U : Int) < 32767) = false := decide_eq_false (by omega)
            have HJ : Hid (jj = U) := hjU2
            clear hjU2 hU1 hU2 hjU hch hpn hend hlen1 hlenN haccl hjlt
            go_wp2_with (go_at_call 13; refine (zzIsHigh_any X _).mono ?_; rintro e w' ⟨rfl, rfl⟩)
            go_roundw
            case rel => exact HRel.out
            case measure => have := HQp.out; simp [intOf]; omega
      · obtain ⟨N, us, husl, hus, hN1, hub, hB, hend⟩ := last_facts bs p f l HBS.out (by rw [HN.out]; exact hpn) hch
        rw [HN.out] at hend
        have HUS : Hid (us.length = N) := hus
        have HUSL : Hid (us = units l) := husl
        have HUB : Hid (∀ u ∈ us, 0 ≤ u ∧ u < 65536) := hub
        have HACC2 : Hid (acc ++ us = units s.data.toList) := by rw [husl]; exact HACC.out
        clear hus hub husl HBS hlf hch
        by_cases hN31 : N ≤ 31
        · have hh : head1 N = [(N : Int)] := by unfold head1; rw [if_pos hN31]
          rw [hh] at hB hend
          have HB : Hid (bs.drop p = [(N : Int)] ++ (ubs us ++ [])) := hB
          have HEND : Hid (p + [(N : Int)].length + (ubs us).length = n) := hend
          have hp1 : p + 1 ≤ n := by simp only [List.length_cons, List.length_nil] at hend; omega
          have x0 : wr.cell? ⟨g, p, none⟩ = some (.int .u8 (N : Int)) := by
            rw [hbr.cell (p := ⟨g, p, none⟩) hgs, HC.out p (by omega)]
            have := hd_at hB 0 (by simp)
            rw [Nat.add_zero] at this
            rw [this]; rfl
          have y0 : (p : Int) < (n : Int) := by omega
          have y3 : ¬ (n : Int) ≤ (p : Int) := by omega
          have z1 : ((N : Int) == 82) = false := by simp; omega
          have z2 : ((N : Int) == 83) = false := by simp; omega
          have z3 : (N : Int) < 32 := by omega
          have z4 : ¬ (32768 : Int) < (N : Int) := by omega
          clear hh hB hend
          go_wp2_with fail
          clear x0 y3 z1 z2 z3 z4
          go_loopw [5, 6, 11] (fun v ps j wi => ∃ (jj Q : Nat), jj ≤ N ∧ j = .int .i64 (jj : Int) ∧ Q = p + 1 + (ubs (us.take jj)).length ∧ ps = .int .i64 (Q : Int) ∧ wi.ownsRow W2.heap.size 3 1 v (acc.length + jj) ((acc ++ us.take jj).map (Value.int .i64)) ∧ Below W2.heap.size W2 wi) (fun _ _ j _ => N - (intOf j).toNat)
          case atStart => exact ⟨0, p + 1, Nat.zero_le _, rfl, by simp [ubs], by go_num, by first | simpa using HO.out | simpa using own_drewN HO.out, by first | exact hbr | exact below_drewN hbr _⟩
          case round =>
            clear HO hbr
            obtain ⟨jj, Q, hjU, rfl, hQ, rfl, hown, hbi⟩ := hrel
            have HQ : Hid (Q = p + 1 + (ubs (us.take jj)).length) := hQ
            clear hQ
            have hbis := hbi.size
            by_cases hjlt : jj < N
            · have hjlt' : (jj : Int) < (N : Int) := by omega
              have hjl : jj < us.length := by rw [HUS.out]; exact hjlt
              have hub := HUB.out (us.getD jj 0) (by rw [List.getD_eq_getElem?_getD, List.getElem?_eq_getElem hjl]; exact List.getElem_mem hjl)
              have hroom := unit_room bs [(N : Int)] ([] : List Int) us p jj (by rw [HN.out]; exact hpn) HB.out hjl
              have hat := unit_at bs [(N : Int)] ([] : List Int) us p jj HB.out hjl
              simp only [List.length_cons, List.length_nil, ← HQ.out, HN.out] at hroom hat
              have HT : Hid (ubs (us.take (jj + 1)) = ubs (us.take jj) ++ unitBytes (us.getD jj 0)) := ubs_take us jj hjl
              have HTK : Hid (us.take (jj + 1) = us.take jj ++ [us.getD jj 0]) := take_one us jj hjl
              have hwl := unitBytes_le (us.getD jj 0)
              have hwp := unitBytes_pos (us.getD jj 0)
              clear hjl
              generalize us.getD jj 0 = x at *
              have hrd := fun wx (hx : ∀ t, t < (unitBytes x).length → wx.cell? ⟨g, Q + t, none⟩ = some (.int .u8 ((unitBytes x).getD t 0))) => readUnit_any g n cap Q x wx hub.1 hub.2 hroom (by omega) hx
              have hcx : ∀ t, t < (unitBytes x).length → wr.cell? ⟨g, Q + t, none⟩ = some (.int .u8 ((unitBytes x).getD t 0)) := by
                intro t ht
                rw [hbi.cell (p := ⟨g, Q + t, none⟩) hgs, HC.out (Q + t) (by omega), hat t ht]
              have hR := hrd _ hcx
              have HRD : Hid (Calls Try.prog 12 #[.slice (some ⟨g, 0, none⟩) n cap, .int .i64 (Q : Int)] wr fun e w' => e = .returned (.tuple #[.int .i64 x, .int .i64 ((unitBytes x).length : Int)]) ∧ Below wr.heap.size wr w') := hR
              clear hat hrd hcx hR
              generalize hWL : (unitBytes x).length = wl at *
              have HWL : Hid ((unitBytes x).length = wl) := hWL
              clear hWL
              go_wp2_with fail
              refine HRD.out.mono ?_
              rintro e W3 ⟨rfl, hb3⟩
              clear HRD
              have hown3 := own_kept hown hb3
              obtain ⟨XS, hXS⟩ : ∃ XS, (acc ++ us.take jj).map (Value.int .i64) = XS := ⟨_, rfl⟩
              rw [hXS] at hown3
              have HXS : Hid ((acc ++ us.take jj).map (Value.int .i64) = XS) := hXS
              clear hXS
              have hbi3 : Below W2.heap.size W2 W3 := hbi.trans (hb3.mono hbis)
              have hb3s := hb3.size
              clear hown hbi hb3
              have hw0 : ((wl : Int) == 0) = false := by simp; omega
              go_wp2_with (at_builtin; refine wpList_append_own _ rfl (.tmp 109) (.tmp 111) 34 rfl W2.heap.size 3 i0 (.int .i64 0) 1 8 Try.underlying34 hi hz0 hz1 hz2 rfl (by decide) _ _ _ rfl (hown3.alloc _) _ _ _ _ rfl (by rfl) (icells_one _ _) (ints_oneCell _ _) ?c3 ?c4 ?c5 ?_)
              case c3 => unfold maxLen; omega
              case c4 => omega
              case c5 => first | omega | (simp; omega)
              intro v' w4 hown4 hg4 _
              have hbi4 := below_app hbi3 (by omega) hown3 hg4
              have HO4 : Hid (w4.ownsRow W2.heap.size 3 1 v' (acc.length + jj + 1) (XS ++ ([x] : List Int).map (Value.int .i64))) := hown4
              clear hg4 hown3 hown4 hw0
              go_wp2_with fail
              go_roundw
              case rel =>
                refine ⟨jj + 1, Q + wl, by omega, by go_num, ?_, by go_num, ?_, hbi4⟩
                · rw [HT.out, List.length_append, HWL.out, HQ.out]; omega
                · rw [HTK.out, ← List.append_assoc, List.map_append, HXS.out, ← Nat.add_assoc]; exact HO4.out
              case measure => simp [intOf]; omega
            · have hjlt' : ¬ (jj : Int) < (N : Int) := by omega
              have hjU2 : jj = N := by omega
              have HTA : Hid (us.take jj = us) := List.take_of_length_le (by rw [HUS.out]; omega)
              have hownF : wr.ownsRow W2.heap.size 3 1 u5 (units s.data.toList).length ((units s.data.toList).map (Value.int .i64)) := by
                have e : acc.length + jj = (units s.data.toList).length := by rw [← HACC2.out, List.length_append, HUS.out]; omega
                rw [HTA.out, HACC2.out, e] at hown
                exact hown
              have hqb : ((Q : Int) == (n : Int)) = true := by
                have h1 := HQ.out
                rw [HTA.out] at h1
                have h2 := HEND.out
                simp only [List.length_cons, List.length_nil] at h2
                simp
                omega
              have hbf : Below w'.heap.size w' wr := hbw.trans (hbi.mono hbw.size)
              have hbfs := hbf.size
              have HL5 : Hid ((units s.data.toList).length ≤ 1000000000000) := by
                have h2 := units_le _ s.data.toList (Nat.le_refl _)
                have e1 : s.data.toList.length = s.size := rfl
                unfold Hid
                omega
              have HJ : Hid (jj = N) := hjU2
              have hb0 : b = true → ((N : Int) == 0) = false := by
                intro hb
                have h1 := HSAW.out hb
                have h2 := HUSL.out
                have h3 := HUS.out
                rw [h2] at h3
                simp
                omega
              clear hjU2 hjU hpn hlen1 hlenN haccl hjlt hown hN1 hN31
              cases b
              · clear hb0
                go_wp2_with fail
                refine (zzUnits_any s _ h0).mono ?_
                rintro e W5 ⟨v5, rfl, hown5, hb5⟩
                go_wp2_with fail
                refine (intsEqual_own _ _ _ _ (units s.data.toList) _ HL5.out (own_kept hownF hb5) hown5).mono ?_
                rintro e W6 ⟨rfl, hb6⟩
                go_wp2_with fail
                go_ret
                exact ⟨rfl, (hbf.trans (hb5.mono hbfs)).trans (hb6.mono (Nat.le_trans hbfs hb5.size))⟩
              · have hb1 := hb0 rfl
                clear hb0
                go_wp2_with fail
                refine (zzUnits_any s _ h0).mono ?_
                rintro e W5 ⟨v5, rfl, hown5, hb5⟩
                go_wp2_with fail
                refine (intsEqual_own _ _ _ _ (units s.data.toList) _ HL5.out (own_kept hownF hb5) hown5).mono ?_
                rintro e W6 ⟨rfl, hb6⟩
                go_wp2_with fail
                go_ret
                exact ⟨rfl, (hbf.trans (hb5.mono hbfs)).trans (hb6.mono (Nat.le_trans hbfs hb5.size))⟩
        · by_cases hN1023 : N ≤ 1023
          · have hh : head1 N = [48 + (N : Int) / 256, (N : Int) % 256] := by unfold head1; rw [if_neg hN31, if_pos hN1023]
            rw [hh] at hB hend
            have HB : Hid (bs.drop p = [48 + (N : Int) / 256, (N : Int) % 256] ++ (ubs us ++ [])) := hB
            have HEND : Hid (p + [48 + (N : Int) / 256, (N : Int) % 256].length + (ubs us).length = n) := hend
            have hp1 : p + 2 ≤ n := by simp only [List.length_cons, List.length_nil] at hend; omega
            have x0 : wr.cell? ⟨g, p, none⟩ = some (.int .u8 (48 + (N : Int) / 256)) := by
              rw [hbr.cell (p := ⟨g, p, none⟩) hgs, HC.out p (by omega)]
              have := hd_at hB 0 (by simp)
              rw [Nat.add_zero] at this
              rw [this]; rfl
            have x1 : wr.cell? ⟨g, p + 1, none⟩ = some (.int .u8 ((N : Int) % 256)) := by
              rw [hbr.cell (p := ⟨g, p + 1, none⟩) hgs, HC.out (p + 1) (by omega), hd_at hB 1 (by simp)]; rfl
            have y0 : (p : Int) < (n : Int) := by omega
            have y1 : (p : Int) + 1 < (n : Int) := by omega
            have y3 : ¬ (n : Int) ≤ (p : Int) := by omega
            have y4 : ¬ (n : Int) - (p : Int) < 2 := by omega
            have z1 : (48 + (N : Int) / 256 == 82) = false := by simp; omega
            have z2 : (48 + (N : Int) / 256 == 83) = false := by simp; omega
            have z3 : ¬ 48 + (N : Int) / 256 < 32 := by omega
            have z4 : ¬ (32768 : Int) < (N : Int) := by omega
            have z5 : ¬ (N : Int) < 32 := by omega
            have z6 : 48 + (N : Int) / 256 ≤ 51 := by omega
            have z7 : 48 ≤ 48 + (N : Int) / 256 := by omega
            have hk : (48 + (N : Int) / 256 - 48) * 256 + (N : Int) % 256 = (N : Int) := by omega
            have hk2 : (N : Int) / 256 * 256 + (N : Int) % 256 = (N : Int) := by omega
            clear hh hB hend
            go_wp2_with fail
            clear x0 x1 y1 y3 y4 z1 z2 z3 z4 z5 z6 z7 hk hk2
            go_loopw [5, 6, 11] (fun v ps j wi => ∃ (jj Q : Nat), jj ≤ N ∧ j = .int .i64 (jj : Int) ∧ Q = p + 2 + (ubs (us.take jj)).length ∧ ps = .int .i64 (Q : Int) ∧ wi.ownsRow W2.heap.size 3 1 v (acc.length + jj) ((acc ++ us.take jj).map (Value.int .i64)) ∧ Below W2.heap.size W2 wi) (fun _ _ j _ => N - (intOf j).toNat)
            case atStart => exact ⟨0, p + 2, Nat.zero_le _, rfl, by simp [ubs], by go_num, by first | simpa using HO.out | simpa using own_drewN HO.out, by first | exact hbr | exact below_drewN hbr _⟩
            case round =>
              clear HO hbr
              obtain ⟨jj, Q, hjU, rfl, hQ, rfl, hown, hbi⟩ := hrel
              have HQ : Hid (Q = p + 2 + (ubs (us.take jj)).length) := hQ
              clear hQ
              have hbis := hbi.size
              by_cases hjlt : jj < N
              · have hjlt' : (jj : Int) < (N : Int) := by omega
                have hjl : jj < us.length := by rw [HUS.out]; exact hjlt
                have hub := HUB.out (us.getD jj 0) (by rw [List.getD_eq_getElem?_getD, List.getElem?_eq_getElem hjl]; exact List.getElem_mem hjl)
                have hroom := unit_room bs [48 + (N : Int) / 256, (N : Int) % 256] ([] : List Int) us p jj (by rw [HN.out]; exact hpn) HB.out hjl
                have hat := unit_at bs [48 + (N : Int) / 256, (N : Int) % 256] ([] : List Int) us p jj HB.out hjl
                simp only [List.length_cons, List.length_nil, ← HQ.out, HN.out] at hroom hat
                have HT : Hid (ubs (us.take (jj + 1)) = ubs (us.take jj) ++ unitBytes (us.getD jj 0)) := ubs_take us jj hjl
                have HTK : Hid (us.take (jj + 1) = us.take jj ++ [us.getD jj 0]) := take_one us jj hjl
                have hwl := unitBytes_le (us.getD jj 0)
                have hwp := unitBytes_pos (us.getD jj 0)
                clear hjl
                generalize us.getD jj 0 = x at *
                have hrd := fun wx (hx : ∀ t, t < (unitBytes x).length → wx.cell? ⟨g, Q + t, none⟩ = some (.int .u8 ((unitBytes x).getD t 0))) => readUnit_any g n cap Q x wx hub.1 hub.2 hroom (by omega) hx
                have hcx : ∀ t, t < (unitBytes x).length → wr.cell? ⟨g, Q + t, none⟩ = some (.int .u8 ((unitBytes x).getD t 0)) := by
                  intro t ht
                  rw [hbi.cell (p := ⟨g, Q + t, none⟩) hgs, HC.out (Q + t) (by omega), hat t ht]
                have hR := hrd _ hcx
                have HRD : Hid (Calls Try.prog 12 #[.slice (some ⟨g, 0, none⟩) n cap, .int .i64 (Q : Int)] wr fun e w' => e = .returned (.tuple #[.int .i64 x, .int .i64 ((unitBytes x).length : Int)]) ∧ Below wr.heap.size wr w') := hR
                clear hat hrd hcx hR
                generalize hWL : (unitBytes x).length = wl at *
                have HWL : Hid ((unitBytes x).length = wl) := hWL
                clear hWL
                go_wp2_with fail
                refine HRD.out.mono ?_
                rintro e W3 ⟨rfl, hb3⟩
                clear HRD
                have hown3 := own_kept hown hb3
                obtain ⟨XS, hXS⟩ : ∃ XS, (acc ++ us.take jj).map (Value.int .i64) = XS := ⟨_, rfl⟩
                rw [hXS] at hown3
                have HXS : Hid ((acc ++ us.take jj).map (Value.int .i64) = XS) := hXS
                clear hXS
                have hbi3 : Below W2.heap.size W2 W3 := hbi.trans (hb3.mono hbis)
                have hb3s := hb3.size
                clear hown hbi hb3
                have hw0 : ((wl : Int) == 0) = false := by simp; omega
                go_wp2_with (at_builtin; refine wpList_append_own _ rfl (.tmp 109) (.tmp 111) 34 rfl W2.heap.size 3 i0 (.int .i64 0) 1 8 Try.underlying34 hi hz0 hz1 hz2 rfl (by decide) _ _ _ rfl (hown3.alloc _) _ _ _ _ rfl (by rfl) (icells_one _ _) (ints_oneCell _ _) ?c3 ?c4 ?c5 ?_)
                case c3 => unfold maxLen; omega
                case c4 => omega
                case c5 => first | omega | (simp; omega)
                intro v' w4 hown4 hg4 _
                have hbi4 := below_app hbi3 (by omega) hown3 hg4
                have HO4 : Hid (w4.ownsRow W2.heap.size 3 1 v' (acc.length + jj + 1) (XS ++ ([x] : List Int).map (Value.int .i64))) := hown4
                clear hg4 hown3 hown4 hw0
                go_wp2_with fail
                go_roundw
                case rel =>
                  refine ⟨jj + 1, Q + wl, by omega, by go_num, ?_, by go_num, ?_, hbi4⟩
                  · rw [HT.out, List.length_append, HWL.out, HQ.out]; omega
                  · rw [HTK.out, ← List.append_assoc, List.map_append, HXS.out, ← Nat.add_assoc]; exact HO4.out
                case measure => simp [intOf]; omega
              · have hjlt' : ¬ (jj : Int) < (N : Int) := by omega
                have hjU2 : jj = N := by omega
                have HTA : Hid (us.take jj = us) := List.take_of_length_le (by rw [HUS.out]; omega)
                have hownF : wr.ownsRow W2.heap.size 3 1 u5 (units s.data.toList).length ((units s.data.toList).map (Value.int .i64)) := by
                  have e : acc.length + jj = (units s.data.toList).length := by rw [← HACC2.out, List.length_append, HUS.out]; omega
                  rw [HTA.out, HACC2.out, e] at hown
                  exact hown
                have hqb : ((Q : Int) == (n : Int)) = true := by
                  have h1 := HQ.out
                  rw [HTA.out] at h1
                  have h2 := HEND.out
                  simp only [List.length_cons, List.length_nil] at h2
                  simp
                  omega
                have hbf : Below w'.heap.size w' wr := hbw.trans (hbi.mono hbw.size)
                have hbfs := hbf.size
                have HL5 : Hid ((units s.data.toList).length ≤ 1000000000000) := by
                  have h2 := units_le _ s.data.toList (Nat.le_refl _)
                  have e1 : s.data.toList.length = s.size := rfl
                  unfold Hid
                  omega
                have HJ : Hid (jj = N) := hjU2
                have hb0 : b = true → ((N : Int) == 0) = false := by
                  intro hb
                  have h1 := HSAW.out hb
                  have h2 := HUSL.out
                  have h3 := HUS.out
                  rw [h2] at h3
                  simp
                  omega
                clear hjU2 hjU hpn hlen1 hlenN haccl hjlt hown hN1 hN31 hN1023
                cases b
                · clear hb0
                  go_wp2_with fail
                  refine (zzUnits_any s _ h0).mono ?_
                  rintro e W5 ⟨v5, rfl, hown5, hb5⟩
                  go_wp2_with fail
                  refine (intsEqual_own _ _ _ _ (units s.data.toList) _ HL5.out (own_kept hownF hb5) hown5).mono ?_
                  rintro e W6 ⟨rfl, hb6⟩
                  go_wp2_with fail
                  go_ret
                  exact ⟨rfl, (hbf.trans (hb5.mono hbfs)).trans (hb6.mono (Nat.le_trans hbfs hb5.size))⟩
                · have hb1 := hb0 rfl
                  clear hb0
                  go_wp2_with fail
                  refine (zzUnits_any s _ h0).mono ?_
                  rintro e W5 ⟨v5, rfl, hown5, hb5⟩
                  go_wp2_with fail
                  refine (intsEqual_own _ _ _ _ (units s.data.toList) _ HL5.out (own_kept hownF hb5) hown5).mono ?_
                  rintro e W6 ⟨rfl, hb6⟩
                  go_wp2_with fail
                  go_ret
                  exact ⟨rfl, (hbf.trans (hb5.mono hbfs)).trans (hb6.mono (Nat.le_trans hbfs hb5.size))⟩
          · have hh : head1 N = [83, (N : Int) / 256, (N : Int) % 256] := by unfold head1; rw [if_neg hN31, if_neg hN1023]
            rw [hh] at hB hend
            have HB : Hid (bs.drop p = [83, (N : Int) / 256, (N : Int) % 256] ++ (ubs us ++ [])) := hB
            have HEND : Hid (p + [83, (N : Int) / 256, (N : Int) % 256].length + (ubs us).length = n) := hend
            have hp1 : p + 3 ≤ n := by simp only [List.length_cons, List.length_nil] at hend; omega
            have x0 : wr.cell? ⟨g, p, none⟩ = some (.int .u8 83) := by
              rw [hbr.cell (p := ⟨g, p, none⟩) hgs, HC.out p (by omega)]
              have := hd_at hB 0 (by simp)
              rw [Nat.add_zero] at this
              rw [this]; rfl
            have x1 : wr.cell? ⟨g, p + 1, none⟩ = some (.int .u8 ((N : Int) / 256)) := by
              rw [hbr.cell (p := ⟨g, p + 1, none⟩) hgs, HC.out (p + 1) (by omega), hd_at hB 1 (by simp)]; rfl
            have x2 : wr.cell? ⟨g, p + 2, none⟩ = some (.int .u8 ((N : Int) % 256)) := by
              rw [hbr.cell (p := ⟨g, p + 2, none⟩) hgs, HC.out (p + 2) (by omega), hd_at hB 2 (by simp)]; rfl
            have y0 : (p : Int) < (n : Int) := by omega
            have y1 : (p : Int) + 1 < (n : Int) := by omega
            have y2 : (p : Int) + 2 < (n : Int) := by omega
            have y3 : ¬ (n : Int) ≤ (p : Int) := by omega
            have y4 : ¬ (n : Int) - (p : Int) < 3 := by omega
            have z4 : ¬ (32768 : Int) < (N : Int) := by omega
            have z5 : ¬ (N : Int) < 1024 := by omega
            have hk : (N : Int) / 256 * 256 + (N : Int) % 256 = (N : Int) := by omega
            clear hh hB hend
            go_wp2_with fail
            go_quiet (fail)
            go_wp2_with fail
            clear x0 x1 x2 y1 y2 y3 y4 z4 z5 hk
            go_loopw [5, 6, 11] (fun v ps j wi => ∃ (jj Q : Nat), jj ≤ N ∧ j = .int .i64 (jj : Int) ∧ Q = p + 3 + (ubs (us.take jj)).length ∧ ps = .int .i64 (Q : Int) ∧ wi.ownsRow W2.heap.size 3 1 v (acc.length + jj) ((acc ++ us.take jj).map (Value.int .i64)) ∧ Below W2.heap.size W2 wi) (fun _ _ j _ => N - (intOf j).toNat)
            case atStart => exact ⟨0, p + 3, Nat.zero_le _, rfl, by simp [ubs], by go_num, by first | simpa using HO.out | simpa using own_drewN HO.out, by first | exact hbr | exact below_drewN hbr _⟩
            case round =>
              clear HO hbr
              obtain ⟨jj, Q, hjU, rfl, hQ, rfl, hown, hbi⟩ := hrel
              have HQ : Hid (Q = p + 3 + (ubs (us.take jj)).length) := hQ
              clear hQ
              have hbis := hbi.size
              by_cases hjlt : jj < N
              · have hjlt' : (jj : Int) < (N : Int) := by omega
                have hjl : jj < us.length := by rw [HUS.out]; exact hjlt
                have hub := HUB.out (us.getD jj 0) (by rw [List.getD_eq_getElem?_getD, List.getElem?_eq_getElem hjl]; exact List.getElem_mem hjl)
                have hroom := unit_room bs [83, (N : Int) / 256, (N : Int) % 256] ([] : List Int) us p jj (by rw [HN.out]; exact hpn) HB.out hjl
                have hat := unit_at bs [83, (N : Int) / 256, (N : Int) % 256] ([] : List Int) us p jj HB.out hjl
                simp only [List.length_cons, List.length_nil, ← HQ.out, HN.out] at hroom hat
                have HT : Hid (ubs (us.take (jj + 1)) = ubs (us.take jj) ++ unitBytes (us.getD jj 0)) := ubs_take us jj hjl
                have HTK : Hid (us.take (jj + 1) = us.take jj ++ [us.getD jj 0]) := take_one us jj hjl
                have hwl := unitBytes_le (us.getD jj 0)
                have hwp := unitBytes_pos (us.getD jj 0)
                clear hjl
                generalize us.getD jj 0 = x at *
                have hrd := fun wx (hx : ∀ t, t < (unitBytes x).length → wx.cell? ⟨g, Q + t, none⟩ = some (.int .u8 ((unitBytes x).getD t 0))) => readUnit_any g n cap Q x wx hub.1 hub.2 hroom (by omega) hx
                have hcx : ∀ t, t < (unitBytes x).length → wr.cell? ⟨g, Q + t, none⟩ = some (.int .u8 ((unitBytes x).getD t 0)) := by
                  intro t ht
                  rw [hbi.cell (p := ⟨g, Q + t, none⟩) hgs, HC.out (Q + t) (by omega), hat t ht]
                have hR := hrd _ hcx
                have HRD : Hid (Calls Try.prog 12 #[.slice (some ⟨g, 0, none⟩) n cap, .int .i64 (Q : Int)] wr fun e w' => e = .returned (.tuple #[.int .i64 x, .int .i64 ((unitBytes x).length : Int)]) ∧ Below wr.heap.size wr w') := hR
                clear hat hrd hcx hR
                generalize hWL : (unitBytes x).length = wl at *
                have HWL : Hid ((unitBytes x).length = wl) := hWL
                clear hWL
                go_wp2_with fail
                refine HRD.out.mono ?_
                rintro e W3 ⟨rfl, hb3⟩
                clear HRD
                have hown3 := own_kept hown hb3
                obtain ⟨XS, hXS⟩ : ∃ XS, (acc ++ us.take jj).map (Value.int .i64) = XS := ⟨_, rfl⟩
                rw [hXS] at hown3
                have HXS : Hid ((acc ++ us.take jj).map (Value.int .i64) = XS) := hXS
                clear hXS
                have hbi3 : Below W2.heap.size W2 W3 := hbi.trans (hb3.mono hbis)
                have hb3s := hb3.size
                clear hown hbi hb3
                have hw0 : ((wl : Int) == 0) = false := by simp; omega
                go_wp2_with (at_builtin; refine wpList_append_own _ rfl (.tmp 109) (.tmp 111) 34 rfl W2.heap.size 3 i0 (.int .i64 0) 1 8 Try.underlying34 hi hz0 hz1 hz2 rfl (by decide) _ _ _ rfl (hown3.alloc _) _ _ _ _ rfl (by rfl) (icells_one _ _) (ints_oneCell _ _) ?c3 ?c4 ?c5 ?_)
                case c3 => unfold maxLen; omega
                case c4 => omega
                case c5 => first | omega | (simp; omega)
                intro v' w4 hown4 hg4 _
                have hbi4 := below_app hbi3 (by omega) hown3 hg4
                have HO4 : Hid (w4.ownsRow W2.heap.size 3 1 v' (acc.length + jj + 1) (XS ++ ([x] : List Int).map (Value.int .i64))) := hown4
                clear hg4 hown3 hown4 hw0
                go_wp2_with fail
                go_roundw
                case rel =>
                  refine ⟨jj + 1, Q + wl, by omega, by go_num, ?_, by go_num, ?_, hbi4⟩
                  · rw [HT.out, List.length_append, HWL.out, HQ.out]; omega
                  · rw [HTK.out, ← List.append_assoc, List.map_append, HXS.out, ← Nat.add_assoc]; exact HO4.out
                case measure => simp [intOf]; omega
              · have hjlt' : ¬ (jj : Int) < (N : Int) := by omega
                have hjU2 : jj = N := by omega
                have HTA : Hid (us.take jj = us) := List.take_of_length_le (by rw [HUS.out]; omega)
                have hownF : wr.ownsRow W2.heap.size 3 1 u5 (units s.data.toList).length ((units s.data.toList).map (Value.int .i64)) := by
                  have e : acc.length + jj = (units s.data.toList).length := by rw [← HACC2.out, List.length_append, HUS.out]; omega
                  rw [HTA.out, HACC2.out, e] at hown
                  exact hown
                have hqb : ((Q : Int) == (n : Int)) = true := by
                  have h1 := HQ.out
                  rw [HTA.out] at h1
                  have h2 := HEND.out
                  simp only [List.length_cons, List.length_nil] at h2
                  simp
                  omega
                have hbf : Below w'.heap.size w' wr := hbw.trans (hbi.mono hbw.size)
                have hbfs := hbf.size
                have HL5 : Hid ((units s.data.toList).length ≤ 1000000000000) := by
                  have h2 := units_le _ s.data.toList (Nat.le_refl _)
                  have e1 : s.data.toList.length = s.size := rfl
                  unfold Hid
                  omega
                have HJ : Hid (jj = N) := hjU2
                have hb0 : b = true → ((N : Int) == 0) = false := by
                  intro hb
                  have h1 := HSAW.out hb
                  have h2 := HUSL.out
                  have h3 := HUS.out
                  rw [h2] at h3
                  simp
                  omega
                clear hjU2 hjU hpn hlen1 hlenN haccl hjlt hown hN1 hN31 hN1023
                cases b
                · clear hb0
                  go_wp2_with fail
                  refine (zzUnits_any s _ h0).mono ?_
                  rintro e W5 ⟨v5, rfl, hown5, hb5⟩
                  go_wp2_with fail
                  refine (intsEqual_own _ _ _ _ (units s.data.toList) _ HL5.out (own_kept hownF hb5) hown5).mono ?_
                  rintro e W6 ⟨rfl, hb6⟩
                  go_wp2_with fail
                  go_ret
                  exact ⟨rfl, (hbf.trans (hb5.mono hbfs)).trans (hb6.mono (Nat.le_trans hbfs hb5.size))⟩
                · have hb1 := hb0 rfl
                  clear hb0
                  go_wp2_with fail
                  refine (zzUnits_any s _ h0).mono ?_
                  rintro e W5 ⟨v5, rfl, hown5, hb5⟩
                  go_wp2_with fail
                  refine (intsEqual_own _ _ _ _ (units s.data.toList) _ HL5.out (own_kept hownF hb5) hown5).mono ?_
                  rintro e W6 ⟨rfl, hb6⟩
                  go_wp2_with fail
                  go_ret
                  exact ⟨rfl, (hbf.trans (hb5.mono hbfs)).trans (hb6.mono (Nat.le_trans hbfs hb5.size))⟩
  · go_enter Try.func4, Try.ntmps4
    go_wp2_with (go_at_call 11; refine (zzBytes11_any s _ hs).mono ?_; rintro e w' ⟨rfl, rfl⟩)
    go_ret
    exact ⟨rfl, Below.refl _ _⟩

end Go.Proofs.Qxb6613196a
