import Derived.Test.Qxb6613196aB1
namespace Go.Proofs.Qxb6613196a
open Go.RowKit

def aStr (m : Nat) : ByteArray := ⟨(List.replicate m (97 : UInt8)).toArray⟩
theorem aStr_list (m : Nat) : (aStr m).data.toList = List.replicate m 97 := by simp [aStr]
theorem aStr_size (m : Nat) : (aStr m).size = m := by
  show (List.replicate m (97 : UInt8)).toArray.size = m
  simp

/-- 'string(letters[:m])'. -/
theorem conv_a (W : World) (g m cap N : Nat) (xs : List Value) (hm : m ≤ N) (hown : ∀ j, j < N → W.cell? ⟨g, j, none⟩ = xs[j]?) (hx : ∀ j, j < N → xs[j]? = some (.int .u8 97)) :
    (convert 22 9 (.slice (some ⟨g, 0, none⟩) m cap)).run Try.prog W = .ok (.string (aStr m)) W := by
  have h := run_convert_bytes_back (P := Try.prog) W 22 9 5 ⟨g, 0, none⟩ cap (List.replicate m (97 : UInt8)) Try.underlying22 Try.underlying5 Try.underlying9 (fun j hj => by
    simp only [List.length_replicate] at hj
    have e : (⟨g, 0, none⟩ : Addr).add j = ⟨g, j, none⟩ := by unfold Addr.add; split <;> simp_all
    rw [e, hown j (by omega), hx j (by omega)]
    simp)
  rw [List.length_replicate] at h
  exact h

theorem enc_new (w : World) : Enc w.heap.size [] (w.alloc (.cells #[.slice none 0 0, .slice none 0 0, .map none, .map none, .map none, .int .i64 0] 28)) :=
  ⟨.slice none 0 0, heap_alloc_new w _, World.ownsRow_nil _ _ _ _⟩

/-- A row that lies below B stays owned while only blocks from B on are written. -/
theorem own_below {w w' : World} {base B : Nat} {e : TypeId} {size g n cap : Nat} {xs : List Value} (h : w.ownsRow base e size (.slice (some ⟨g, 0, none⟩) n cap) n xs) (hb : Below B w w') (hg : g < B) : w'.ownsRow base e size (.slice (some ⟨g, 0, none⟩) n cap) n xs := by
  obtain ⟨h1, h2⟩ := h
  refine ⟨h1, ?_⟩
  rcases h2 with h2 | ⟨g', cap', cur, hv, hg', hh, r⟩
  · exact .inl h2
  · refine .inr ⟨g', cap', cur, hv, hg', ?_, r⟩
    have : g = g' := by cases hv; rfl
    subst this
    rw [hb.block g hg]
    exact hh

set_option maxHeartbeats 2000000 in
theorem walk3 (t : Int) (w : World) (h0 : 0 ≤ t) (h1 : t ≤ 255) :
    Calls Try.prog 3 #[.int .u8 t] w fun e w' => e = .returned (.bool true) ∧ Below w.heap.size w w' := by
  obtain ⟨i0, hi, hz0, hz1, hz2⟩ := info_parts Try.info5
  go_enter Try.func3, Try.ntmps3
  go_wp2_with (at_make; refine wpList_make_full _ rfl _ _ 22 rfl w.heap.size 5 i0 (.int .u8 0) 1 Try.underlying22 hi hz0 hz1 .i64 .i64 32769 32769 32769 rfl rfl rfl rfl (by rw [hz2]; omega) (by unfold maxLen; omega) (Nat.le_refl _) ?_)
  intro w1 hown0 hg0
  have hb0 : Below w.heap.size w w1 := (Below.refl _ _).grown hg0 (Nat.le_refl _) (by intro k hk; cases hk)
  generalize (madeCells #[Value.int IntKind.u8 0] 32769).toList = xs0 at hown0
  have HO : Hid (w1.ownsRow w.heap.size 5 1 (Value.slice (some ⟨w.heap.size, 0, none⟩) 32769 32769) 32769 xs0) := hown0
  clear hown0 hg0
  go_wp2_with fail
  go_loopw [4] (fun i wr => ∃ (k : Nat) (xs : List Value), k ≤ 32769 ∧ i = .int .i64 k ∧ wr.ownsRow w.heap.size 5 1 (Value.slice (some ⟨w.heap.size, 0, none⟩) 32769 32769) 32769 xs ∧ (∀ j, j < k → xs[j]? = some (.int .u8 97)) ∧ Below w.heap.size w wr) (fun i _ => 32769 - (intOf i).toNat)
  case atStart => exact ⟨0, xs0, Nat.zero_le _, rfl, HO.out, by intro j hj; omega, hb0⟩
  case round =>
    obtain ⟨k, xs, hk, rfl, hown, hxs, hbw⟩ := hrel
    by_cases hlt : k < 32769
    · have hlt' : (k : Int) < 32769 := by omega
      have hlen : xs.length = 32769 := by simpa using hown.1
      obtain ⟨old, hold⟩ : ∃ old, wr.cell? ⟨w.heap.size, k, none⟩ = some old := by
        rw [hown.cellAt k (by omega), List.getElem?_eq_getElem (by omega)]; exact ⟨_, rfl⟩
      have hfz := hown.frozenAt k
      have hst := hown.stored k (.int .u8 97)
      have HX : Hid (∀ j, j < k → xs[j]? = some (.int .u8 97)) := hxs
      have HST : Hid ((wr.setCell ⟨w.heap.size, k, none⟩ (.int .u8 97)).ownsRow w.heap.size 5 1 (Value.slice (some ⟨w.heap.size, 0, none⟩) 32769 32769) 32769 (xs.set k (.int .u8 97))) := hst.1
      have HL : Hid (xs.length = 32769) := hlen
      clear hst hxs hlen hown
      go_wp2
      go_roundw
      case rel =>
        refine ⟨k + 1, xs.set k (.int .u8 97), by omega, by go_num, HST.out, ?_, hbw.setCell (p := ⟨w.heap.size, k, none⟩) (Nat.le_refl _) _⟩
        intro j hj
        have hl := HL.out
        rw [List.getElem?_set]
        by_cases e : k = j
        · subst e; rw [if_pos rfl, if_pos (by omega)]
        · rw [if_neg e]; exact HX.out j (by omega)
      case measure =>
        simp [intOf]
        omega
    · have hlt' : ¬ (k : Int) < 32769 := by omega
      have HO1 : Hid (wr.ownsRow w.heap.size 5 1 (Value.slice (some ⟨w.heap.size, 0, none⟩) 32769 32769) 32769 xs) := hown
      have HX : Hid (∀ j, j < 32769 → xs[j]? = some (.int .u8 97)) := fun j hj => hxs j (by omega)
      clear hown hxs hlt HO hb0
      go_wp2_with fail
      go_loopw [5, 6] (fun op n wq => ∃ (k : Nat) (ys : List Value), k ≤ 1026 ∧ n = .int .i64 k ∧ op = .bool (openB t k) ∧ wq.ownsRow w.heap.size 5 1 (Value.slice (some ⟨w.heap.size, 0, none⟩) 32769 32769) 32769 ys ∧ (∀ j, j < 32769 → ys[j]? = some (.int .u8 97)) ∧ Below w.heap.size w wq) (fun _ n _ => 1026 - (intOf n).toNat)
      case atStart => exact ⟨0, xs, Nat.zero_le _, rfl, rfl, HO1.out, HX.out, hbw⟩
      case round =>
        clear HO1 HX hbw
        obtain ⟨k, ys, hk, rfl, rfl, hown, hxs, hbw⟩ := hrel
        have hltb : w.heap.size < wr.heap.size := (hown.lt w.heap.size rfl).2
        have HO1 : Hid (wr.ownsRow w.heap.size 5 1 (Value.slice (some ⟨w.heap.size, 0, none⟩) 32769 32769) 32769 ys) := hown
        have HX : Hid (∀ j, j < 32769 → ys[j]? = some (.int .u8 97)) := hxs
        clear hown hxs
        by_cases hle : k ≤ 1025
        · have hE0 : Enc wr.heap.size [] (wr.alloc (.cells #[.slice none 0 0, .slice none 0 0, .map none, .map none, .map none, .int .i64 0] 28)) := enc_new wr
          have hcv : ∀ (m cap : Nat) (o : Obj), m ≤ 32769 → (convert 22 9 (.slice (some ⟨w.heap.size, 0, none⟩) m cap)).run Try.prog (wr.alloc o) = .ok (.string (aStr m)) (wr.alloc o) := fun m cap o hm =>
            conv_a (wr.alloc o) w.heap.size m cap 32769 ys hm (fun j hj => (HO1.out.alloc o).cellAt j (by omega)) HX.out
          have hle' : (k : Int) ≤ 1025 := by omega
          by_cases he : k = 1025
          · have heb : ((k : Int) == 1025) = true := by simp; omega
            have HMO : Hid (mOf k = 32769) := by unfold mOf; rw [if_pos he]; rfl
            have hcv := fun o => hcv 32769 32769 o (by omega)
            clear he
            go_wp2_with fail
            refine (writeString_any wr.heap.size [] (aStr 32769) _ (by rw [aStr_size]; omega) hE0 (by simp)).mono ?_
            rintro e W1 ⟨rfl, hE1, hb1⟩
            rw [List.nil_append] at hE1
            obtain ⟨rest, hhead⟩ := wstr_head (aStr 32769).data.toList
            rw [aStr_list, units_a] at hhead
            rw [aStr_list, hhead] at hE1
            obtain ⟨g, cap, hbg, hcap, hcell, hgs, hcells⟩ := enc_buf hE1 (by simp)
            have hc0 : W1.cell? ⟨g, 0, none⟩ = some (.int .u8 (tagOf 32769)) := hcells 0 (by simp)
            rw [List.length_cons] at hcell
            have hbw1 : Below w.heap.size w W1 := hbw.trans (((Below.refl _ _).alloc (by omega) _).trans (hb1.mono (by omega)))
            have hown1 : Hid (W1.ownsRow w.heap.size 5 1 (Value.slice (some ⟨w.heap.size, 0, none⟩) 32769 32769) 32769 ys) := own_below HO1.out (((Below.refl _ _).alloc (Nat.le_refl _) _).trans hb1) hltb
            clear hE1 hhead hcells hb1 hE0 hcv
            have hnz : ((rest.length : Int) + 1 == 0) = false := by simp; omega
            have hpos : (0 : Int) < (rest.length : Int) + 1 := by omega
            go_wp2_with fail
            refine (encoderBuf_any wr.heap.size _ _ _ _ hcell).mono ?_
            rintro e W2 ⟨rfl, rfl⟩
            by_cases htt : tagOf 32769 = t
            · have htb : (tagOf 32769 == t) = true := by simp [htt]
              have HT : Hid (tagOf 32769 = t) := htt
              clear htt
              go_wp2_with fail
              go_roundw
              case rel =>
                refine ⟨k + 1, ys, by omega, by go_num, ?_, hown1.out, HX.out, hbw1⟩
                have : openB t (k + 1) = true := by simp only [openB, Bool.or_eq_true, beq_iff_eq]; right; exact (by rw [HMO.out]; exact HT.out)
                rw [this]
              case measure =>
                simp [intOf]
                try omega
            · have htb : (tagOf 32769 == t) = false := by simp [htt]
              have HT : Hid (¬ tagOf 32769 = t) := htt
              clear htt
              go_wp2_with fail
              go_roundw
              case rel =>
                refine ⟨k + 1, ys, by omega, by go_num, ?_, hown1.out, HX.out, hbw1⟩
                have : openB t (k + 1) = openB t k := by simp only [openB]; rw [HMO.out, htb, Bool.or_false]
                rw [this]
              case measure =>
                simp [intOf]
                try omega
          · have heb : ((k : Int) == 1025) = false := by simp; omega
            have HMO : Hid (mOf k = k) := by unfold mOf; rw [if_neg he]; rfl
            have hcv := fun o => hcv k 32769 o (by omega)
            go_wp2_with fail
            refine (writeString_any wr.heap.size [] (aStr k) _ (by rw [aStr_size]; omega) hE0 (by simp)).mono ?_
            rintro e W1 ⟨rfl, hE1, hb1⟩
            rw [List.nil_append] at hE1
            obtain ⟨rest, hhead⟩ := wstr_head (aStr k).data.toList
            rw [aStr_list, units_a] at hhead
            rw [aStr_list, hhead] at hE1
            obtain ⟨g, cap, hbg, hcap, hcell, hgs, hcells⟩ := enc_buf hE1 (by simp)
            have hc0 : W1.cell? ⟨g, 0, none⟩ = some (.int .u8 (tagOf k)) := hcells 0 (by simp)
            rw [List.length_cons] at hcell
            have hbw1 : Below w.heap.size w W1 := hbw.trans (((Below.refl _ _).alloc (by omega) _).trans (hb1.mono (by omega)))
            have hown1 : Hid (W1.ownsRow w.heap.size 5 1 (Value.slice (some ⟨w.heap.size, 0, none⟩) 32769 32769) 32769 ys) := own_below HO1.out (((Below.refl _ _).alloc (Nat.le_refl _) _).trans hb1) hltb
            clear hE1 hhead hcells hb1 hE0 hcv
            have hnz : ((rest.length : Int) + 1 == 0) = false := by simp; omega
            have hpos : (0 : Int) < (rest.length : Int) + 1 := by omega
            go_wp2_with fail
            refine (encoderBuf_any wr.heap.size _ _ _ _ hcell).mono ?_
            rintro e W2 ⟨rfl, rfl⟩
            by_cases htt : tagOf k = t
            · have htb : (tagOf k == t) = true := by simp [htt]
              have HT : Hid (tagOf k = t) := htt
              clear htt
              go_wp2_with fail
              go_roundw
              case rel =>
                refine ⟨k + 1, ys, by omega, by go_num, ?_, hown1.out, HX.out, hbw1⟩
                have : openB t (k + 1) = true := by simp only [openB, Bool.or_eq_true, beq_iff_eq]; right; exact (by rw [HMO.out]; exact HT.out)
                rw [this]
              case measure =>
                simp [intOf]
                try omega
            · have htb : (tagOf k == t) = false := by simp [htt]
              have HT : Hid (¬ tagOf k = t) := htt
              clear htt
              go_wp2_with fail
              go_roundw
              case rel =>
                refine ⟨k + 1, ys, by omega, by go_num, ?_, hown1.out, HX.out, hbw1⟩
                have : openB t (k + 1) = openB t k := by simp only [openB]; rw [HMO.out, htb, Bool.or_false]
                rw [this]
              case measure =>
                simp [intOf]
                try omega
        · have hle' : ¬ (k : Int) ≤ 1025 := by omega
          have hk' : k = 1026 := by omega
          subst hk'
          have htg := tags_all t h0
          go_wp2_with fail
          refine (zzIsStringTag_any t _ h0 h1).mono ?_
          rintro e W2 ⟨rfl, rfl⟩
          go_wp2_with fail
          go_ret
          exact ⟨rfl, hbw⟩

end Go.Proofs.Qxb6613196a
