import Derived.Test.Qxb6613196aG5
namespace Go.Proofs.Qxb6613196a
open Go.RowKit

theorem Try.info3 : (Try.prog.info? 3).map (fun i => (i.zero, i.size, i.bytes)) = some (some (.int .i64 0), 1, 8) := by kernel_rfl

theorem icells_one (w : World) (a : Int) : ∀ j u, ([a].map (Value.int .i64))[j]? = some u → (w.alloc (.cells #[.int .i64 a] 3)).cell? ((⟨w.heap.size, 0, none⟩ : Addr).add j) = some u := by
  intro j u hj
  match j, hj with
  | 0, hj => simp at hj; subst hj; simp [Addr.add]
  | j + 1, hj => simp at hj
theorem icells_two (w : World) (a b : Int) : ∀ j u, ([a, b].map (Value.int .i64))[j]? = some u → (w.alloc (.cells #[.int .i64 a, .int .i64 b] 3)).cell? ((⟨w.heap.size, 0, none⟩ : Addr).add j) = some u := by
  intro j u hj
  match j, hj with
  | 0, hj => simp at hj; subst hj; simp [Addr.add]
  | 1, hj => simp at hj; subst hj; simp [Addr.add]
  | j + 2, hj => simp at hj

/-- What is owned stays owned while only new blocks are written. -/
theorem own_kept {w w' : World} {base : Nat} {e : TypeId} {size : Nat} {v : Value} {n : Nat} {xs : List Value} (h : w.ownsRow base e size v n xs) (hb : Below w.heap.size w w') : w'.ownsRow base e size v n xs := by
  obtain ⟨h1, h2⟩ := h
  refine ⟨h1, ?_⟩
  rcases h2 with h2 | ⟨g, cap, cur, hv, hg, hh, r⟩
  · exact .inl h2
  · exact .inr ⟨g, cap, cur, hv, hg, by rw [hb.block g (Array.getElem?_eq_some_iff.1 hh).1]; exact hh, r⟩

/-- An append onto an owned row, the frame told by 'Below'. -/
theorem below_app {B : Nat} {w W w1 : World} {o : Obj} {e : TypeId} {v : Value} {n : Nat} {xs : List Value} (hb : Below B w W) (hB : B ≤ W.heap.size) (hown : W.ownsRow B e 1 v n xs) (hg : (W.alloc o).grownBy w1 v.ownBlock) : Below B w w1 :=
  Below.grown (hb.alloc hB o) hg (by simp; omega) (fun k hk => (hown.lt k hk).1)

set_option maxRecDepth 100000 in
set_option maxHeartbeats 1000000 in
/-- zzUnits. -/
theorem zzUnits_any (s : ByteArray) (w : World) (hs : s.size ≤ 1048576) :
    Calls Try.prog 15 #[.string s] w fun e w' => ∃ v, e = .returned v ∧ w'.ownsRow w.heap.size 3 1 v (units s.data.toList).length ((units s.data.toList).map (Value.int .i64)) ∧ Below w.heap.size w w' := by
  obtain ⟨i0, hi, hz0, hz1, hz2⟩ := info_parts Try.info3
  go_enter Try.func15, Try.ntmps15
  go_wp2_with fail
  go_loopw [3, 4] (fun v i wr => ∃ (pos : Nat) (acc : List Int), i = .int .i64 pos ∧ wr.ownsRow w.heap.size 3 1 v acc.length (acc.map (Value.int .i64)) ∧ acc ++ units (s.data.toList.drop pos) = units s.data.toList ∧ acc.length ≤ pos ∧ pos ≤ s.size ∧ Below w.heap.size w wr) (fun _ i _ => s.size - (intOf i).toNat)
  case atStart => exact ⟨0, [], rfl, World.ownsRow_nil _ _ _ _, by simp, by simp, Nat.zero_le _, Below.refl _ _⟩
  case round =>
    obtain ⟨pos, acc, rfl, hown, hacc, hal, hps, hbw⟩ := hrel
    have HC : Hid (acc ++ units (s.data.toList.drop pos) = units s.data.toList) := hacc
    clear hacc
    have hbs := hbw.size
    by_cases hp : pos < s.size
    · have hp' : (pos : Int) < (s.size : Int) := by omega
      obtain ⟨r, wd, hd, hdd, hne, hr, hw1, hw2, hrl, hu⟩ := step_facts s pos hp
      have hdr := fun w => decodeRune_any s pos w hp hs
      rw [hdd] at hdr
      have HU : Hid (units (s.data.toList.drop pos) = runeUnits r ++ units (s.data.toList.drop (pos + wd))) := hu
      obtain ⟨R, hR⟩ : ∃ R : Int, (r : Int) = R := ⟨_, rfl⟩
      simp only [hR] at hdr
      have hR0 : 0 ≤ R := by omega
      have hR1 : R ≤ 1114111 := by omega
      have HR : Hid ((r : Int) = R) := hR
      have HRL : Hid (runeLen r ≤ wd) := hrl
      have HDR : Hid (∀ w, Calls Try.prog 24 #[.string s, .int .i64 (pos : Int)] w fun e w' => e = .returned (.tuple #[.int .i64 R, .int .i64 (wd : Int)]) ∧ Below w.heap.size w w') := hdr
      clear hu hd hdd hne hdr hR hr hrl
      go_wp2_with fail
      refine (HDR.out _).mono ?_
      rintro e W1 ⟨rfl, hb1⟩
      have hbs1 := hb1.size
      have hown1 : W1.ownsRow w.heap.size 3 1 u3 acc.length (acc.map (Value.int .i64)) := own_kept hown hb1
      have hbw1 : Below w.heap.size w W1 := hbw.trans (hb1.mono hbs)
      clear hown hbw hb1
      by_cases h1 : R < 65536
      · have h2 : r < 65536 := by have := HR.out; omega
        have H2 : Hid (r < 65536) := h2
        clear h2
        go_wp2_with (at_builtin; refine wpList_append_own _ rfl (.tmp 23) (.tmp 25) 34 rfl w.heap.size 3 i0 (.int .i64 0) 1 8 Try.underlying34 hi hz0 hz1 hz2 rfl (by decide) _ _ _ rfl (hown1.alloc _) _ _ _ _ rfl (by rfl) (icells_one _ _) (ints_oneCell _ _) ?c3 ?c4 ?c5 ?_)
        case c3 => unfold maxLen; omega
        case c4 => omega
        case c5 => first | omega | (simp; omega)
        intro v' w1 hown2 hg2 _
        have hbw2 := below_app hbw1 (by omega) hown1 hg2
        have HO : Hid (w1.ownsRow w.heap.size 3 1 v' (acc.length + 1) (acc.map (Value.int .i64) ++ ([R] : List Int).map (Value.int .i64))) := hown2
        clear hg2 hown1 hown2
        go_wp2_with fail
        go_roundw
        case rel =>
          refine ⟨pos + wd, acc ++ [R], by go_num, ?_, ?_, ?_, by omega, hbw2⟩
          · rw [List.length_append, List.map_append]; exact HO.out
          · rw [List.append_assoc, ← HC.out, HU.out]
            congr 1
            unfold runeUnits
            rw [if_pos H2.out, HR.out]
          · simp only [List.length_append, List.length_cons, List.length_nil]; omega

        case measure => simp [intOf]; omega
      · have h2 : ¬ r < 65536 := by have := HR.out; omega
        have H2 : Hid (¬ r < 65536) := h2
        clear h2
        go_wp2_with (at_builtin; refine wpList_append_own _ rfl (.tmp 29) (.tmp 36) 34 rfl w.heap.size 3 i0 (.int .i64 0) 1 8 Try.underlying34 hi hz0 hz1 hz2 rfl (by decide) _ _ _ rfl (hown1.alloc _) _ _ _ _ rfl (by rfl) (icells_two _ _ _) (ints_oneCell _ _) ?c3 ?c4 ?c5 ?_)
        case c3 => unfold maxLen; omega
        case c4 => omega
        case c5 => first | omega | (simp; omega)
        intro v' w1 hown2 hg2 _
        have hbw2 := below_app hbw1 (by omega) hown1 hg2
        have HO : Hid (w1.ownsRow w.heap.size 3 1 v' (acc.length + 2) (acc.map (Value.int .i64) ++ ([55296 + (R - 65536) / 1024, 56320 + (R - 65536) % 1024] : List Int).map (Value.int .i64))) := hown2
        clear hg2 hown1 hown2
        go_wp2_with fail
        go_roundw
        case rel =>
          refine ⟨pos + wd, acc ++ [55296 + (R - 65536) / 1024, 56320 + (R - 65536) % 1024], by go_num, ?_, ?_, ?_, by omega, hbw2⟩
          · rw [List.length_append, List.map_append]; exact HO.out
          · rw [List.append_assoc, ← HC.out, HU.out]
            congr 1
            unfold runeUnits
            rw [if_neg H2.out, HR.out]
          · have h3 : 2 ≤ wd := by have hrl := HRL.out; unfold runeLen at hrl; rw [if_neg H2.out] at hrl; exact hrl
            simp only [List.length_append, List.length_cons, List.length_nil]; omega
        case measure => simp [intOf]; omega
    · have hp' : ¬ (pos : Int) < (s.size : Int) := by omega
      go_wp2_with fail
      go_ret
      have h1 := HC.out
      rw [List.drop_eq_nil_of_le (by show s.size ≤ pos; omega), units_nil, List.append_nil] at h1
      subst h1
      exact ⟨_, rfl, hown, hbw⟩

set_option maxHeartbeats 1000000 in
/-- zzIntsEqual at two empty slices. -/
theorem intsEqual_nil (ao bo : Option Addr) (c c' : Nat) (w : World) :
    Calls Try.prog 14 #[.slice ao 0 c, .slice bo 0 c'] w fun e w' => e = .returned (.bool true) ∧ Below w.heap.size w w' := by
  go_enter Try.func14, Try.ntmps14
  go_wp2_with fail
  go_loopw [5] (fun i wr => i = .int .i64 0 ∧ wr = w) (fun _ _ => 0)
  case atStart => exact ⟨rfl, rfl⟩
  case round =>
    obtain ⟨rfl, rfl⟩ := hrel
    go_wp2_with fail
    go_ret
    exact ⟨rfl, Below.refl _ _⟩

set_option maxHeartbeats 1000000 in
/-- zzIntsEqual at two slices of the same numbers. -/
theorem intsEqual_same (g h n c c' : Nat) (xs : List Int) (w : World) (_hl : xs.length = n) (hn : n ≤ 1000000000000) (ha : ∀ j, j < n → w.cell? ⟨g, j, none⟩ = some (.int .i64 (xs.getD j 0))) (hb : ∀ j, j < n → w.cell? ⟨h, j, none⟩ = some (.int .i64 (xs.getD j 0))) :
    Calls Try.prog 14 #[.slice (some ⟨g, 0, none⟩) n c, .slice (some ⟨h, 0, none⟩) n c'] w fun e w' => e = .returned (.bool true) ∧ Below w.heap.size w w' := by
  have HA : Hid (∀ j, j < n → w.cell? ⟨g, j, none⟩ = some (.int .i64 (xs.getD j 0))) := ha
  have HB : Hid (∀ j, j < n → w.cell? ⟨h, j, none⟩ = some (.int .i64 (xs.getD j 0))) := hb
  clear ha hb
  go_enter Try.func14, Try.ntmps14
  go_wp2_with fail
  go_loopw [5] (fun i wr => ∃ k q : Nat, k ≤ n ∧ i = .int .i64 k ∧ wr = w.drewN q) (fun i _ => n - (intOf i).toNat)
  case atStart => exact ⟨0, 0, Nat.zero_le _, rfl, rfl⟩
  case round =>
    obtain ⟨k, q, hk, rfl, rfl⟩ := hrel
    by_cases hlt : k < n
    · have hlt' : (k : Int) < (n : Int) := by omega
      have h1 := HA.out k hlt
      have h2 := HB.out k hlt
      generalize xs.getD k 0 = x at h1 h2
      go_wp2_with fail
      go_quiet (fail)
      go_wp2_with fail
      go_roundw
      case rel => exact ⟨k + 1, _, by omega, by go_num, rfl⟩
      case measure => simp [intOf]; omega
    · have hlt' : ¬ (k : Int) < (n : Int) := by omega
      go_wp2_with fail
      go_ret
      exact ⟨rfl, below_drewN (Below.refl _ _) _⟩

/-- zzIntsEqual at two owned slices of the same numbers. -/
theorem intsEqual_own (B B' : Nat) (v v' : Value) (xs : List Int) (w : World) (hn : xs.length ≤ 1000000000000) (ha : w.ownsRow B 3 1 v xs.length (xs.map (Value.int .i64))) (hb : w.ownsRow B' 3 1 v' xs.length (xs.map (Value.int .i64))) :
    Calls Try.prog 14 #[v, v'] w fun e w' => e = .returned (.bool true) ∧ Below w.heap.size w w' := by
  by_cases h0 : xs.length = 0
  · obtain ⟨ao, cp, rfl⟩ := own_slice ha
    obtain ⟨bo, cp', rfl⟩ := own_slice hb
    rw [h0]
    exact intsEqual_nil ao bo cp cp' w
  · rcases ha.2 with ⟨_, h⟩ | ⟨g, cap, cur, rfl, _, hg, _⟩
    · omega
    rcases hb.2 with ⟨_, h⟩ | ⟨g', cap', cur', rfl, _, hg', _⟩
    · omega
    refine intsEqual_same g g' xs.length cap cap' xs w rfl hn (fun j hj => ?_) (fun j hj => ?_)
    · rw [ha.cellAt j (by omega)]; simp [List.getD, hj]
    · rw [hb.cellAt j (by omega)]; simp [List.getD, hj]

end Go.Proofs.Qxb6613196a
