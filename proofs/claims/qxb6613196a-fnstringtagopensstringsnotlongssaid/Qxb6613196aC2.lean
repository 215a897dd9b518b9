import Derived.Test.Qxb6613196aC1
import Derived.Deep.RegionLaw
namespace Go.Proofs.Qxb6613196a
open Go.RowKit
attribute [local go_sem ↓] Go.wp_at_zero Go.wp_at_succ

/-- Behind 'append(e.buf, c)' and the call that appends more: what lies in block b; and, the result stored, the encoder. -/
theorem enc_call {b : Nat} {bs news : List Int} {w w1 w2 : World} {sv v' : Value} {o : Obj} {N : Nat} {xs : List Value}
    (hb : w.heap[b]? = some (.cells #[sv, .slice none 0 0, .map none, .map none, .map none, .int .i64 0] 28)) (hown : w.ownsRow (b + 1) 5 1 sv bs.length (bs.map (Value.int .u8)))
    (hg : ((w.alloc o).drew).grownBy w1 sv.ownBlock) (hbel : Below (b + 1) w1 w2) (hown2 : w2.ownsRow (b + 1) 5 1 v' N xs) (hN : N = (bs ++ news).length) (hxs : xs = (bs ++ news).map (Value.int .u8)) :
    w2.heap[b]? = some (.cells #[sv, .slice none 0 0, .map none, .map none, .map none, .int .i64 0] 28) ∧ Enc b (bs ++ news) (w2.setCell ⟨b, 0, none⟩ v') ∧ Below b w (w2.setCell ⟨b, 0, none⟩ v') := by
  subst hN hxs
  have hlt : b < w.heap.size := (Array.getElem?_eq_some_iff.1 hb).1
  have hrow := hown.lt
  have h1 : w1.heap[b]? = some (.cells #[sv, .slice none 0 0, .map none, .map none, .map none, .int .i64 0] 28) := by
    rw [hg.block b (by show b < (w.alloc o).heap.size; simp; omega) (fun e => by have := (hrow b e.symm).1; omega)]
    show (w.alloc o).heap[b]? = _
    rw [Below.heap_alloc w o b hlt]
    exact hb
  have h2 : w2.heap[b]? = some (.cells #[sv, .slice none 0 0, .map none, .map none, .map none, .int .i64 0] 28) := (hbel.block b (by omega)).trans h1
  refine ⟨h2, ⟨v', ?_, ?_⟩, ?_⟩
  · simp only [World.setCell, Array.getElem?_modify, if_true, h2, Option.map_some]
    rfl
  · exact ownsRow_setCell_below hown2 (a := ⟨b, 0, none⟩) (by simp) v'
  · refine Below.setCell (p := ⟨b, 0, none⟩) ?_ (Nat.le_refl _) _
    have hB : Below b w w1 := by
      refine Below.grown (((Below.refl _ _).alloc (by omega) o).drew) hg (by show b ≤ (w.alloc o).heap.size; simp; omega) ?_
      intro k hk
      have := (hrow k hk).1
      omega
    exact hB.trans (hbel.mono (by omega))

theorem wrapu32 (v : Int) : 0 ≤ IntKind.u32.wrap v ∧ IntKind.u32.wrap v ≤ 4294967295 := by rw [IntKind.wrap_u32]; omega
theorem IntKind.wrap_u64 (n : Int) : IntKind.u64.wrap n = n % 18446744073709551616 := by simp [IntKind.wrap, IntKind.bits, IntKind.signed]
theorem wrapu64 (v : Int) : 0 ≤ IntKind.u64.wrap v ∧ IntKind.u64.wrap v ≤ 18446744073709551615 := by rw [IntKind.wrap_u64]; omega

set_option maxHeartbeats 2000000 in
theorem writeLong_32 (b : Nat) (bs : List Int) (v : Int) (w : World) (hv : -2147483648 ≤ v ∧ v ≤ 2147483647) (hn : v < -262144 ∨ 262143 < v) (hE : Enc b bs w) (hl : bs.length ≤ 100000000000) :
    Calls Try.prog 25 #[.pointer (some ⟨b, 0, none⟩), .int .i64 v] w fun e w' => e = .returned (.tuple #[]) ∧ Enc b (bs ++ 89 :: be4 (IntKind.u32.wrap v)) w' ∧ Below b w w' := by
  have hlt := hE.lt
  obtain ⟨sv, hb, hown⟩ := hE
  have hc := enc_cell hb
  have hf := enc_frozen hb 0
  obtain ⟨i0, hi, hz0, hz1, hz2⟩ := info_parts Try.info5
  have hu := wrapu32 v
  have fin : ∀ {o : Obj} {w1 w2 : World} {ao : Option Addr} {cp : Nat}, ((w.alloc o).drew).grownBy w1 sv.ownBlock → Below (b + 1) w1 w2 → w2.ownsRow (b + 1) 5 1 (.slice ao (bs.length + 1 + 4) cp) (bs.length + 1 + 4) ((bs.map (Value.int .u8) ++ [.int .u8 89]) ++ (be4 (IntKind.u32.wrap v)).map (Value.int .u8)) →
      w2.cell? ⟨b, 0, none⟩ = some sv ∧ w2.frozen? ⟨b, 0, none⟩ = false ∧ Hid (Enc b (bs ++ 89 :: be4 (IntKind.u32.wrap v)) (w2.setCell ⟨b, 0, none⟩ (.slice ao (bs.length + 1 + 4) cp)) ∧ Below b w (w2.setCell ⟨b, 0, none⟩ (.slice ao (bs.length + 1 + 4) cp))) := by
    intro o w1 w2 ao cp h1 h2 h3
    have := enc_call (news := 89 :: be4 (IntKind.u32.wrap v)) hb hown h1 h2 h3 (by simp [be4]) (by simp)
    exact ⟨enc_cell this.1, enc_frozen this.1 0, this.2⟩
  have HF : Hid (∀ {o : Obj} {w1 w2 : World} {ao : Option Addr} {cp : Nat}, ((w.alloc o).drew).grownBy w1 sv.ownBlock → Below (b + 1) w1 w2 → w2.ownsRow (b + 1) 5 1 (.slice ao (bs.length + 1 + 4) cp) (bs.length + 1 + 4) ((bs.map (Value.int .u8) ++ [.int .u8 89]) ++ (be4 (IntKind.u32.wrap v)).map (Value.int .u8)) →
      w2.cell? ⟨b, 0, none⟩ = some sv ∧ w2.frozen? ⟨b, 0, none⟩ = false ∧ Hid (Enc b (bs ++ 89 :: be4 (IntKind.u32.wrap v)) (w2.setCell ⟨b, 0, none⟩ (.slice ao (bs.length + 1 + 4) cp)) ∧ Below b w (w2.setCell ⟨b, 0, none⟩ (.slice ao (bs.length + 1 + 4) cp)))) := fin
  clear fin
  have d4 : decide (-2147483648 ≤ v) = true := decide_eq_true (by omega)
  have d5 : decide (v ≤ 2147483647) = true := decide_eq_true (by omega)
  rcases hn with hn | hn
  · have d1 : decide (-8 ≤ v) = false := decide_eq_false (by omega)
    have d2 : decide (-2048 ≤ v) = false := decide_eq_false (by omega)
    have d3 : decide (-262144 ≤ v) = false := decide_eq_false (by omega)
    go_enter Try.func25, Try.ntmps25
    go_wp2_with fail
    clear d1 d2 d3 d4 d5 hb
    go_region_law (first
        | (refine step_append_lies _ (by rfl) _ _ _ (by rfl) (b + 1) 5 i0 _ 1 1 Try.underlying22 hi hz0 hz1 hz2 rfl (by omega) sv bs.length (bs.map (Value.int .u8)) (by rfl) ((hown.alloc _).drew)
            ⟨w.heap.size, 0, none⟩ 1 1 [.int .u8 89] (by rfl) (by rfl) (World.news_of_block (cs := #[.int .u8 89]) (t := 5) (fr := (0, 0)) (heap_alloc_new w _)) (by simp [Value.oneCell'])
            (by omega) (by unfold maxLen; omega) (by omega) (by simp; omega) (w.heap.size + 1) (by simp) ?_
           intro g cap w1 hown1 hgrow hat hlt1)
        | (go_simp; go_at_call 30; refine (append32_any (b + 1) (bs.length + 1) (IntKind.u32.wrap v) _ _ _ hu.1 hu.2 hown1 (by have := hgrow.size; simp at this; omega) (by omega)).mono ?_; rintro e w2 ⟨ao, cp, rfl, hown2, hfar2, hbel2⟩; obtain ⟨hc2, hf2, HE2⟩ := HF.out hgrow hbel2 hown2; clear hfar2 hbel2 hown2 hgrow hown1 hat hlt1))
    all_goals (go_wp2; go_end0; exact ⟨rfl, HE2.out⟩)
  · have d1 : decide (-8 ≤ v) = true := decide_eq_true (by omega)
    have d2 : decide (-2048 ≤ v) = true := decide_eq_true (by omega)
    have d3 : decide (-262144 ≤ v) = true := decide_eq_true (by omega)
    have d6 : decide (v ≤ 15) = false := decide_eq_false (by omega)
    have d7 : decide (v ≤ 2047) = false := decide_eq_false (by omega)
    have d8 : decide (v ≤ 262143) = false := decide_eq_false (by omega)
    go_enter Try.func25, Try.ntmps25
    go_wp2_with fail
    clear d1 d2 d3 d4 d5 d6 d7 d8 hb
    go_region_law (first
        | (refine step_append_lies _ (by rfl) _ _ _ (by rfl) (b + 1) 5 i0 _ 1 1 Try.underlying22 hi hz0 hz1 hz2 rfl (by omega) sv bs.length (bs.map (Value.int .u8)) (by rfl) ((hown.alloc _).drew)
            ⟨w.heap.size, 0, none⟩ 1 1 [.int .u8 89] (by rfl) (by rfl) (World.news_of_block (cs := #[.int .u8 89]) (t := 5) (fr := (0, 0)) (heap_alloc_new w _)) (by simp [Value.oneCell'])
            (by omega) (by unfold maxLen; omega) (by omega) (by simp; omega) (w.heap.size + 1) (by simp) ?_
           intro g cap w1 hown1 hgrow hat hlt1)
        | (go_simp; go_at_call 30; refine (append32_any (b + 1) (bs.length + 1) (IntKind.u32.wrap v) _ _ _ hu.1 hu.2 hown1 (by have := hgrow.size; simp at this; omega) (by omega)).mono ?_; rintro e w2 ⟨ao, cp, rfl, hown2, hfar2, hbel2⟩; obtain ⟨hc2, hf2, HE2⟩ := HF.out hgrow hbel2 hown2; clear hfar2 hbel2 hown2 hgrow hown1 hat hlt1))
    all_goals (go_wp2; go_end0; exact ⟨rfl, HE2.out⟩)

end Go.Proofs.Qxb6613196a
