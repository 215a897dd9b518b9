import Derived.Test.Qxb6613196aC2
namespace Go.Proofs.Qxb6613196a
open Go.RowKit
attribute [local go_sem ↓] Go.wp_at_zero Go.wp_at_succ

set_option maxHeartbeats 2000000 in
theorem writeLong_64 (b : Nat) (bs : List Int) (v : Int) (w : World) (hn : v < -2147483648 ∨ 2147483647 < v) (hE : Enc b bs w) (hl : bs.length ≤ 100000000000) :
    Calls Try.prog 25 #[.pointer (some ⟨b, 0, none⟩), .int .i64 v] w fun e w' => e = .returned (.tuple #[]) ∧ Enc b (bs ++ 76 :: be8 (IntKind.u64.wrap v)) w' ∧ Below b w w' := by
  have hlt := hE.lt
  obtain ⟨sv, hb, hown⟩ := hE
  have hc := enc_cell hb
  have hf := enc_frozen hb 0
  obtain ⟨i0, hi, hz0, hz1, hz2⟩ := info_parts Try.info5
  have hu := wrapu64 v
  have fin : ∀ {o : Obj} {w1 w2 : World} {ao : Option Addr} {cp : Nat}, ((w.alloc o).drew).grownBy w1 sv.ownBlock → Below (b + 1) w1 w2 → w2.ownsRow (b + 1) 5 1 (.slice ao (bs.length + 1 + 8) cp) (bs.length + 1 + 8) ((bs.map (Value.int .u8) ++ [.int .u8 76]) ++ (be8 (IntKind.u64.wrap v)).map (Value.int .u8)) →
      w2.cell? ⟨b, 0, none⟩ = some sv ∧ w2.frozen? ⟨b, 0, none⟩ = false ∧ Hid (Enc b (bs ++ 76 :: be8 (IntKind.u64.wrap v)) (w2.setCell ⟨b, 0, none⟩ (.slice ao (bs.length + 1 + 8) cp)) ∧ Below b w (w2.setCell ⟨b, 0, none⟩ (.slice ao (bs.length + 1 + 8) cp))) := by
    intro o w1 w2 ao cp h1 h2 h3
    have := enc_call (news := 76 :: be8 (IntKind.u64.wrap v)) hb hown h1 h2 h3 (by simp [be8]) (by simp)
    exact ⟨enc_cell this.1, enc_frozen this.1 0, this.2⟩
  have HF : Hid (∀ {o : Obj} {w1 w2 : World} {ao : Option Addr} {cp : Nat}, ((w.alloc o).drew).grownBy w1 sv.ownBlock → Below (b + 1) w1 w2 → w2.ownsRow (b + 1) 5 1 (.slice ao (bs.length + 1 + 8) cp) (bs.length + 1 + 8) ((bs.map (Value.int .u8) ++ [.int .u8 76]) ++ (be8 (IntKind.u64.wrap v)).map (Value.int .u8)) →
      w2.cell? ⟨b, 0, none⟩ = some sv ∧ w2.frozen? ⟨b, 0, none⟩ = false ∧ Hid (Enc b (bs ++ 76 :: be8 (IntKind.u64.wrap v)) (w2.setCell ⟨b, 0, none⟩ (.slice ao (bs.length + 1 + 8) cp)) ∧ Below b w (w2.setCell ⟨b, 0, none⟩ (.slice ao (bs.length + 1 + 8) cp)))) := fin
  clear fin
  rcases hn with hn | hn
  · have d1 : decide (-8 ≤ v) = false := decide_eq_false (by omega)
    have d2 : decide (-2048 ≤ v) = false := decide_eq_false (by omega)
    have d3 : decide (-262144 ≤ v) = false := decide_eq_false (by omega)
    have d4 : decide (-2147483648 ≤ v) = false := decide_eq_false (by omega)
    go_enter Try.func25, Try.ntmps25
    go_wp2_with fail
    clear d1 d2 d3 d4 hb
    go_region_law (first
        | (refine step_append_lies _ (by rfl) _ _ _ (by rfl) (b + 1) 5 i0 _ 1 1 Try.underlying22 hi hz0 hz1 hz2 rfl (by omega) sv bs.length (bs.map (Value.int .u8)) (by rfl) ((hown.alloc _).drew)
            ⟨w.heap.size, 0, none⟩ 1 1 [.int .u8 76] (by rfl) (by rfl) (World.news_of_block (cs := #[.int .u8 76]) (t := 5) (fr := (0, 0)) (heap_alloc_new w _)) (by simp [Value.oneCell'])
            (by omega) (by unfold maxLen; omega) (by omega) (by simp; omega) (w.heap.size + 1) (by simp) ?_
           intro g cap w1 hown1 hgrow hat hlt1)
        | (go_simp; go_at_call 31; refine (append64_any (b + 1) (bs.length + 1) (IntKind.u64.wrap v) _ _ _ hu.1 hu.2 hown1 (by have := hgrow.size; simp at this; omega) (by omega)).mono ?_; rintro e w2 ⟨ao, cp, rfl, hown2, hfar2, hbel2⟩; obtain ⟨hc2, hf2, HE2⟩ := HF.out hgrow hbel2 hown2; clear hfar2 hbel2 hown2 hgrow hown1 hat hlt1))
    all_goals (go_wp2; go_end0; exact ⟨rfl, HE2.out⟩)
  · have d1 : decide (-8 ≤ v) = true := decide_eq_true (by omega)
    have d2 : decide (-2048 ≤ v) = true := decide_eq_true (by omega)
    have d3 : decide (-262144 ≤ v) = true := decide_eq_true (by omega)
    have d4 : decide (-2147483648 ≤ v) = true := decide_eq_true (by omega)
    have d5 : decide (v ≤ 2147483647) = false := decide_eq_false (by omega)
    have d6 : decide (v ≤ 15) = false := decide_eq_false (by omega)
    have d7 : decide (v ≤ 2047) = false := decide_eq_false (by omega)
    have d8 : decide (v ≤ 262143) = false := decide_eq_false (by omega)
    go_enter Try.func25, Try.ntmps25
    go_wp2_with fail
    clear d1 d2 d3 d4 d5 d6 d7 d8 hb
    go_region_law (first
        | (refine step_append_lies _ (by rfl) _ _ _ (by rfl) (b + 1) 5 i0 _ 1 1 Try.underlying22 hi hz0 hz1 hz2 rfl (by omega) sv bs.length (bs.map (Value.int .u8)) (by rfl) ((hown.alloc _).drew)
            ⟨w.heap.size, 0, none⟩ 1 1 [.int .u8 76] (by rfl) (by rfl) (World.news_of_block (cs := #[.int .u8 76]) (t := 5) (fr := (0, 0)) (heap_alloc_new w _)) (by simp [Value.oneCell'])
            (by omega) (by unfold maxLen; omega) (by omega) (by simp; omega) (w.heap.size + 1) (by simp) ?_
           intro g cap w1 hown1 hgrow hat hlt1)
        | (go_simp; go_at_call 31; refine (append64_any (b + 1) (bs.length + 1) (IntKind.u64.wrap v) _ _ _ hu.1 hu.2 hown1 (by have := hgrow.size; simp at this; omega) (by omega)).mono ?_; rintro e w2 ⟨ao, cp, rfl, hown2, hfar2, hbel2⟩; obtain ⟨hc2, hf2, HE2⟩ := HF.out hgrow hbel2 hown2; clear hfar2 hbel2 hown2 hgrow hown1 hat hlt1))
    all_goals (go_wp2; go_end0; exact ⟨rfl, HE2.out⟩)

end Go.Proofs.Qxb6613196a
