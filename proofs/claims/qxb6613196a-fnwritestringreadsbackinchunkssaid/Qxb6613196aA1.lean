import Derived.Test.Qxb6613196aRows
import Derived.Test.Qxb6613196aPlain
import Derived.WalkKit
import Derived.WalkLawsBesides
import Derived.WalkSpells

namespace Go.Proofs.Qxb6613196a
open Go.RowKit

theorem ret_tup2 {k k' : IntKind} {a b c d : Int} (h : a = b) (h' : c = d) : Ending.returned (.tuple #[.int k a, .int k' c]) = .returned (.tuple #[.int k b, .int k' d]) := by rw [h, h']

theorem IntKind.wrap_u16 (n : Int) : IntKind.u16.wrap n = n % 65536 := by simp [IntKind.wrap, IntKind.bits, IntKind.signed]
theorem wraps_u16' (n : Int) (h₀ : 0 ≤ n) (h₁ : n < 2 ^ 16) : IntKind.u16.wrap n = n := by rw [IntKind.wrap_u16]; omega
theorem i32_and1023 (x : Int) (h₀ : 0 ≤ x) (h₁ : x < 2147483648) : bits .and .i32 x 1023 = x % 1024 := bits_mask .i32 31 (by decide) wraps_i32 10 (by decide) x h₀ h₁
theorem u16_and63 (x : Int) (h₀ : 0 ≤ x) (h₁ : x < 65536) : bits .and .u16 x 63 = x % 64 := bits_mask .u16 16 (by decide) wraps_u16' 6 (by decide) x h₀ h₁

set_option maxHeartbeats 400000 in
theorem runeLen_one (r : Int) (w : World) (h0 : 0 ≤ r) (h1 : r < 65536) (hs : r < 55296 ∨ 57344 ≤ r) :
    Calls Try.prog 27 #[.int .i32 r] w fun e w' => e = .returned (.int .i64 1) ∧ w' = w := by
  rcases hs with hs | hs
  · go_enter Try.func27, Try.ntmps27
    go_wp2
    go_ret
    exact ⟨rfl, rfl⟩
  · have hn : ¬ r < 55296 := by omega
    go_enter Try.func27, Try.ntmps27
    go_wp2
    go_ret
    exact ⟨rfl, rfl⟩

set_option maxHeartbeats 400000 in
theorem runeLen_two (r : Int) (w : World) (h0 : 65536 ≤ r) (h1 : r ≤ 1114111) :
    Calls Try.prog 27 #[.int .i32 r] w fun e w' => e = .returned (.int .i64 2) ∧ w' = w := by
  go_enter Try.func27, Try.ntmps27
  go_wp2
  go_ret
  exact ⟨rfl, rfl⟩

/-- utf16.RuneLen at a character that is no surrogate. -/
theorem runeLen_any (r : Nat) (w : World) (h : r < 55296 ∨ (57344 ≤ r ∧ r ≤ 1114111)) :
    Calls Try.prog 27 #[.int .i32 (r : Int)] w fun e w' => e = .returned (.int .i64 (runeLen r : Int)) ∧ w' = w := by
  unfold runeLen
  by_cases h1 : r < 65536
  · rw [if_pos h1]
    exact runeLen_one r w (by omega) (by omega) (by omega)
  · rw [if_neg h1]
    exact runeLen_two r w (by omega) (by omega)

set_option maxHeartbeats 400000 in
theorem encodeRune_any (r : Int) (w : World) (h0 : 65536 ≤ r) (h1 : r ≤ 1114111) :
    Calls Try.prog 29 #[.int .i32 r] w fun e w' => e = .returned (.tuple #[.int .i32 (55296 + (r - 65536) / 1024), .int .i32 (56320 + (r - 65536) % 1024)]) ∧ w' = w := by
  have e1 : bits BinOp.and IntKind.i32 ((r - 65536) / 1024) 1023 = (r - 65536) / 1024 := by
    rw [i32_and1023 _ (by omega) (by omega)]; omega
  have e2 := i32_and1023 (r - 65536) (by omega) (by omega)
  go_enter Try.func29, Try.ntmps29
  go_wp2
  go_ret2
  exact ⟨ret_tup2 rfl rfl, rfl⟩

/-! ### THE ENCODER IN MEMORY: block b holds the struct, its first cell the slice that owns bs -/
def Enc (b : Nat) (bs : List Int) (w : World) : Prop :=
  ∃ v, w.heap[b]? = some (.cells #[v, .slice none 0 0, .map none, .map none, .map none, .int .i64 0] 28) ∧ w.ownsRow (b + 1) 5 1 v bs.length (bs.map (Value.int .u8))

/-- What a method of the encoder in block b leaves: all below b; above b every block that is no row of bytes. -/
def Kept (b : Nat) (w w' : World) : Prop := Below b w w' ∧ Lib.OthersKept 5 (some b) w w'
theorem Kept.refl (b : Nat) (w : World) : Kept b w w := ⟨Below.refl _ _, Lib.OthersKept.refl _ _ _⟩
theorem Kept.trans {b : Nat} {w1 w2 w3 : World} (h : Kept b w1 w2) (k : Kept b w2 w3) : Kept b w1 w3 := ⟨h.1.trans k.1, h.2.trans k.2⟩
theorem Kept.alloc {b : Nat} {w w' : World} (h : Kept b w w') (hb : b ≤ w'.heap.size) (o : Obj) : Kept b w (w'.alloc o) := ⟨h.1.alloc hb o, h.2.alloc o⟩
theorem Kept.iter {b : Nat} {w w' : World} (h : Kept b w w') {k : Nat} {s : ByteArray} {pos : Nat} (hk : w.heap[k]? = some (.stringIter s pos)) (hkb : k ≠ b) : w'.heap[k]? = some (.stringIter s pos) := h.2.iter hk hkb

theorem Enc.lt {b : Nat} {bs : List Int} {w : World} (h : Enc b bs w) : b < w.heap.size := by
  obtain ⟨v, hb, _⟩ := h
  exact (Array.getElem?_eq_some_iff.1 hb).1

theorem Enc.alloc {b : Nat} {bs : List Int} {w : World} (h : Enc b bs w) (o : Obj) : Enc b bs (w.alloc o) := by
  have hlt := h.lt
  obtain ⟨v, hb, hown⟩ := h
  exact ⟨v, by rw [Below.heap_alloc w o b hlt]; exact hb, hown.alloc o⟩

theorem Enc.iterAt {b : Nat} {bs : List Int} {w : World} (h : Enc b bs w) {k : Nat} {s : ByteArray} {pos : Nat} (hk : w.heap[k]? = some (.stringIter s pos)) (pos' : Nat) : Enc b bs (w.iterAt k s pos') := by
  obtain ⟨v, hb, hown⟩ := h
  have hkb : b ≠ k := by
    intro e1
    rw [e1, hk] at hb
    cases hb
  refine ⟨v, (Lib.iterAt_other w k b s pos' hkb).trans hb, ⟨hown.1, ?_⟩⟩
  rcases hown.2 with hn | ⟨g, cap, cur, hv, hbg, hg, rest⟩
  · exact .inl hn
  · have hkg : g ≠ k := by
      intro e1
      rw [e1, hk] at hg
      cases hg
    exact .inr ⟨g, cap, cur, hv, hbg, (Lib.iterAt_other w k g s pos' hkg).trans hg, rest⟩

theorem kept_iterAt {b : Nat} {w : World} {k : Nat} {s : ByteArray} (hbk : b ≤ k) (pos' : Nat) : Below b w (w.iterAt k s pos') := Lib.below_iterAt (Below.refl _ _) hbk s pos'

/-- What the walk asks of the struct's first cell. -/
theorem enc_cell {b : Nat} {w : World} {v : Value} {r : List Value} (hb : w.heap[b]? = some (.cells (v :: r).toArray 28)) : w.cell? ⟨b, 0, none⟩ = some v := by
  rw [cell_of_row w b 0 _ 28 (0, 0) hb]
  simp

theorem enc_frozen {b : Nat} {w : World} {c : Array Value} (hb : w.heap[b]? = some (.cells c 28)) (o : Nat) : w.frozen? ⟨b, o, none⟩ = false := by
  simp [World.frozen?, hb]

/-- THE STEP 'e.buf = append(e.buf, ..)': w: before; w.alloc o: the new bytes laid; w1: behind the append; v': the new slice. -/
theorem enc_step {b : Nat} {bs news : List Int} {w w1 : World} {v v' : Value} {o : Obj} {n : Nat}
    (hb : w.heap[b]? = some (.cells #[v, .slice none 0 0, .map none, .map none, .map none, .int .i64 0] 28)) (hown : w.ownsRow (b + 1) 5 1 v bs.length (bs.map (Value.int .u8)))
    (hown' : w1.ownsRow (b + 1) 5 1 v' n (bs.map (Value.int .u8) ++ news.map (Value.int .u8))) (hg : (w.alloc o).grownBy w1 v.ownBlock) (hn : n = bs.length + news.length) :
    w1.heap[b]? = some (.cells #[v, .slice none 0 0, .map none, .map none, .map none, .int .i64 0] 28) ∧ Enc b (bs ++ news) (w1.setCell ⟨b, 0, none⟩ v') ∧ Kept b w (w1.setCell ⟨b, 0, none⟩ v') := by
  subst hn
  have hlt : b < w.heap.size := (Array.getElem?_eq_some_iff.1 hb).1
  have hrow := hown.lt
  have h1 : w1.heap[b]? = some (.cells #[v, .slice none 0 0, .map none, .map none, .map none, .int .i64 0] 28) := by
    rw [hg.block b (by simp; omega) (fun e => by have := (hrow b e.symm).1; omega), Below.heap_alloc w o b hlt]
    exact hb
  refine ⟨h1, ⟨v', ?_, ?_⟩, ?_, ?_⟩
  · simp only [World.setCell, Array.getElem?_modify, if_true, h1, Option.map_some]
    rfl
  · have := ownsRow_setCell_below hown' (a := ⟨b, 0, none⟩) (by simp) v'
    rw [List.length_append, List.map_append]
    exact this
  · refine Below.setCell (p := ⟨b, 0, none⟩) ?_ (Nat.le_refl _) _
    have hB : Below b w w1 := by
      refine Below.grown ((Below.refl _ _).alloc (by omega) o) hg (by simp; omega) ?_
      intro k hk
      have := (hrow k hk).1
      omega
    exact hB
  · refine Lib.OthersKept.setCell (b := b) ?_ ⟨b, 0, none⟩ rfl _
    refine Lib.OthersKept.grown ((Lib.OthersKept.refl _ _ _).alloc o) hg ?_
    intro g hgo
    rcases hown.2 with ⟨rfl, _⟩ | ⟨g', cap, cur, rfl, _, hgg, _⟩
    · simp [Value.ownBlock] at hgo
    · simp [Value.ownBlock] at hgo
      subst hgo
      exact ⟨cur, (0, 0), by rw [Below.heap_alloc w o _ (Array.getElem?_eq_some_iff.1 hgg).1]; exact hgg⟩

theorem own_slice {w : World} {base : Nat} {e : TypeId} {size : Nat} {v : Value} {n : Nat} {xs : List Value} (h : w.ownsRow base e size v n xs) : ∃ ao cp, v = .slice ao n cp := by
  rcases h.2 with ⟨rfl, rfl⟩ | ⟨g, cap, cur, rfl, _⟩
  · exact ⟨_, _, rfl⟩
  · exact ⟨_, _, rfl⟩

theorem cells_one (w : World) (a : Int) : ∀ j u, ([a].map (Value.int .u8))[j]? = some u → (w.alloc (.cells #[.int .u8 a] 5)).cell? ((⟨w.heap.size, 0, none⟩ : Addr).add j) = some u := by
  intro j u hj
  match j, hj with
  | 0, hj => simp at hj; subst hj; simp [Addr.add]
  | j + 1, hj => simp at hj
theorem cells_two (w : World) (a b : Int) : ∀ j u, ([a, b].map (Value.int .u8))[j]? = some u → (w.alloc (.cells #[.int .u8 a, .int .u8 b] 5)).cell? ((⟨w.heap.size, 0, none⟩ : Addr).add j) = some u := by
  intro j u hj
  match j, hj with
  | 0, hj => simp at hj; subst hj; simp [Addr.add]
  | 1, hj => simp at hj; subst hj; simp [Addr.add]
  | j + 2, hj => simp at hj
theorem cells_three (w : World) (a b c : Int) : ∀ j u, ([a, b, c].map (Value.int .u8))[j]? = some u → (w.alloc (.cells #[.int .u8 a, .int .u8 b, .int .u8 c] 5)).cell? ((⟨w.heap.size, 0, none⟩ : Addr).add j) = some u := by
  intro j u hj
  match j, hj with
  | 0, hj => simp at hj; subst hj; simp [Addr.add]
  | 1, hj => simp at hj; subst hj; simp [Addr.add]
  | 2, hj => simp at hj; subst hj; simp [Addr.add]
  | j + 3, hj => simp at hj

theorem Try.info5 : (Try.prog.info? 5).map (fun i => (i.zero, i.size, i.bytes)) = some (some (.int .u8 0), 1, 1) := by kernel_rfl

set_option maxHeartbeats 400000 in
/-- appendUnit, two bytes. -/
theorem appendUnit_two (b : Nat) (bs : List Int) (u : Int) (w : World) (h0 : 128 ≤ u) (h1 : u < 2048) (hE : Enc b bs w) (hl : bs.length ≤ 1000000000000) :
    Calls Try.prog 28 #[.pointer (some ⟨b, 0, none⟩), .int .u16 u] w fun e w' => e = .returned (.tuple #[]) ∧ Enc b (bs ++ [192 + u / 64, 128 + u % 64]) w' ∧ Kept b w w' := by
  have hlt := hE.lt
  obtain ⟨v, hb, hown⟩ := hE
  have hc := enc_cell hb
  obtain ⟨i0, hi, hz0, hz1, hz2⟩ := info_parts Try.info5
  have e1 := u16_and63 u (by omega) (by omega)
  have e2 := u8_or128 (u % 64) (by omega) (by omega)
  have e3 : u % 64 % 256 = u % 64 := by omega
  go_enter Try.func28, Try.ntmps28
  go_wp2_with (at_builtin; refine wpList_append_own _ rfl (.tmp 10) (.tmp 19) 22 rfl (b + 1) 5 i0 (.int .u8 0) 1 1 Try.underlying22 hi hz0 hz1 hz2 rfl (by decide) _ _ _ rfl (hown.alloc _) _ _ _ _ rfl (by rfl) (cells_two _ _ _) (ints_oneCell _ _) ?c3 ?c4 ?c5 ?_)
  case c3 => unfold maxLen; omega
  case c4 => omega
  case c5 => simp; omega
  intro v' w1 hown1 hg1 _
  obtain ⟨ao, cp, hv'⟩ := own_slice hown1
  rw [hv'] at hown1 ⊢
  clear hv'
  have S := enc_step (news := [192 + u / 64, 128 + u % 64]) hb hown hown1 hg1 rfl
  have hc1 := enc_cell S.1
  have hf1 := enc_frozen S.1 0
  clear hown1 hg1 hown hb hc e1 e2 e3
  go_wp2
  refine bodyPost_ret (results_none rfl _ _ _) rfl ?_
  exact ⟨rfl, S.2⟩

set_option maxHeartbeats 400000 in
/-- appendUnit, three bytes. -/
theorem appendUnit_three (b : Nat) (bs : List Int) (u : Int) (w : World) (h0 : 2048 ≤ u) (h1 : u < 65536) (hE : Enc b bs w) (hl : bs.length ≤ 1000000000000) :
    Calls Try.prog 28 #[.pointer (some ⟨b, 0, none⟩), .int .u16 u] w fun e w' => e = .returned (.tuple #[]) ∧ Enc b (bs ++ [224 + u / 4096, 128 + u / 64 % 64, 128 + u % 64]) w' ∧ Kept b w w' := by
  have hlt := hE.lt
  obtain ⟨v, hb, hown⟩ := hE
  have hc := enc_cell hb
  obtain ⟨i0, hi, hz0, hz1, hz2⟩ := info_parts Try.info5
  have e1 := u16_and63 u (by omega) (by omega)
  have e2 := u8_or128 (u % 64) (by omega) (by omega)
  have e3 : u % 64 % 256 = u % 64 := by omega
  have e4 := u16_and63 (u / 64) (by omega) (by omega)
  have e5 := u8_or128 (u / 64 % 64) (by omega) (by omega)
  have e6 : u / 64 % 64 % 256 = u / 64 % 64 := by omega
  have e7 := u8_or224 (u / 4096) (by omega) (by omega)
  go_enter Try.func28, Try.ntmps28
  go_wp2_with (at_builtin; refine wpList_append_own _ rfl (.tmp 27) (.tmp 41) 22 rfl (b + 1) 5 i0 (.int .u8 0) 1 1 Try.underlying22 hi hz0 hz1 hz2 rfl (by decide) _ _ _ rfl (hown.alloc _) _ _ _ _ rfl (by rfl) (cells_three _ _ _ _) (ints_oneCell _ _) ?c3 ?c4 ?c5 ?_)
  case c3 => unfold maxLen; omega
  case c4 => omega
  case c5 => simp; omega
  intro v' w1 hown1 hg1 _
  obtain ⟨ao, cp, hv'⟩ := own_slice hown1
  rw [hv'] at hown1 ⊢
  clear hv'
  have S := enc_step (news := [224 + u / 4096, 128 + u / 64 % 64, 128 + u % 64]) hb hown hown1 hg1 rfl
  have hc1 := enc_cell S.1
  have hf1 := enc_frozen S.1 0
  clear hown1 hg1 hown hb hc e1 e2 e3 e4 e5 e6 e7
  go_wp2
  go_end0
  exact ⟨rfl, S.2⟩

/-- appendUnit at a unit of 0x80 or more. -/
theorem appendUnit_any (b : Nat) (bs : List Int) (u : Int) (w : World) (h0 : 128 ≤ u) (h1 : u < 65536) (hE : Enc b bs w) (hl : bs.length ≤ 1000000000000) :
    Calls Try.prog 28 #[.pointer (some ⟨b, 0, none⟩), .int .u16 u] w fun e w' => e = .returned (.tuple #[]) ∧ Enc b (bs ++ unitBytes u) w' ∧ Kept b w w' := by
  unfold unitBytes
  rw [if_neg (by omega)]
  by_cases h : u < 2048
  · rw [if_pos h]
    exact appendUnit_two b bs u w h0 h hE hl
  · rw [if_neg h]
    exact appendUnit_three b bs u w (by omega) h1 hE hl

end Go.Proofs.Qxb6613196a
