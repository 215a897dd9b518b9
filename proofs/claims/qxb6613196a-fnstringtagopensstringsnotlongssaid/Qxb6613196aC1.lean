import Derived.Test.Qxb6613196aA1
import Derived.Deep.RegionHeld3
import Derived.Deep.AppendLies
import Derived.Deep.DrawnRows
namespace Go.Proofs.Qxb6613196a
open Go.RowKit

/-! ### Plain: the bytes of a long -/
def be4 (u : Int) : List Int := [u / 16777216, u / 65536 % 256, u / 256 % 256, u % 256]
def be8 (u : Int) : List Int := [u / 72057594037927936, u / 281474976710656 % 256, u / 1099511627776 % 256, u / 4294967296 % 256, u / 16777216 % 256, u / 65536 % 256, u / 256 % 256, u % 256]
def longBytes (v : Int) : List Int :=
  if -8 ≤ v ∧ v ≤ 15 then [224 + v]
  else if -2048 ≤ v ∧ v ≤ 2047 then [248 + v / 256, v % 256]
  else if -262144 ≤ v ∧ v ≤ 262143 then [60 + v / 65536, v / 256 % 256, v % 256]
  else if -2147483648 ≤ v ∧ v ≤ 2147483647 then 89 :: be4 (v % 4294967296)
  else 76 :: be8 (v % 18446744073709551616)

theorem cells_four (w : World) (G : Nat) (hG : w.heap.size = G) (a b c d : Int) : ∀ j u, ([a, b, c, d].map (Value.int .u8))[j]? = some u → (w.alloc (.cells #[.int .u8 a, .int .u8 b, .int .u8 c, .int .u8 d] 5)).cell? ((⟨G, 0, none⟩ : Addr).add j) = some u := by
  subst hG
  intro j u hj
  match j, hj with
  | 0, hj => simp at hj; subst hj; simp [Addr.add]
  | 1, hj => simp at hj; subst hj; simp [Addr.add]
  | 2, hj => simp at hj; subst hj; simp [Addr.add]
  | 3, hj => simp at hj; subst hj; simp [Addr.add]
  | j + 4, hj => simp at hj
theorem cells_eight (w : World) (G : Nat) (hG : w.heap.size = G) (a b c d e f g h : Int) : ∀ j u, ([a, b, c, d, e, f, g, h].map (Value.int .u8))[j]? = some u → (w.alloc (.cells #[.int .u8 a, .int .u8 b, .int .u8 c, .int .u8 d, .int .u8 e, .int .u8 f, .int .u8 g, .int .u8 h] 5)).cell? ((⟨G, 0, none⟩ : Addr).add j) = some u := by
  subst hG
  intro j u hj
  match j, hj with
  | 0, hj => simp at hj; subst hj; simp [Addr.add]
  | 1, hj => simp at hj; subst hj; simp [Addr.add]
  | 2, hj => simp at hj; subst hj; simp [Addr.add]
  | 3, hj => simp at hj; subst hj; simp [Addr.add]
  | 4, hj => simp at hj; subst hj; simp [Addr.add]
  | 5, hj => simp at hj; subst hj; simp [Addr.add]
  | 6, hj => simp at hj; subst hj; simp [Addr.add]
  | 7, hj => simp at hj; subst hj; simp [Addr.add]
  | j + 8, hj => simp at hj

set_option maxHeartbeats 400000 in
/-- binary.BigEndian.AppendUint32 onto a slice that the call owns. -/
theorem append32_any (B n : Nat) (u : Int) (sv : Value) (xs : List Value) (w : World) (h0 : 0 ≤ u) (h1 : u ≤ 4294967295) (hown : w.ownsRow B 5 1 sv n xs) (hB : B ≤ w.heap.size) (hn : n ≤ 1000000000000) :
    Calls Try.prog 30 #[.agg #[], sv, .int .u32 u] w fun e w' => ∃ ao cp, e = .returned (.slice ao (n + 4) cp) ∧ w'.ownsRow B 5 1 (.slice ao (n + 4) cp) (n + 4) (xs ++ (be4 u).map (Value.int .u8)) ∧ (∀ k, k < w.heap.size → some k ≠ sv.ownBlock → w'.heap[k]? = w.heap[k]?) ∧ Below B w w' := by
  obtain ⟨i0, hi, hz0, hz1, hz2⟩ := info_parts Try.info5
  go_enter Try.func30, Try.ntmps30
  go_wp2_with (at_builtin; refine wpList_append_own _ rfl (.tmp 7) (.tmp 19) 22 rfl B 5 i0 (.int .u8 0) 1 1 Try.underlying22 hi hz0 hz1 hz2 rfl (by decide) _ _ _ rfl ((hown.alloc _).alloc _) _ _ _ _ rfl (by rfl) (cells_four _ (w.heap.size + 1) (by simp) _ _ _ _) (ints_oneCell _ _) ?c3 ?c4 ?c5 ?_)
  case c3 => unfold maxLen; omega
  case c4 => omega
  case c5 => simp; omega
  intro v' w1 hown1 hg1 _
  obtain ⟨ao, cp, hv'⟩ := own_slice hown1
  rw [hv'] at hown1 ⊢
  clear hv'
  have hB1 : Below B w w1 := Below.grown (((Below.refl _ _).alloc hB _).alloc (by simp; omega) _) hg1 (by simp; omega) (fun k hk => (hown.lt k hk).1)
  have hF : ∀ k, k < w.heap.size → some k ≠ sv.ownBlock → w1.heap[k]? = w.heap[k]? := by
    intro k hk hne
    rw [hg1.block k (by simp; omega) hne, Below.heap_alloc _ _ k (by simp; omega), Below.heap_alloc _ _ k hk]
  have HF : Hid (∀ k, k < w.heap.size → some k ≠ sv.ownBlock → w1.heap[k]? = w.heap[k]?) := hF
  clear hg1 hown hF
  go_wp2
  go_ret
  exact ⟨ao, cp, rfl, hown1, HF.out, hB1⟩

set_option maxHeartbeats 400000 in
/-- binary.BigEndian.AppendUint64 onto a slice that the call owns. -/
theorem append64_any (B n : Nat) (u : Int) (sv : Value) (xs : List Value) (w : World) (h0 : 0 ≤ u) (h1 : u ≤ 18446744073709551615) (hown : w.ownsRow B 5 1 sv n xs) (hB : B ≤ w.heap.size) (hn : n ≤ 1000000000000) :
    Calls Try.prog 31 #[.agg #[], sv, .int .u64 u] w fun e w' => ∃ ao cp, e = .returned (.slice ao (n + 8) cp) ∧ w'.ownsRow B 5 1 (.slice ao (n + 8) cp) (n + 8) (xs ++ (be8 u).map (Value.int .u8)) ∧ (∀ k, k < w.heap.size → some k ≠ sv.ownBlock → w'.heap[k]? = w.heap[k]?) ∧ Below B w w' := by
  obtain ⟨i0, hi, hz0, hz1, hz2⟩ := info_parts Try.info5
  go_enter Try.func31, Try.ntmps31
  go_wp2_with (at_builtin; refine wpList_append_own _ rfl (.tmp 7) (.tmp 31) 22 rfl B 5 i0 (.int .u8 0) 1 1 Try.underlying22 hi hz0 hz1 hz2 rfl (by decide) _ _ _ rfl ((hown.alloc _).alloc _) _ _ _ _ rfl (by rfl) (cells_eight _ (w.heap.size + 1) (by simp) _ _ _ _ _ _ _ _) (ints_oneCell _ _) ?c3 ?c4 ?c5 ?_)
  case c3 => unfold maxLen; omega
  case c4 => omega
  case c5 => simp; omega
  intro v' w1 hown1 hg1 _
  obtain ⟨ao, cp, hv'⟩ := own_slice hown1
  rw [hv'] at hown1 ⊢
  clear hv'
  have hB1 : Below B w w1 := Below.grown (((Below.refl _ _).alloc hB _).alloc (by simp; omega) _) hg1 (by simp; omega) (fun k hk => (hown.lt k hk).1)
  have hF : ∀ k, k < w.heap.size → some k ≠ sv.ownBlock → w1.heap[k]? = w.heap[k]? := by
    intro k hk hne
    rw [hg1.block k (by simp; omega) hne, Below.heap_alloc _ _ k (by simp; omega), Below.heap_alloc _ _ k hk]
  have HF : Hid (∀ k, k < w.heap.size → some k ≠ sv.ownBlock → w1.heap[k]? = w.heap[k]?) := hF
  clear hg1 hown hF
  go_wp2
  go_ret
  exact ⟨ao, cp, rfl, hown1, HF.out, hB1⟩

end Go.Proofs.Qxb6613196a
