import Derived.Test.Qxb6613196aG3
import Derived.Test.Qxb6613196aG4
namespace Go.Proofs.Qxb6613196a
open Go.RowKit

theorem lat_get (s : ByteArray) (i k : Nat) (h : i + k < s.size) : lat (s.data.toList.drop i) k = (s[i + k]'h).toNat := by
  unfold lat
  congr 1
  have h' : i + k < s.data.toList.length := h
  rw [List.getD_eq_getElem?_getD, List.getElem?_drop, List.getElem?_eq_getElem h']
  rfl

theorem bad1 {l : List UInt8} {P : Prop} (h : (128 ≤ lat l 1 ∧ lat l 1 ≤ 191) → P) : lct l 1 = false ∨ P := by
  by_cases q : 128 ≤ lat l 1 ∧ lat l 1 ≤ 191
  · exact .inr (h q)
  · exact .inl (lct_no (by omega))

theorem mono_dec {s : ByteArray} {i : Nat} {w : World} {r wd : Int} (h : Calls Try.prog 24 #[.string s, .int .i64 (i : Int)] w fun e w' => e = .returned (.tuple #[.int .i64 r, .int .i64 wd]) ∧ Below w.heap.size w w') {p : Nat × Nat} (h1 : r = (p.1 : Int)) (h2 : wd = (p.2 : Int)) :
    Calls Try.prog 24 #[.string s, .int .i64 (i : Int)] w fun e w' => e = .returned (.tuple #[.int .i64 (p.1 : Int), .int .i64 (p.2 : Int)]) ∧ Below w.heap.size w w' := by
  rw [← h1, ← h2]
  exact h

/-- zzDecodeRune reads what a range loop reads. -/
theorem decodeRune_any (s : ByteArray) (i : Nat) (w : World) (hi : i < s.size) (hs : s.size ≤ 1048576) :
    Calls Try.prog 24 #[.string s, .int .i64 (i : Int)] w fun e w' => e = .returned (.tuple #[.int .i64 ((dec (s.data.toList.drop i)).1 : Int), .int .i64 ((dec (s.data.toList.drop i)).2 : Int)]) ∧ Below w.heap.size w w' := by
  have hl : (s.data.toList.drop i).length = s.size - i := by rw [List.length_drop]; rfl
  have g0 : lat (s.data.toList.drop i) 0 = (s[i]'hi).toNat := lat_get s i 0 hi
  have gk := lat_get s i
  have hb0 := (s[i]'hi).toNat_lt
  generalize hL : s.data.toList.drop i = l at *
  unfold dec
  by_cases a1 : lat l 0 < 128
  · rw [decC_1 _ _ _ _ _ _ _ a1]
    exact mono_dec (dr_1 s i (lat l 0 : Int) w hi hs (by rw [g0]) (by omega) (by omega)) rfl rfl
  by_cases a5 : (128 ≤ lat l 0 ∧ lat l 0 < 194) ∨ 244 < lat l 0
  · rw [decC_5 _ _ _ _ _ _ _ (by omega)]
    rcases a5 with a5 | a5
    · exact mono_dec (dr_5a s i (lat l 0 : Int) w hi hs (by rw [g0]) (by omega) (by omega)) rfl rfl
    · exact mono_dec (dr_5b s i (lat l 0 : Int) w hi hs (by rw [g0]) (by omega) (by omega)) rfl rfl
  by_cases a2 : lat l 0 ≤ 223
  · by_cases z : i + 1 < s.size
    · by_cases k1 : 128 ≤ lat l 1 ∧ lat l 1 ≤ 191
      · rw [lct_yes (by omega) k1, decC_2ok _ _ _ _ _ _ (by omega) k1]
        exact mono_dec (dr_2ok s i (lat l 0 : Int) (lat l 1 : Int) w hi z hs (by rw [g0]) (by rw [gk 1 z]) (by omega) (by omega) (by omega) (by omega)) (by simp only []; omega) rfl
      · rw [lct_no (by omega), decC_2bad _ _ _ _ _ _ (by omega)]
        exact mono_dec (dr_2bad s i (lat l 0 : Int) (lat l 1 : Int) w hi z hs (by rw [g0]) (by rw [gk 1 z]) (by omega) (by omega) (by omega)) rfl rfl
    · rw [lct_no (by omega), decC_2bad _ _ _ _ _ _ (by omega)]
      exact mono_dec (dr_2short s i (lat l 0 : Int) w hi hs (by rw [g0]) (by omega) (by omega) (by omega)) rfl rfl
  by_cases a3 : lat l 0 ≤ 239
  · have bad : ∀ (h : lct l 1 = false ∨ lct l 2 = false ∨ (lat l 0 = 224 ∧ lat l 1 < 160) ∨ (lat l 0 = 237 ∧ 159 < lat l 1)), decC (lat l 0) (lat l 1) (lat l 2) (lat l 3) (lct l 1) (lct l 2) (lct l 3) = (65533, 1) := fun h => decC_3bad _ _ _ _ _ _ _ (by omega) (fun h => lct_bd h) (fun h => lct_bd h) h
    by_cases z : i + 2 < s.size
    · have f1 : ((s[i + 1]'(by omega)).toNat : Int) = (lat l 1 : Int) := by rw [gk 1 (by omega)]
      have f2 : ((s[i + 2]'(by omega)).toNat : Int) = (lat l 2 : Int) := by rw [gk 2 (by omega)]
      by_cases hv : lat l 0 = 224
      · by_cases k1 : lat l 1 < 160
        · rw [bad (bad1 fun q => .inr (by omega))]
          exact mono_dec (dr_3alo s i (lat l 1 : Int) (lat l 2 : Int) w hi z hs (by rw [← g0, hv]; rfl) f1 f2 (by omega)) rfl rfl
        by_cases k2 : 191 < lat l 1
        · rw [bad (bad1 fun q => .inr (by omega))]
          exact mono_dec (dr_3ahi s i (lat l 1 : Int) (lat l 2 : Int) w hi z hs (by rw [← g0, hv]; rfl) f1 f2 (by omega) (by omega)) rfl rfl
        by_cases k3 : 128 ≤ lat l 2 ∧ lat l 2 ≤ 191
        · rw [lct_yes (k := 1) (by omega) (by omega), lct_yes (k := 2) (by omega) k3, decC_3ok _ _ _ _ _ (by omega) (by omega) k3 (by omega) (by omega)]
          exact mono_dec (dr_3aok s i (lat l 1 : Int) (lat l 2 : Int) w hi z hs (by rw [← g0, hv]; rfl) f1 f2 (by omega) (by omega) (by omega) (by omega)) (by simp only []; omega) rfl
        · rw [bad (.inr (.inl (lct_no (by omega))))]
          exact mono_dec (dr_3ac2 s i (lat l 1 : Int) (lat l 2 : Int) w hi z hs (by rw [← g0, hv]; rfl) f1 f2 (by omega) (by omega) (by omega)) rfl rfl
      by_cases hv' : lat l 0 = 237
      · have hv := hv'
        by_cases k1 : lat l 1 < 128
        · rw [bad (bad1 fun q => .inr (by omega))]
          exact mono_dec (dr_3blo s i (lat l 1 : Int) (lat l 2 : Int) w hi z hs (by rw [← g0, hv]; rfl) f1 f2 (by omega)) rfl rfl
        by_cases k2 : 159 < lat l 1
        · rw [bad (bad1 fun q => .inr (by omega))]
          exact mono_dec (dr_3bhi s i (lat l 1 : Int) (lat l 2 : Int) w hi z hs (by rw [← g0, hv]; rfl) f1 f2 (by omega) (by omega)) rfl rfl
        by_cases k3 : 128 ≤ lat l 2 ∧ lat l 2 ≤ 191
        · rw [lct_yes (k := 1) (by omega) (by omega), lct_yes (k := 2) (by omega) k3, decC_3ok _ _ _ _ _ (by omega) (by omega) k3 (by omega) (by omega)]
          exact mono_dec (dr_3bok s i (lat l 1 : Int) (lat l 2 : Int) w hi z hs (by rw [← g0, hv]; rfl) f1 f2 (by omega) (by omega) (by omega) (by omega)) (by simp only []; omega) rfl
        · rw [bad (.inr (.inl (lct_no (by omega))))]
          exact mono_dec (dr_3bc2 s i (lat l 1 : Int) (lat l 2 : Int) w hi z hs (by rw [← g0, hv]; rfl) f1 f2 (by omega) (by omega) (by omega)) rfl rfl
      by_cases k1 : lat l 1 < 128
      · rw [bad (bad1 fun q => .inr (by omega))]
        exact mono_dec (dr_3clo s i (lat l 0 : Int) (lat l 1 : Int) (lat l 2 : Int) w hi z hs (by rw [g0]) f1 f2 (by omega) (by omega) (by omega) (by omega)) rfl rfl
      by_cases k2 : 191 < lat l 1
      · rw [bad (bad1 fun q => .inr (by omega))]
        exact mono_dec (dr_3chi s i (lat l 0 : Int) (lat l 1 : Int) (lat l 2 : Int) w hi z hs (by rw [g0]) f1 f2 (by omega) (by omega) (by omega) (by omega) (by omega)) rfl rfl
      by_cases k3 : 128 ≤ lat l 2 ∧ lat l 2 ≤ 191
      · rw [lct_yes (k := 1) (by omega) (by omega), lct_yes (k := 2) (by omega) k3, decC_3ok _ _ _ _ _ (by omega) (by omega) k3 (by omega) (by omega)]
        exact mono_dec (dr_3cok s i (lat l 0 : Int) (lat l 1 : Int) (lat l 2 : Int) w hi z hs (by rw [g0]) f1 f2 (by omega) (by omega) (by omega) (by omega) (by omega) (by omega) (by omega)) (by simp only []; omega) rfl
      · rw [bad (.inr (.inl (lct_no (by omega))))]
        exact mono_dec (dr_3cc2 s i (lat l 0 : Int) (lat l 1 : Int) (lat l 2 : Int) w hi z hs (by rw [g0]) f1 f2 (by omega) (by omega) (by omega) (by omega) (by omega) (by omega)) rfl rfl
    · rw [bad (.inr (.inl (lct_no (by omega))))]
      by_cases hv : lat l 0 = 224
      · exact mono_dec (dr_3ashort s i w hi hs (by rw [← g0, hv]; rfl) (by omega)) rfl rfl
      by_cases hv' : lat l 0 = 237
      · exact mono_dec (dr_3bshort s i w hi hs (by rw [← g0, hv']; rfl) (by omega)) rfl rfl
      exact mono_dec (dr_3cshort s i (lat l 0 : Int) w hi hs (by rw [g0]) (by omega) (by omega) (by omega) (by omega) ) rfl rfl
  have bad : ∀ (h : lct l 1 = false ∨ lct l 2 = false ∨ lct l 3 = false ∨ (lat l 0 = 240 ∧ lat l 1 < 144) ∨ (lat l 0 = 244 ∧ 143 < lat l 1)), decC (lat l 0) (lat l 1) (lat l 2) (lat l 3) (lct l 1) (lct l 2) (lct l 3) = (65533, 1) := fun h => decC_4bad _ _ _ _ _ _ _ (by omega) (fun h => lct_bd h) (fun h => lct_bd h) (fun h => lct_bd h) h
  by_cases z : i + 3 < s.size
  · have f1 : ((s[i + 1]'(by omega)).toNat : Int) = (lat l 1 : Int) := by rw [gk 1 (by omega)]
    have f2 : ((s[i + 2]'(by omega)).toNat : Int) = (lat l 2 : Int) := by rw [gk 2 (by omega)]
    have f3 : ((s[i + 3]'(by omega)).toNat : Int) = (lat l 3 : Int) := by rw [gk 3 (by omega)]
    by_cases hv : lat l 0 = 240
    · by_cases k1 : lat l 1 < 144
      · rw [bad (bad1 fun q => .inr (.inr (by omega)))]
        exact mono_dec (dr_4alo s i (lat l 1 : Int) (lat l 2 : Int) (lat l 3 : Int) w hi z hs (by rw [← g0, hv]; rfl) f1 f2 f3 (by omega)) rfl rfl
      by_cases k2 : 191 < lat l 1
      · rw [bad (bad1 fun q => .inr (.inr (by omega)))]
        exact mono_dec (dr_4ahi s i (lat l 1 : Int) (lat l 2 : Int) (lat l 3 : Int) w hi z hs (by rw [← g0, hv]; rfl) f1 f2 f3 (by omega) (by omega)) rfl rfl
      by_cases k3 : 128 ≤ lat l 2 ∧ lat l 2 ≤ 191
      · by_cases k4 : 128 ≤ lat l 3 ∧ lat l 3 ≤ 191
        · rw [lct_yes (k := 1) (by omega) (by omega), lct_yes (k := 2) (by omega) k3, lct_yes (k := 3) (by omega) k4, decC_4ok _ _ _ _ (by omega) (by omega) k3 k4 (by omega) (by omega)]
          exact mono_dec (dr_4aok s i (lat l 1 : Int) (lat l 2 : Int) (lat l 3 : Int) w hi z hs (by rw [← g0, hv]; rfl) f1 f2 f3 (by omega) (by omega) (by omega) (by omega) (by omega) (by omega)) (by simp only []; omega) rfl
        · rw [bad (.inr (.inr (.inl (lct_no (by omega)))))]
          exact mono_dec (dr_4ac3 s i (lat l 1 : Int) (lat l 2 : Int) (lat l 3 : Int) w hi z hs (by rw [← g0, hv]; rfl) f1 f2 f3 (by omega) (by omega) (by omega) (by omega) (by omega)) rfl rfl
      · rw [bad (.inr (.inl (lct_no (by omega))))]
        exact mono_dec (dr_4ac2 s i (lat l 1 : Int) (lat l 2 : Int) (lat l 3 : Int) w hi z hs (by rw [← g0, hv]; rfl) f1 f2 f3 (by omega) (by omega) (by omega)) rfl rfl
    by_cases hv' : lat l 0 = 244
    · have hv := hv'
      by_cases k1 : lat l 1 < 128
      · rw [bad (bad1 fun q => .inr (.inr (by omega)))]
        exact mono_dec (dr_4blo s i (lat l 1 : Int) (lat l 2 : Int) (lat l 3 : Int) w hi z hs (by rw [← g0, hv]; rfl) f1 f2 f3 (by omega)) rfl rfl
      by_cases k2 : 143 < lat l 1
      · rw [bad (bad1 fun q => .inr (.inr (by omega)))]
        exact mono_dec (dr_4bhi s i (lat l 1 : Int) (lat l 2 : Int) (lat l 3 : Int) w hi z hs (by rw [← g0, hv]; rfl) f1 f2 f3 (by omega) (by omega)) rfl rfl
      by_cases k3 : 128 ≤ lat l 2 ∧ lat l 2 ≤ 191
      · by_cases k4 : 128 ≤ lat l 3 ∧ lat l 3 ≤ 191
        · rw [lct_yes (k := 1) (by omega) (by omega), lct_yes (k := 2) (by omega) k3, lct_yes (k := 3) (by omega) k4, decC_4ok _ _ _ _ (by omega) (by omega) k3 k4 (by omega) (by omega)]
          exact mono_dec (dr_4bok s i (lat l 1 : Int) (lat l 2 : Int) (lat l 3 : Int) w hi z hs (by rw [← g0, hv]; rfl) f1 f2 f3 (by omega) (by omega) (by omega) (by omega) (by omega) (by omega)) (by simp only []; omega) rfl
        · rw [bad (.inr (.inr (.inl (lct_no (by omega)))))]
          exact mono_dec (dr_4bc3 s i (lat l 1 : Int) (lat l 2 : Int) (lat l 3 : Int) w hi z hs (by rw [← g0, hv]; rfl) f1 f2 f3 (by omega) (by omega) (by omega) (by omega) (by omega)) rfl rfl
      · rw [bad (.inr (.inl (lct_no (by omega))))]
        exact mono_dec (dr_4bc2 s i (lat l 1 : Int) (lat l 2 : Int) (lat l 3 : Int) w hi z hs (by rw [← g0, hv]; rfl) f1 f2 f3 (by omega) (by omega) (by omega)) rfl rfl
    by_cases k1 : lat l 1 < 128
    · rw [bad (bad1 fun q => .inr (.inr (by omega)))]
      exact mono_dec (dr_4clo s i (lat l 0 : Int) (lat l 1 : Int) (lat l 2 : Int) (lat l 3 : Int) w hi z hs (by rw [g0]) f1 f2 f3 (by omega) (by omega) (by omega)) rfl rfl
    by_cases k2 : 191 < lat l 1
    · rw [bad (bad1 fun q => .inr (.inr (by omega)))]
      exact mono_dec (dr_4chi s i (lat l 0 : Int) (lat l 1 : Int) (lat l 2 : Int) (lat l 3 : Int) w hi z hs (by rw [g0]) f1 f2 f3 (by omega) (by omega) (by omega) (by omega)) rfl rfl
    by_cases k3 : 128 ≤ lat l 2 ∧ lat l 2 ≤ 191
    · by_cases k4 : 128 ≤ lat l 3 ∧ lat l 3 ≤ 191
      · rw [lct_yes (k := 1) (by omega) (by omega), lct_yes (k := 2) (by omega) k3, lct_yes (k := 3) (by omega) k4, decC_4ok _ _ _ _ (by omega) (by omega) k3 k4 (by omega) (by omega)]
        exact mono_dec (dr_4cok s i (lat l 0 : Int) (lat l 1 : Int) (lat l 2 : Int) (lat l 3 : Int) w hi z hs (by rw [g0]) f1 f2 f3 (by omega) (by omega) (by omega) (by omega) (by omega) (by omega) (by omega) (by omega)) (by simp only []; omega) rfl
      · rw [bad (.inr (.inr (.inl (lct_no (by omega)))))]
        exact mono_dec (dr_4cc3 s i (lat l 0 : Int) (lat l 1 : Int) (lat l 2 : Int) (lat l 3 : Int) w hi z hs (by rw [g0]) f1 f2 f3 (by omega) (by omega) (by omega) (by omega) (by omega) (by omega) (by omega)) rfl rfl
    · rw [bad (.inr (.inl (lct_no (by omega))))]
      exact mono_dec (dr_4cc2 s i (lat l 0 : Int) (lat l 1 : Int) (lat l 2 : Int) (lat l 3 : Int) w hi z hs (by rw [g0]) f1 f2 f3 (by omega) (by omega) (by omega) (by omega) (by omega)) rfl rfl
  · rw [bad (.inr (.inr (.inl (lct_no (by omega)))))]
    by_cases hv : lat l 0 = 240
    · exact mono_dec (dr_4ashort s i w hi hs (by rw [← g0, hv]; rfl) (by omega)) rfl rfl
    by_cases hv' : lat l 0 = 244
    · exact mono_dec (dr_4bshort s i w hi hs (by rw [← g0, hv']; rfl) (by omega)) rfl rfl
    exact mono_dec (dr_4cshort s i (lat l 0 : Int) w hi hs (by rw [g0]) (by omega) (by omega) (by omega) ) rfl rfl

end Go.Proofs.Qxb6613196a
