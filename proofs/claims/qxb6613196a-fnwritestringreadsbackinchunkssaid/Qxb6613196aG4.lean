import Derived.Test.Qxb6613196aPlain
namespace Go.Proofs.Qxb6613196a

theorem decC_1 (b0 b1 b2 b3 : Nat) (c1 c2 c3 : Bool) (h : b0 < 128) : decC b0 b1 b2 b3 c1 c2 c3 = (b0, 1) := by
  unfold decC
  rw [if_pos h]
theorem decC_2ok (b0 b1 b2 b3 : Nat) (c2 c3 : Bool) (h : 194 ≤ b0 ∧ b0 ≤ 223) (h1 : 128 ≤ b1 ∧ b1 ≤ 191) : decC b0 b1 b2 b3 true c2 c3 = ((b0 - 192) * 64 + (b1 - 128), 2) := by
  have e0 : b0 % 32 = b0 - 192 := by omega
  have e1 : b1 % 64 = b1 - 128 := by omega
  unfold decC
  rw [if_neg (by omega), if_pos (by simp; omega), e0, e1, if_pos (by omega)]
theorem decC_2bad (b0 b1 b2 b3 : Nat) (c2 c3 : Bool) (h : 194 ≤ b0 ∧ b0 ≤ 223) : decC b0 b1 b2 b3 false c2 c3 = (65533, 1) := by
  unfold decC
  rw [if_neg (by omega), if_neg (by simp), if_neg (by simp), if_neg (by simp)]
theorem decC_3ok (b0 b1 b2 b3 : Nat) (c3 : Bool) (h : 224 ≤ b0 ∧ b0 ≤ 239) (h1 : 128 ≤ b1 ∧ b1 ≤ 191) (h2 : 128 ≤ b2 ∧ b2 ≤ 191) (ha : b0 = 224 → 160 ≤ b1) (hb : b0 = 237 → b1 ≤ 159) :
    decC b0 b1 b2 b3 true true c3 = ((b0 - 224) * 4096 + (b1 - 128) * 64 + (b2 - 128), 3) := by
  have e0 : b0 % 16 = b0 - 224 := by omega
  have e1 : b1 % 64 = b1 - 128 := by omega
  have e2 : b2 % 64 = b2 - 128 := by omega
  unfold decC
  rw [if_neg (by omega), if_neg (by simp; omega), if_pos (by simp; omega), e0, e1, e2, if_pos (by simp [Utf8.valid]; omega)]
theorem decC_3bad (b0 b1 b2 b3 : Nat) (c1 c2 c3 : Bool) (h : 224 ≤ b0 ∧ b0 ≤ 239) (h1 : c1 = true → 128 ≤ b1 ∧ b1 ≤ 191) (h2 : c2 = true → 128 ≤ b2 ∧ b2 ≤ 191) (hbad : c1 = false ∨ c2 = false ∨ (b0 = 224 ∧ b1 < 160) ∨ (b0 = 237 ∧ 159 < b1)) :
    decC b0 b1 b2 b3 c1 c2 c3 = (65533, 1) := by
  have e0 : b0 % 16 = b0 - 224 := by omega
  have n2 : (b0 / 32 == 6) = false := by simp; omega
  have n4 : (b0 / 8 == 30) = false := by simp; omega
  unfold decC
  rw [if_neg (by omega), n2, if_neg (by simp)]
  cases c1
  · rw [if_neg (by simp), if_neg (by simp)]
  · cases c2
    · rw [if_neg (by simp), if_neg (by simp)]
    · have g1 := h1 rfl
      have g2 := h2 rfl
      have hbad2 : (b0 = 224 ∧ b1 < 160) ∨ (b0 = 237 ∧ 159 < b1) := by simpa using hbad
      have e1 : b1 % 64 = b1 - 128 := by omega
      have e2 : b2 % 64 = b2 - 128 := by omega
      rw [if_pos (by simp; omega), e0, e1, e2, if_neg (by simp [Utf8.valid]; omega)]
theorem decC_4ok (b0 b1 b2 b3 : Nat) (h : 240 ≤ b0 ∧ b0 ≤ 244) (h1 : 128 ≤ b1 ∧ b1 ≤ 191) (h2 : 128 ≤ b2 ∧ b2 ≤ 191) (h3 : 128 ≤ b3 ∧ b3 ≤ 191) (ha : b0 = 240 → 144 ≤ b1) (hb : b0 = 244 → b1 ≤ 143) :
    decC b0 b1 b2 b3 true true true = ((b0 - 240) * 262144 + (b1 - 128) * 4096 + (b2 - 128) * 64 + (b3 - 128), 4) := by
  have e0 : b0 % 8 = b0 - 240 := by omega
  have e1 : b1 % 64 = b1 - 128 := by omega
  have e2 : b2 % 64 = b2 - 128 := by omega
  have e3 : b3 % 64 = b3 - 128 := by omega
  unfold decC
  rw [if_neg (by omega), if_neg (by simp; omega), if_neg (by simp; omega), if_pos (by simp; omega), e0, e1, e2, e3, if_pos (by simp [Utf8.valid]; omega)]
theorem decC_4bad (b0 b1 b2 b3 : Nat) (c1 c2 c3 : Bool) (h : 240 ≤ b0 ∧ b0 ≤ 244) (h1 : c1 = true → 128 ≤ b1 ∧ b1 ≤ 191) (h2 : c2 = true → 128 ≤ b2 ∧ b2 ≤ 191) (h3 : c3 = true → 128 ≤ b3 ∧ b3 ≤ 191)
    (hbad : c1 = false ∨ c2 = false ∨ c3 = false ∨ (b0 = 240 ∧ b1 < 144) ∨ (b0 = 244 ∧ 143 < b1)) : decC b0 b1 b2 b3 c1 c2 c3 = (65533, 1) := by
  have e0 : b0 % 8 = b0 - 240 := by omega
  have n2 : (b0 / 32 == 6) = false := by simp; omega
  have n3 : (b0 / 16 == 14) = false := by simp; omega
  unfold decC
  rw [if_neg (by omega), n2, n3, if_neg (by simp), if_neg (by simp)]
  cases c1
  · rw [if_neg (by simp)]
  · cases c2
    · rw [if_neg (by simp)]
    · cases c3
      · rw [if_neg (by simp)]
      · have g1 := h1 rfl
        have g2 := h2 rfl
        have g3 := h3 rfl
        have hbad2 : (b0 = 240 ∧ b1 < 144) ∨ (b0 = 244 ∧ 143 < b1) := by simpa using hbad
        have e1 : b1 % 64 = b1 - 128 := by omega
        have e2 : b2 % 64 = b2 - 128 := by omega
        have e3 : b3 % 64 = b3 - 128 := by omega
        rw [if_pos (by simp; omega), e0, e1, e2, e3, if_neg (by simp [Utf8.valid]; omega)]
theorem decC_5 (b0 b1 b2 b3 : Nat) (c1 c2 c3 : Bool) (h : (128 ≤ b0 ∧ b0 < 194) ∨ (244 < b0 ∧ b0 ≤ 255)) : decC b0 b1 b2 b3 c1 c2 c3 = (65533, 1) := by
  have n3 : (b0 / 16 == 14) = false := by simp; omega
  unfold decC
  rw [if_neg (by omega), n3]
  have hb1 : b1 % 64 < 64 := Nat.mod_lt _ (by decide)
  have hb2 : b2 % 64 < 64 := Nat.mod_lt _ (by decide)
  have hb3 : b3 % 64 < 64 := Nat.mod_lt _ (by decide)
  split
  · rename_i hc
    rw [if_neg]
    have : b0 / 32 = 6 := by simp at hc; exact hc.1
    omega
  · rw [if_neg (by simp)]
    split
    · rename_i hc
      rw [if_neg]
      have : b0 / 8 = 30 := by simp at hc; exact hc.1.1.1
      simp [Utf8.valid]
      omega
    · rfl

theorem lct_iff (l : List UInt8) (k : Nat) : lct l k = true ↔ k < l.length ∧ 128 ≤ lat l k ∧ lat l k ≤ 191 := by
  unfold lct
  simp
  intro _
  omega
theorem lct_no {l : List UInt8} {k : Nat} (h : ¬ (k < l.length ∧ 128 ≤ lat l k ∧ lat l k ≤ 191)) : lct l k = false := by
  cases hc : lct l k
  · rfl
  · exact absurd ((lct_iff l k).1 hc) h
theorem lct_yes {l : List UInt8} {k : Nat} (h0 : k < l.length) (h : 128 ≤ lat l k ∧ lat l k ≤ 191) : lct l k = true := (lct_iff l k).2 ⟨h0, h⟩
theorem lct_bd {l : List UInt8} {k : Nat} (h : lct l k = true) : 128 ≤ lat l k ∧ lat l k ≤ 191 := ((lct_iff l k).1 h).2

end Go.Proofs.Qxb6613196a
