/-
  The value of four bytes; blocks of addresses as ranges of numbers. No program is named here.
-/
import Derived.Test.YtknajppjgdhbfaaDoorFillL
namespace Go.Proofs.YtknajppjgdhbfaaDoor

/-- The value of bytes. -/
def valOf (b : List UInt8) : Nat := b.foldl (fun v x => v * 256 + x.toNat) 0
theorem val4 (x0 x1 x2 x3 : UInt8) : valOf [x0, x1, x2, x3] = 2 ^ 24 * x0.toNat + (2 ^ 16 * x1.toNat + (2 ^ 8 * x2.toNat + x3.toNat)) := by
  unfold valOf; simp; omega
theorem four_of {b : List UInt8} (h : b.length = 4) : ∃ x0 x1 x2 x3, b = [x0, x1, x2, x3] := by
  match b, h with
  | [x0, x1, x2, x3], _ => exact ⟨x0, x1, x2, x3, rfl⟩
theorem valOf_lt {b : List UInt8} (h : b.length = 4) : valOf b < 2 ^ 32 := by
  obtain ⟨x0, x1, x2, x3, rfl⟩ := four_of h
  rw [val4]
  have := x0.toNat_lt; have := x1.toNat_lt; have := x2.toNat_lt; have := x3.toNat_lt
  omega
theorem valOf_bit {b : List UInt8} (h : b.length = 4) {i : Nat} (hi : i < 32) : (valOf b).testBit i = bitAt b (31 - i) := by
  obtain ⟨x0, x1, x2, x3, rfl⟩ := four_of h
  have h0 := x0.toNat_lt
  have h1 := x1.toNat_lt
  have h2 := x2.toNat_lt
  have h3 := x3.toNat_lt
  have b3 : x3.toNat < 2 ^ 8 := by omega
  have b2 : 2 ^ 8 * x2.toNat + x3.toNat < 2 ^ 16 := by omega
  have b1 : 2 ^ 16 * x1.toNat + (2 ^ 8 * x2.toNat + x3.toNat) < 2 ^ 24 := by omega
  rw [val4, Nat.testBit_two_pow_mul_add _ b1, Nat.testBit_two_pow_mul_add _ b2, Nat.testBit_two_pow_mul_add _ b3]
  unfold bitAt
  by_cases c1 : i < 8
  · rw [if_pos (by omega), if_pos (by omega), if_pos c1, show (31 - i) / 8 = 3 by omega, show 7 - (31 - i) % 8 = i by omega]
    rfl
  · by_cases c2 : i < 16
    · rw [if_pos (by omega), if_pos (by omega), if_neg c1, show (31 - i) / 8 = 2 by omega, show 7 - (31 - i) % 8 = i - 8 by omega]
      rfl
    · by_cases c3 : i < 24
      · rw [if_pos (by omega), if_neg c2, show (31 - i) / 8 = 1 by omega, show 7 - (31 - i) % 8 = i - 16 by omega]
        rfl
      · rw [if_neg c3, show (31 - i) / 8 = 0 by omega, show 7 - (31 - i) % 8 = i - 24 by omega]
        rfl
theorem testBit_hi {v i : Nat} (hv : v < 2 ^ 32) (hi : 32 ≤ i) : v.testBit i = false :=
  Nat.testBit_lt_two_pow (Nat.lt_of_lt_of_le hv (Nat.pow_le_pow_right (by omega) hi))
theorem valOf_inj {a b : List UInt8} (ha : a.length = 4) (hb : b.length = 4) (h : valOf a = valOf b) : a = b := by
  apply bits_ext (by omega)
  intro j hj
  have e1 := valOf_bit ha (i := 31 - j) (by omega)
  have e2 := valOf_bit hb (i := 31 - j) (by omega)
  rw [show 31 - (31 - j) = j by omega] at e1 e2
  rw [← e1, ← e2, h]
theorem same_val {a b : List UInt8} (ha : a.length = 4) (hb : b.length = 4) : eqL a b = decide (valOf a = valOf b) := by
  by_cases h : a = b
  · subst h; rw [eqL_iff.2 rfl]; simp
  · rw [decide_eq_false (fun e => h (valOf_inj ha hb e))]
    unfold eqL; exact decide_eq_false h

theorem inNet_val {a b : List UInt8} {n : Nat} (hn : n ≤ 32) (ha : a.length = 4) (hb : b.length = 4) : inNet a (cidr 4 n) b = decide (valOf a / 2 ^ (32 - n) = valOf b / 2 ^ (32 - n)) := by
  rw [Bool.eq_iff_iff, inNet_cidr n ha hb, decide_eq_true_iff]
  constructor
  · intro h
    apply Nat.eq_of_testBit_eq
    intro i
    rw [Nat.testBit_div_two_pow, Nat.testBit_div_two_pow]
    by_cases hi : 32 ≤ i + (32 - n)
    · rw [testBit_hi (valOf_lt ha) hi, testBit_hi (valOf_lt hb) hi]
    · rw [valOf_bit ha (by omega), valOf_bit hb (by omega)]
      exact h _ (by omega) (by omega)
  · intro h j hj hk
    have e := congrArg (fun v => v.testBit (n - 1 - j)) h
    simp only [Nat.testBit_div_two_pow] at e
    rw [valOf_bit ha (by omega), valOf_bit hb (by omega)] at e
    rw [show 31 - (n - 1 - j + (32 - n)) = j by omega] at e
    exact e

theorem filled_lo {b : List UInt8} {n : Nat} (hn : n ≤ 32) (hb : b.length = 4) : valOf (filledL b n false) = valOf b / 2 ^ (32 - n) * 2 ^ (32 - n) := by
  have hl : (filledL b n false).length = 4 := by rw [filledL_length, hb]
  have hle : valOf b / 2 ^ (32 - n) * 2 ^ (32 - n) < 2 ^ 32 := Nat.lt_of_le_of_lt (Nat.div_mul_le_self _ _) (valOf_lt hb)
  apply Nat.eq_of_testBit_eq
  intro i
  by_cases hi : 32 ≤ i
  · rw [testBit_hi (valOf_lt hl) hi, testBit_hi hle hi]
  · rw [valOf_bit hl (by omega), bitAt_filledL _ _ _ _ (by omega), Nat.mul_comm, Nat.testBit_two_pow_mul, Nat.testBit_div_two_pow]
    by_cases h : n ≤ 31 - i
    · rw [if_pos h, decide_eq_false (by omega)]; rfl
    · rw [if_neg h, decide_eq_true (by omega), show i - (32 - n) + (32 - n) = i by omega, valOf_bit hb (by omega)]; rfl
theorem filled_hi {b : List UInt8} {n : Nat} (hn : n ≤ 32) (hb : b.length = 4) : valOf (filledL b n true) = valOf b / 2 ^ (32 - n) * 2 ^ (32 - n) + (2 ^ (32 - n) - 1) := by
  have hl : (filledL b n true).length = 4 := by rw [filledL_length, hb]
  have hp : 0 < 2 ^ (32 - n) := Nat.pow_pos (by omega)
  have hq : valOf b / 2 ^ (32 - n) < 2 ^ n := by
    rw [Nat.div_lt_iff_lt_mul hp, ← Nat.pow_add, show n + (32 - n) = 32 by omega]
    exact valOf_lt hb
  have hle : valOf b / 2 ^ (32 - n) * 2 ^ (32 - n) + (2 ^ (32 - n) - 1) < 2 ^ 32 := by
    have h1 : (valOf b / 2 ^ (32 - n) + 1) * 2 ^ (32 - n) ≤ 2 ^ n * 2 ^ (32 - n) := Nat.mul_le_mul_right _ hq
    rw [← Nat.pow_add, show n + (32 - n) = 32 by omega, Nat.add_mul, Nat.one_mul] at h1
    omega
  apply Nat.eq_of_testBit_eq
  intro i
  by_cases hi : 32 ≤ i
  · rw [testBit_hi (valOf_lt hl) hi, testBit_hi hle hi]
  · rw [valOf_bit hl (by omega), bitAt_filledL _ _ _ _ (by omega), Nat.mul_comm, Nat.testBit_two_pow_mul_add _ (by omega), Nat.testBit_two_pow_sub_one, Nat.testBit_div_two_pow]
    by_cases h : n ≤ 31 - i
    · rw [if_pos h, if_pos (by omega), decide_eq_true (by omega)]
    · rw [if_neg h, if_neg (by omega), show i - (32 - n) + (32 - n) = i by omega, valOf_bit hb (by omega)]

/-- The first difference decides. -/
def earlierL : List UInt8 → List UInt8 → Bool
  | x :: xs, y :: ys => if x = y then earlierL xs ys else decide (x.toNat < y.toNat)
  | _, _ => false
theorem earlier_val {a b : List UInt8} (ha : a.length = 4) (hb : b.length = 4) : earlierL a b = decide (valOf a < valOf b) := by
  obtain ⟨x0, x1, x2, x3, rfl⟩ := four_of ha
  obtain ⟨y0, y1, y2, y3, rfl⟩ := four_of hb
  rw [val4, val4]
  have := x0.toNat_lt; have := x1.toNat_lt; have := x2.toNat_lt; have := x3.toNat_lt
  have := y0.toNat_lt; have := y1.toNat_lt; have := y2.toNat_lt; have := y3.toNat_lt
  have ne : ∀ {x y : UInt8}, x ≠ y → x.toNat ≠ y.toNat := fun h e => h (UInt8.toNat_inj.1 e)
  simp only [earlierL]
  rw [Bool.eq_iff_iff]
  by_cases e0 : x0 = y0
  · subst e0
    by_cases e1 : x1 = y1
    · subst e1
      by_cases e2 : x2 = y2
      · subst e2
        by_cases e3 : x3 = y3
        · subst e3; simp
        · simp only [if_true, if_neg e3, decide_eq_true_iff]; omega
      · have := ne e2; simp only [if_true, if_neg e2, decide_eq_true_iff]; omega
    · have := ne e1; simp only [if_true, if_neg e1, decide_eq_true_iff]; omega
  · have := ne e0; simp only [if_neg e0, decide_eq_true_iff]; omega
theorem earlierL_skip {a b : List UInt8} {k : Nat} (h : a.take k = b.take k) : earlierL a b = earlierL (a.drop k) (b.drop k) := by
  induction k generalizing a b with
  | zero => rfl
  | succ k ih =>
    match a, b with
    | [], [] => rfl
    | [], y :: ys => simp at h
    | x :: xs, [] => simp at h
    | x :: xs, y :: ys =>
      simp at h
      obtain ⟨rfl, h⟩ := h
      simp only [earlierL, if_true, List.drop_succ_cons]
      exact ih h
theorem earlierL_at {a b : List UInt8} {k : Nat} {x y : UInt8} (h : a.take k = b.take k) (hx : a[k]? = some x) (hy : b[k]? = some y) (hn : x ≠ y) : earlierL a b = decide (x.toNat < y.toNat) := by
  rw [earlierL_skip h]
  have e1 : a.drop k = x :: a.drop (k + 1) := by
    have := (List.getElem?_eq_some_iff.1 hx)
    obtain ⟨h1, rfl⟩ := this
    exact (List.getElem_cons_drop h1).symm
  have e2 : b.drop k = y :: b.drop (k + 1) := by
    obtain ⟨h1, rfl⟩ := (List.getElem?_eq_some_iff.1 hy)
    exact (List.getElem_cons_drop h1).symm
  rw [e1, e2]
  simp only [earlierL, if_neg hn]
theorem earlierL_end {a b : List UInt8} {k : Nat} (h : a.take k = b.take k) (hk : a.length ≤ k ∨ b.length ≤ k) : earlierL a b = false := by
  rw [earlierL_skip h]
  rcases hk with hk | hk
  · rw [List.drop_of_length_le hk]; rfl
  · rw [List.drop_of_length_le hk]
    cases a.drop k <;> rfl
end Go.Proofs.YtknajppjgdhbfaaDoor
