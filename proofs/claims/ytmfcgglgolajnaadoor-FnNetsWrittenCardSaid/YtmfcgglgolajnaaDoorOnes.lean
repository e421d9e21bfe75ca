/-
  Plain lemmas: how many ones a mask begins with, -1 if a one comes behind a zero. No program is named here.
-/
import Derived.Test.YtmfcgglgolajnaaDoorCidr
namespace Go.Proofs.YtmfcgglgolajnaaDoor
open Go.RowKit

/-- v with t bits shifted out at its head. -/
def shl8 (v : UInt8) (t : Nat) : Nat := (v.toNat * 2 ^ t) % 256
theorem shl8_lt (v : UInt8) (t : Nat) : shl8 v t < 256 := Nat.mod_lt _ (by omega)
theorem shl8_zero (v : UInt8) : shl8 v 0 = v.toNat := by
  unfold shl8
  have := v.toNat_lt
  omega
theorem shl8_succ (v : UInt8) (t : Nat) : shl8 v (t + 1) = shl8 v t * 2 % 256 := by
  unfold shl8
  rw [Nat.pow_succ, ← Nat.mul_assoc]
  omega
theorem shl8_bit (v : UInt8) (t i : Nat) (hi : i < 8) : (shl8 v t).testBit i = (decide (t ≤ i) && v.toNat.testBit (i - t)) := by
  unfold shl8
  rw [show (256 : Nat) = 2 ^ 8 by rfl, Nat.testBit_mod_two_pow, ← Nat.shiftLeft_eq, Nat.testBit_shiftLeft, decide_eq_true hi, Bool.true_and]
theorem top_bit {x : Nat} (h : x < 256) : (bits .and .u8 (x : Int) 128 != 0) = x.testBit 7 := by
  have key : ∀ y : Fin 256, (bits .and .u8 (y.val : Int) 128 != 0) = y.val.testBit 7 := by decide +kernel
  exact key ⟨x, h⟩
theorem some_bit {x : Nat} (h : x < 256) (h0 : x ≠ 0) : ∃ i, i < 8 ∧ x.testBit i = true := by
  obtain ⟨i, hi⟩ := Nat.exists_testBit_of_ne_zero h0
  refine ⟨i, ?_, hi⟩
  rcases Nat.lt_or_ge i 8 with h8 | h8
  · exact h8
  · rw [Nat.testBit_lt_two_pow (Nat.lt_of_lt_of_le h (Nat.pow_le_pow_right (by omega) h8 : 2 ^ 8 ≤ 2 ^ i))] at hi
    cases hi

/-- How many ones bytes begin with. -/
def leadOnes (bs : List UInt8) : Nat := ((List.range (8 * bs.length)).takeWhile (bitAt bs)).length
/-- .. or -1, if a one comes behind a zero. -/
def onesOf (bs : List UInt8) : Int := if (List.range (8 * bs.length)).all (fun j => decide (j < leadOnes bs) || !bitAt bs j) then (leadOnes bs : Int) else -1

theorem takeWhile_range {p : Nat → Bool} {n k : Nat} (hk : k ≤ n) (h1 : ∀ j, j < k → p j = true) (h2 : k < n → p k = false) : ((List.range n).takeWhile p).length = k := by
  have e : List.range n = List.range k ++ (List.range (n - k)).map (k + ·) := by
    have := @List.range_add k (n - k)
    rwa [show k + (n - k) = n by omega] at this
  rw [e, List.takeWhile_append_of_pos (fun a ha => h1 a (List.mem_range.1 ha)), List.length_append, List.length_range]
  rcases Nat.lt_or_ge k n with hlt | hge
  · obtain ⟨m, hm⟩ : ∃ m, n - k = m + 1 := ⟨n - k - 1, by omega⟩
    rw [hm, List.range_succ_eq_map, List.map_cons, List.takeWhile_cons, Nat.add_zero, h2 hlt]
    simp
  · rw [show n - k = 0 by omega]
    simp
theorem ones_yes {bs : List UInt8} {k : Nat} (hk : k ≤ 8 * bs.length) (h1 : ∀ j, j < k → bitAt bs j = true) (h2 : ∀ j, k ≤ j → j < 8 * bs.length → bitAt bs j = false) : onesOf bs = (k : Int) := by
  have hl : leadOnes bs = k := takeWhile_range hk h1 (fun h => h2 k (Nat.le_refl _) h)
  unfold onesOf
  rw [hl, if_pos]
  rw [List.all_eq_true]
  intro j hj
  by_cases hjk : j < k
  · simp [hjk]
  · simp [h2 j (by omega) (List.mem_range.1 hj)]
theorem ones_no {bs : List UInt8} {p q : Nat} (hpq : p < q) (hq : q < 8 * bs.length) (h1 : bitAt bs p = false) (h2 : bitAt bs q = true) : onesOf bs = -1 := by
  have hl : leadOnes bs ≤ p := by
    unfold leadOnes
    have e : List.range (8 * bs.length) = List.range p ++ (List.range (8 * bs.length - p)).map (p + ·) := by
      have := @List.range_add p (8 * bs.length - p)
      rwa [show p + (8 * bs.length - p) = 8 * bs.length by omega] at this
    obtain ⟨m, hm⟩ : ∃ m, 8 * bs.length - p = m + 1 := ⟨8 * bs.length - p - 1, by omega⟩
    rw [e, hm, List.range_succ_eq_map, List.map_cons, Nat.add_zero]
    rw [List.takeWhile_append]
    split
    · rw [List.takeWhile_cons, h1]
      simp
    · refine Nat.le_trans (List.takeWhile_sublist _).length_le ?_
      simp
  unfold onesOf
  rw [if_neg]
  intro h
  have := List.all_eq_true.1 h q (List.mem_range.2 hq)
  simp [h2] at this
  omega

/-- A mask of ones and then zeros has as many ones as it has. -/
theorem cidr_bit {n k j : Nat} (hj : j < 8 * n) : bitAt (cidr n k) j = decide (j < k) := by
  have e : j = 8 * (j / 8) + j % 8 := by omega
  rw [e, bitAt_of (cidr_at (show j / 8 < n by omega)) _ (by omega), byteMask_bit _ _ (by omega), ← e]
  rw [decide_eq_decide]
  omega
theorem ones_cidr {n k : Nat} (hk : k ≤ 8 * n) : onesOf (cidr n k) = (k : Int) := by
  refine ones_yes (by rw [cidr_length]; exact hk) (fun j hj => ?_) (fun j hkj hj => ?_)
  · rw [cidr_bit (by omega)]; simpa using hj
  · rw [cidr_length] at hj
    rw [cidr_bit hj]; simpa using hkj
theorem ones_range (bs : List UInt8) : -1 ≤ onesOf bs ∧ onesOf bs ≤ 8 * (bs.length : Int) := by
  unfold onesOf
  split
  · have h1 : leadOnes bs ≤ (List.range (8 * bs.length)).length := (List.takeWhile_sublist _).length_le
    rw [List.length_range] at h1
    omega
  · omega

/-! What the rounds of the count say -/
theorem bits_full {bs : List UInt8} {k : Nat} (hb : ∀ j, j < 8 * k → bitAt bs j = true) (hv : bs[k]? = some 255) : ∀ j, j < 8 * (k + 1) → bitAt bs j = true := by
  intro j hj
  by_cases h : j < 8 * k
  · exact hb j h
  · have e : j = 8 * k + (j - 8 * k) := by omega
    rw [e, bitAt_of hv _ (by omega)]
    have : j - 8 * k = 0 ∨ j - 8 * k = 1 ∨ j - 8 * k = 2 ∨ j - 8 * k = 3 ∨ j - 8 * k = 4 ∨ j - 8 * k = 5 ∨ j - 8 * k = 6 ∨ j - 8 * k = 7 := by omega
    rcases this with h | h | h | h | h | h | h | h <;> rw [h] <;> decide
theorem bits_step {bs : List UInt8} {k t : Nat} {v : UInt8} (hb : ∀ j, j < 8 * k + t → bitAt bs j = true) (hv : bs[k]? = some v) (ht : t ≤ 8) (h : (shl8 v t).testBit 7 = true) : t < 8 ∧ ∀ j, j < 8 * k + (t + 1) → bitAt bs j = true := by
  rw [shl8_bit v t 7 (by omega)] at h
  simp at h
  refine ⟨by omega, fun j hj => ?_⟩
  by_cases hlt : j < 8 * k + t
  · exact hb j hlt
  · rw [show j = 8 * k + t by omega, bitAt_of hv t (by omega)]
    exact h.2
theorem bits_stop {bs : List UInt8} {k t : Nat} {v : UInt8} (hb : ∀ j, j < 8 * k + t → bitAt bs j = true) (hv : bs[k]? = some v) (h255 : v ≠ 255) (ht : t ≤ 8) (h : (shl8 v t).testBit 7 = false) : t < 8 ∧ bitAt bs (8 * k + t) = false := by
  have ht8 : t < 8 := by
    rcases Nat.lt_or_ge t 8 with h8 | h8
    · exact h8
    · exfalso
      apply h255
      apply u8_bits
      intro s hs
      rw [← bitAt_of hv s hs, hb _ (by omega)]
      have : s = 0 ∨ s = 1 ∨ s = 2 ∨ s = 3 ∨ s = 4 ∨ s = 5 ∨ s = 6 ∨ s = 7 := by omega
      rcases this with rfl | rfl | rfl | rfl | rfl | rfl | rfl | rfl <;> decide
  refine ⟨ht8, ?_⟩
  rw [shl8_bit v t 7 (by omega), decide_eq_true (by omega), Bool.true_and] at h
  rw [bitAt_of hv t ht8]
  exact h
theorem ones_left {bs : List UInt8} {k t : Nat} {v : UInt8} (hv : bs[k]? = some v) (ht : t < 8) (h0 : bitAt bs (8 * k + t) = false) (hx : shl8 v t ≠ 0) : onesOf bs = -1 := by
  have hk : k < bs.length := (List.getElem?_eq_some_iff.1 hv).1
  obtain ⟨i, hi, hb⟩ := some_bit (shl8_lt v t) hx
  rw [shl8_bit v t i hi] at hb
  simp at hb
  have hbit : bitAt bs (8 * k + (7 - (i - t))) = true := by
    rw [bitAt_of hv _ (by omega), show 7 - (7 - (i - t)) = i - t by omega]
    exact hb.2
  refine ones_no (p := 8 * k + t) (q := 8 * k + (7 - (i - t))) ?_ (by omega) h0 hbit
  rcases Nat.lt_or_ge t (7 - (i - t)) with h | h
  · omega
  · exfalso
    rw [show 7 - (i - t) = t by omega, h0] at hbit
    cases hbit
/-- A byte behind that is not 0. -/
theorem ones_behind {bs : List UInt8} {p i : Nat} {v : UInt8} (hp : p < 8 * i) (h0 : bitAt bs p = false) (hv : bs[i]? = some v) (hx : v ≠ 0) : onesOf bs = -1 := by
  have hi : i < bs.length := (List.getElem?_eq_some_iff.1 hv).1
  obtain ⟨s, hs, hb⟩ := some_bit v.toNat_lt (fun h => hx (UInt8.toNat_inj.1 h))
  refine ones_no (p := p) (q := 8 * i + (7 - s)) (by omega) (by omega) h0 ?_
  rw [bitAt_of hv _ (by omega), show 7 - (7 - s) = s by omega]
  exact hb
/-- Nothing but zeros behind. -/
theorem ones_end {bs : List UInt8} {k t : Nat} {v : UInt8} (hb : ∀ j, j < 8 * k + t → bitAt bs j = true) (hv : bs[k]? = some v) (ht : t < 8) (hx : shl8 v t = 0) (hz : ∀ i, k < i → i < bs.length → bs[i]? = some 0) : onesOf bs = ((8 * k + t : Nat) : Int) := by
  have hk : k < bs.length := (List.getElem?_eq_some_iff.1 hv).1
  refine ones_yes (by omega) hb (fun j hj hjl => ?_)
  by_cases hjk : j < 8 * (k + 1)
  · rw [show j = 8 * k + (j - 8 * k) by omega, bitAt_of hv _ (by omega)]
    have h1 := shl8_bit v t (7 - (j - 8 * k) + t) (by omega)
    rw [hx, Nat.zero_testBit, decide_eq_true (by omega), Bool.true_and, show 7 - (j - 8 * k) + t - t = 7 - (j - 8 * k) by omega] at h1
    exact h1.symm
  · rw [show j = 8 * (j / 8) + j % 8 by omega, bitAt_of (hz (j / 8) (by omega) (by omega)) _ (by omega)]
    exact Nat.zero_testBit _
end Go.Proofs.YtmfcgglgolajnaaDoor
