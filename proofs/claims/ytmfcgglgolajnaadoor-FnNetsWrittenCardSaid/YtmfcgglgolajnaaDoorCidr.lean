/-
  Plain lemmas on masks of ones and then zeros, and the bits of addresses. No program is named here.
-/
import Derived.Test.YtmfcgglgolajnaaDoorMA
namespace Go.Proofs.YtmfcgglgolajnaaDoor
open Go.RowKit

/-- A byte with r ones first (r of 8 or more: all ones). -/
def byteMask (r : Nat) : UInt8 := if 8 ≤ r then 255 else UInt8.ofNat (255 - 255 / 2 ^ r)
/-- The mask of n bytes with k ones. -/
def cidr (n k : Nat) : List UInt8 := (List.range n).map fun i => byteMask (k - 8 * i)
/-- Bit j of bytes, the first one being bit 0. -/
def bitAt (b : List UInt8) (j : Nat) : Bool := (b.getD (j / 8) 0).toNat.testBit (7 - j % 8)

theorem cidr_length (n k : Nat) : (cidr n k).length = n := by unfold cidr; simp
theorem cidr_at {n k i : Nat} (h : i < n) : (cidr n k)[i]? = some (byteMask (k - 8 * i)) := by
  unfold cidr; rw [List.getElem?_map, List.getElem?_range h]; rfl

theorem byteMask_bit (r t : Nat) (ht : t < 8) : (byteMask r).toNat.testBit (7 - t) = decide (t < r) := by
  by_cases hr : 8 ≤ r
  · have e : byteMask r = 255 := by unfold byteMask; rw [if_pos hr]
    rw [e, decide_eq_true (by omega)]
    have : t = 0 ∨ t = 1 ∨ t = 2 ∨ t = 3 ∨ t = 4 ∨ t = 5 ∨ t = 6 ∨ t = 7 := by omega
    rcases this with rfl | rfl | rfl | rfl | rfl | rfl | rfl | rfl <;> decide
  · have hr8 : r = 0 ∨ r = 1 ∨ r = 2 ∨ r = 3 ∨ r = 4 ∨ r = 5 ∨ r = 6 ∨ r = 7 := by omega
    have : t = 0 ∨ t = 1 ∨ t = 2 ∨ t = 3 ∨ t = 4 ∨ t = 5 ∨ t = 6 ∨ t = 7 := by omega
    rcases hr8 with rfl | rfl | rfl | rfl | rfl | rfl | rfl | rfl <;> rcases this with rfl | rfl | rfl | rfl | rfl | rfl | rfl | rfl <;> decide

theorem u8_bits {x y : UInt8} (h : ∀ t, t < 8 → x.toNat.testBit (7 - t) = y.toNat.testBit (7 - t)) : x = y := by
  apply UInt8.toNat_inj.1
  apply Nat.eq_of_testBit_eq
  intro i
  by_cases hi : i < 8
  · have := h (7 - i) (by omega)
    rwa [show 7 - (7 - i) = i by omega] at this
  · have hx : x.toNat < 2 ^ i := Nat.lt_of_lt_of_le x.toNat_lt (Nat.pow_le_pow_right (by omega) (by omega : 8 ≤ i))
    have hy : y.toNat < 2 ^ i := Nat.lt_of_lt_of_le y.toNat_lt (Nat.pow_le_pow_right (by omega) (by omega : 8 ≤ i))
    rw [Nat.testBit_lt_two_pow hx, Nat.testBit_lt_two_pow hy]

theorem and_byteMask (x y : UInt8) (r : Nat) : x &&& byteMask r = y &&& byteMask r ↔ ∀ t, t < 8 → t < r → x.toNat.testBit (7 - t) = y.toNat.testBit (7 - t) := by
  constructor
  · intro h t ht hr
    have := congrArg (fun z : UInt8 => z.toNat.testBit (7 - t)) h
    simp only [UInt8.toNat_and, Nat.testBit_and, byteMask_bit r t ht, decide_eq_true hr, Bool.and_true] at this
    exact this
  · intro h
    apply u8_bits
    intro t ht
    simp only [UInt8.toNat_and, Nat.testBit_and, byteMask_bit r t ht]
    by_cases hr : t < r
    · rw [h t ht hr]
    · rw [decide_eq_false hr, Bool.and_false, Bool.and_false]

theorem bitAt_of {b : List UInt8} {i : Nat} {x : UInt8} (hx : b[i]? = some x) (t : Nat) (ht : t < 8) : bitAt b (8 * i + t) = x.toNat.testBit (7 - t) := by
  unfold bitAt
  rw [show (8 * i + t) / 8 = i by omega, show (8 * i + t) % 8 = t by omega, List.getD, hx]
  rfl

/-- A network with a mask of k ones contains what has its first k bits. -/
theorem inNet_cidr {a b : List UInt8} {n : Nat} (k : Nat) (ha : a.length = n) (hb : b.length = n) : inNet a (cidr n k) b = true ↔ ∀ j, j < 8 * n → j < k → bitAt a j = bitAt b j := by
  rw [inNet_iff (by rw [cidr_length]; exact ha) (by rw [cidr_length]; exact hb)]
  constructor
  · intro h j hj hk
    have hi : j / 8 < n := by omega
    have h1 := h (j / 8) _ _ _ (List.getElem?_eq_getElem (by omega)) (cidr_at hi) (List.getElem?_eq_getElem (by omega))
    have h2 := (and_byteMask _ _ _).1 h1 (j % 8) (by omega) (by omega)
    have e : j = 8 * (j / 8) + j % 8 := by omega
    rw [e, bitAt_of (List.getElem?_eq_getElem (by omega)) _ (by omega), bitAt_of (List.getElem?_eq_getElem (by omega)) _ (by omega)]
    exact h2
  · intro h i x y z hx hy hz
    have hi : i < n := by have := (List.getElem?_eq_some_iff.1 hx).1; omega
    rw [cidr_at hi] at hy
    injection hy with hy
    rw [← hy]
    apply (and_byteMask _ _ _).2
    intro t ht hr
    rw [← bitAt_of hx t ht, ← bitAt_of hz t ht]
    exact h _ (by omega) (by omega)

theorem inNet_mono {a b : List UInt8} {n k k' : Nat} (ha : a.length = n) (hb : b.length = n) (hk : k ≤ k') (h : inNet a (cidr n k') b = true) : inNet a (cidr n k) b = true := by
  rw [inNet_cidr k ha hb]
  intro j hj hjk
  exact (inNet_cidr k' ha hb).1 h j hj (by omega)

/-- Two networks, the first with fewer ones: an address of the second one is in the first one just if the second one's number is. -/
theorem inNet_apart {a b c : List UInt8} {n m k : Nat} (hb : b.length = n) (hc : c.length = n) (hmk : m ≤ k) (h : inNet b (cidr n k) c = true) : inNet a (cidr n m) c = inNet a (cidr n m) b := by
  have h1 := inNet_mono hb hc hmk h
  rw [inNet_symm a _ c, inNet_symm a _ b, inNet_same h1]
end Go.Proofs.YtmfcgglgolajnaaDoor
