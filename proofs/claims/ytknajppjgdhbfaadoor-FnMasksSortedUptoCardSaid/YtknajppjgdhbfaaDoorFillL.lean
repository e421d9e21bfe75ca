/-
  Bits of byte lists: one bit turned, all bits from one on set; the value of four bytes. No program is named here.
-/
import Derived.Test.YtknajppjgdhbfaaDoorCidr
namespace Go.Proofs.YtknajppjgdhbfaaDoor

theorem bits_ext {a b : List UInt8} (hl : a.length = b.length) (h : ∀ j, j < 8 * a.length → bitAt a j = bitAt b j) : a = b := by
  apply List.ext_getElem hl
  intro i h1 h2
  apply u8_bits
  intro t ht
  have e1 := bitAt_of (List.getElem?_eq_getElem h1) t ht
  have e2 := bitAt_of (List.getElem?_eq_getElem h2) t ht
  rw [← e1, ← e2]
  exact h _ (by omega)

/-- One bit turned. -/
def flip1 (b : List UInt8) (k : Nat) : List UInt8 := b.set (k / 8) ((b.getD (k / 8) 0) ^^^ UInt8.ofNat (2 ^ (7 - k % 8)))
theorem flip1_length (b : List UInt8) (k : Nat) : (flip1 b k).length = b.length := by unfold flip1; simp
theorem two_pow_u8 {s : Nat} (hs : s < 8) : (UInt8.ofNat (2 ^ s)).toNat = 2 ^ s := by
  have : ∀ t : Fin 8, (UInt8.ofNat (2 ^ t.val)).toNat = 2 ^ t.val := by decide
  exact this ⟨s, hs⟩
theorem bitAt_flip1 {b : List UInt8} {k : Nat} (hk : k < 8 * b.length) (j : Nat) : bitAt (flip1 b k) j = if j = k then !bitAt b k else bitAt b j := by
  have hlt : k / 8 < b.length := by omega
  unfold bitAt flip1
  by_cases hb : j / 8 = k / 8
  · rw [hb]
    simp only [List.getD_eq_getElem?_getD, List.getElem?_set_self hlt, Option.getD_some]
    rw [UInt8.toNat_xor, two_pow_u8 (by omega), Nat.testBit_xor, Nat.testBit_two_pow]
    by_cases e : j = k
    · subst e; simp
    · rw [if_neg e, decide_eq_false (by omega)]
      simp
  · have e : j ≠ k := fun e => hb (by rw [e])
    rw [if_neg e]
    simp only [List.getD_eq_getElem?_getD]
    rw [List.getElem?_set_ne (fun h => hb h.symm)]

/-- m bits from lo on are 'on'. -/
def fillTo (b : List UInt8) (lo : Nat) (on : Bool) : Nat → List UInt8
  | 0 => b
  | m + 1 => if bitAt (fillTo b lo on m) (lo + m) = on then fillTo b lo on m else flip1 (fillTo b lo on m) (lo + m)
theorem fillTo_length (b : List UInt8) (lo : Nat) (on : Bool) (m : Nat) : (fillTo b lo on m).length = b.length := by
  induction m with
  | zero => rfl
  | succ m ih => unfold fillTo; split
                 · exact ih
                 · rw [flip1_length, ih]
theorem bitAt_fillTo (b : List UInt8) (lo : Nat) (on : Bool) (m : Nat) (h : lo + m ≤ 8 * b.length) (j : Nat) : bitAt (fillTo b lo on m) j = if lo ≤ j ∧ j < lo + m then on else bitAt b j := by
  induction m with
  | zero => rw [if_neg (by omega)]; rfl
  | succ m ih =>
    have ih' := ih (by omega)
    unfold fillTo
    split
    · rename_i hb
      by_cases e : j = lo + m
      · subst e; rw [hb, if_pos (by omega)]
      · rw [ih']
        by_cases h1 : lo ≤ j ∧ j < lo + m
        · rw [if_pos h1, if_pos (by omega)]
        · rw [if_neg h1, if_neg (by omega)]
    · rename_i hb
      rw [bitAt_flip1 (by rw [fillTo_length]; omega)]
      by_cases e : j = lo + m
      · rw [if_pos e, if_pos (by omega)]
        cases hx : bitAt (fillTo b lo on m) (lo + m) <;> cases on <;> simp_all
      · rw [if_neg e, ih']
        by_cases h1 : lo ≤ j ∧ j < lo + m
        · rw [if_pos h1, if_pos (by omega)]
        · rw [if_neg h1, if_neg (by omega)]
/-- All bits from lo on. -/
def filledL (b : List UInt8) (lo : Nat) (on : Bool) : List UInt8 := fillTo b lo on (8 * b.length - lo)
theorem filledL_length (b : List UInt8) (lo : Nat) (on : Bool) : (filledL b lo on).length = b.length := fillTo_length _ _ _ _
theorem bitAt_filledL (b : List UInt8) (lo : Nat) (on : Bool) (j : Nat) (hj : j < 8 * b.length) : bitAt (filledL b lo on) j = if lo ≤ j then on else bitAt b j := by
  unfold filledL
  by_cases h : lo ≤ 8 * b.length
  · rw [bitAt_fillTo _ _ _ _ (by omega)]
    by_cases h1 : lo ≤ j
    · rw [if_pos h1, if_pos (by omega)]
    · rw [if_neg h1, if_neg (by omega)]
  · rw [show 8 * b.length - lo = 0 by omega, if_neg (by omega)]
    rfl
end Go.Proofs.YtknajppjgdhbfaaDoor
