/-
  An insertion sort, step by step; masks of ones and then zeros one after another. Beside what 'masked' and 'leftTo' name, no program is named here.
-/
import Derived.Test.YtknajppjgdhbfaaDoorFillL
import Derived.Test.YtknajppjgdhbfaaDoorInARow
import Derived.Test.YtknajppjgdhbfaaDoorMasksOf
namespace Go.Proofs.YtknajppjgdhbfaaDoor

/-- In order up to m. -/
def Srt (zs : List Int) (m : Nat) : Prop := ∀ a b : Nat, a < b → b < m → zs.getD a 0 ≤ zs.getD b 0
/-- In order up to i, but for what stands at k. -/
def InvK (zs : List Int) (i k : Nat) : Prop := ∀ a b : Nat, a < b → b ≤ i → b ≠ k → zs.getD a 0 ≤ zs.getD b 0
theorem InvK.start {zs : List Int} {i : Nat} (h : Srt zs i) : InvK zs i i := fun a b h1 h2 h3 => h a b h1 (by omega)
theorem InvK.zero {zs : List Int} {i : Nat} (h : InvK zs i 0) : Srt zs (i + 1) := fun a b h1 h2 => h a b h1 (by omega) (by omega)
theorem InvK.stop {zs : List Int} {i k : Nat} (h : InvK zs i k) (hk : 0 < k) (hki : k ≤ i) (hge : ¬ zs.getD k 0 < zs.getD (k - 1) 0) : Srt zs (i + 1) := by
  intro a b h1 h2
  by_cases hb : b = k
  · subst hb
    by_cases ha : a = b - 1
    · subst ha; omega
    · have := h a (b - 1) (by omega) (by omega) (by omega); omega
  · exact h a b h1 (by omega) hb
/-- Two neighbours change places. -/
def swapAt (zs : List Int) (k : Nat) : List Int := (zs.set k (zs.getD (k - 1) 0)).set (k - 1) (zs.getD k 0)
theorem swapAt_length (zs : List Int) (k : Nat) : (swapAt zs k).length = zs.length := by unfold swapAt; simp
theorem swapAt_getD {zs : List Int} {k : Nat} (hk : 0 < k) (hl : k < zs.length) (j : Nat) : (swapAt zs k).getD j 0 = if j = k then zs.getD (k - 1) 0 else if j = k - 1 then zs.getD k 0 else zs.getD j 0 := by
  unfold swapAt
  by_cases h1 : j = k
  · subst h1
    rw [if_pos rfl, List.getD_eq_getElem?_getD, List.getElem?_set_ne (by omega), List.getElem?_set_self hl]; rfl
  · rw [if_neg h1]
    by_cases h2 : j = k - 1
    · subst h2
      rw [if_pos rfl, List.getD_eq_getElem?_getD, List.getElem?_set_self (by simp; omega)]; rfl
    · rw [if_neg h2, List.getD_eq_getElem?_getD, List.getElem?_set_ne (by omega), List.getElem?_set_ne (by omega), ← List.getD_eq_getElem?_getD]
theorem InvK.swap {zs : List Int} {i k : Nat} (h : InvK zs i k) (hk : 0 < k) (hki : k ≤ i) (hl : k < zs.length) (hlt : zs.getD k 0 < zs.getD (k - 1) 0) : InvK (swapAt zs k) i (k - 1) := by
  intro a b h1 h2 h3
  rw [swapAt_getD hk hl, swapAt_getD hk hl]
  by_cases hb : b = k
  · subst hb
    rw [if_pos rfl, if_neg (by omega)]
    by_cases ha : a = b - 1
    · rw [if_pos ha]; omega
    · rw [if_neg ha]
      exact h a (b - 1) (by omega) (by omega) (by omega)
  · rw [if_neg hb, if_neg h3]
    by_cases ha : a = k
    · rw [if_pos ha]
      subst ha
      exact h (a - 1) b (by omega) h2 hb
    · rw [if_neg ha]
      by_cases ha2 : a = k - 1
      · rw [if_pos ha2]
        exact h k b (by omega) h2 hb
      · rw [if_neg ha2]
        exact h a b h1 h2 hb
theorem swapAt_mem {zs : List Int} {k : Nat} (hl : k < zs.length) {p : Int → Prop} (h : ∀ z ∈ zs, p z) : ∀ z ∈ swapAt zs k, p z := by
  intro z hz
  unfold swapAt at hz
  have e1 : zs.getD (k - 1) 0 ∈ zs := by rw [List.getD_eq_getElem?_getD, List.getElem?_eq_getElem (show k - 1 < zs.length by omega)]; exact List.getElem_mem _
  have e2 : zs.getD k 0 ∈ zs := by rw [List.getD_eq_getElem?_getD, List.getElem?_eq_getElem hl]; exact List.getElem_mem _
  rcases List.mem_or_eq_of_mem_set hz with hz | hz
  · rcases List.mem_or_eq_of_mem_set hz with hz | hz
    · exact h z hz
    · subst hz; exact h _ e1
  · subst hz; exact h _ e2

theorem bitAt_masked {x m : List UInt8} {n : Nat} (hx : x.length = n) (hm : m.length = n) {j : Nat} (hj : j < 8 * n) : bitAt (masked x m) j = (bitAt x j && bitAt m j) := by
  have h1 : j / 8 < x.length := by omega
  have h2 : j / 8 < m.length := by omega
  unfold bitAt masked
  simp only [List.getD_eq_getElem?_getD, List.getElem?_zipWith, List.getElem?_eq_getElem h1, List.getElem?_eq_getElem h2, Option.getD_some]
  rw [UInt8.toNat_and, Nat.testBit_and]
theorem bitAt_cidr {n k j : Nat} (hj : j < 8 * n) : bitAt (cidr n k) j = decide (j < k) := by
  unfold bitAt
  rw [List.getD_eq_getElem?_getD, cidr_at (show j / 8 < n by omega), Option.getD_some, byteMask_bit _ _ (by omega)]
  exact decide_eq_decide.2 (by omega)
/-- What is left behind some masks. -/
theorem bitAt_left {n : Nat} {x : List UInt8} (hx : x.length = n) (zs : List Int) {j : Nat} (hj : j < 8 * n) : bitAt ((masksL n zs).foldl masked x) j = (bitAt x j && zs.all fun z => decide (j < z.toNat)) := by
  induction zs generalizing x with
  | nil => simp [masksL]
  | cons z zs ih =>
    have e : masksL n (z :: zs) = cidr n z.toNat :: masksL n zs := rfl
    rw [e, List.foldl_cons, ih (masked_length hx (cidr_length _ _)), bitAt_masked hx (cidr_length _ _) hj, bitAt_cidr hj, List.all_cons, Bool.and_assoc]
theorem left_length {n : Nat} {x : List UInt8} (hx : x.length = n) (zs : List Int) : ((masksL n zs).foldl masked x).length = n := by
  induction zs generalizing x with
  | nil => exact hx
  | cons z zs ih =>
    have e : masksL n (z :: zs) = cidr n z.toNat :: masksL n zs := rfl
    rw [e, List.foldl_cons]
    exact ih (masked_length hx (cidr_length _ _))
/-- The one with the fewest ones decides. -/
theorem left_least {n : Nat} {x : List UInt8} (hx : x.length = n) {zs : List Int} {z0 : Int} (h0 : z0 ∈ zs) (hle : ∀ z ∈ zs, z0 ≤ z) : (masksL n zs).foldl masked x = filledL x z0.toNat false := by
  apply bits_ext (by rw [left_length hx, filledL_length, hx])
  intro j hj
  rw [left_length hx] at hj
  rw [bitAt_left hx zs hj, bitAt_filledL _ _ _ _ (by omega)]
  by_cases h : z0.toNat ≤ j
  · rw [if_pos h]
    have : (zs.all fun z => decide (j < z.toNat)) = false := by
      rw [List.all_eq_false]
      exact ⟨z0, h0, by simp; omega⟩
    rw [this]; simp
  · rw [if_neg h]
    have : (zs.all fun z => decide (j < z.toNat)) = true := by
      rw [List.all_eq_true]
      intro z hz
      have := hle z hz
      exact decide_eq_true (by omega)
    rw [this]; simp
theorem masksL_reverse (n : Nat) (zs : List Int) : (masksL n zs).reverse = masksL n zs.reverse := by unfold masksL; rw [List.map_reverse]
theorem Srt.head {zs : List Int} {N : Nat} (h : Srt zs N) (hl : zs.length = N) {z0 : Int} (h0 : zs[0]? = some z0) : z0 ∈ zs ∧ ∀ z ∈ zs, z0 ≤ z := by
  refine ⟨List.mem_of_getElem? h0, fun z hz => ?_⟩
  obtain ⟨j, hj⟩ := List.getElem?_of_mem hz
  have hjl := (List.getElem?_eq_some_iff.1 hj).1
  rcases Nat.eq_zero_or_pos j with e | e
  · subst e; rw [h0] at hj; injection hj with hj; omega
  · have := h 0 j e (by omega)
    rw [List.getD_eq_getElem?_getD, List.getD_eq_getElem?_getD, h0, hj] at this
    exact this
/-- A mask has all ones of one with fewer. -/
theorem andNot_byteMask {r s : Nat} (h : r ≤ s) : bits .andNot .u8 ((byteMask r).toNat : Int) ((byteMask s).toNat : Int) = 0 := by
  have key : ∀ (r s : Fin 9), r.val ≤ s.val → bits .andNot .u8 ((byteMask r.val).toNat : Int) ((byteMask s.val).toNat : Int) = 0 := by decide +kernel
  have e : ∀ r : Nat, byteMask r = byteMask (min r 8) := by
    intro r
    by_cases h8 : 8 ≤ r
    · rw [show min r 8 = 8 by omega]; unfold byteMask; rw [if_pos h8, if_pos (by omega)]
    · rw [show min r 8 = r by omega]
  rw [e r, e s]
  exact key ⟨min r 8, by omega⟩ ⟨min s 8, by omega⟩ (by simp; omega)
end Go.Proofs.YtknajppjgdhbfaaDoor
