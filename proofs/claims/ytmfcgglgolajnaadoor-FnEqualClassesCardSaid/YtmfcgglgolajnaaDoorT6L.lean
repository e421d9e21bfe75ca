/-
  The text of eight groups: the longest stretch of zeros left out. No program is named here.
-/
import Derived.Test.YtmfcgglgolajnaaDoorHexL
namespace Go.Proofs.YtmfcgglgolajnaaDoor
set_option linter.unusedVariables false

/-- Where the zeros that begin at j end. -/
def zrun (g : Nat → Nat) : Nat → Nat → Nat
  | 0, j => j
  | n + 1, j => if g j = 0 then zrun g n (j + 1) else j
theorem zrun_bound (g : Nat → Nat) : ∀ n j, j ≤ zrun g n j ∧ zrun g n j ≤ j + n
  | 0, j => ⟨Nat.le_refl _, Nat.le_refl _⟩
  | n + 1, j => by
    unfold zrun
    split
    · have := zrun_bound g n (j + 1); omega
    · omega
def zend (g : Nat → Nat) (i : Nat) : Nat := zrun g (8 - i) i
theorem zend_le (g : Nat → Nat) {i : Nat} (h : i ≤ 8) : i ≤ zend g i ∧ zend g i ≤ 8 := by
  have := zrun_bound g (8 - i) i
  unfold zend; omega
/-- The stretch that is left out, of those that begin before k: its begin and its end; 255 and 255 if there is none. -/
def zfind (g : Nat → Nat) : Nat → Nat × Nat
  | 0 => (255, 255)
  | k + 1 => if 2 ≤ zend g k - k ∧ (zfind g k).2 - (zfind g k).1 < zend g k - k then (k, zend g k) else zfind g k
theorem zfind_or (g : Nat → Nat) : ∀ k, k ≤ 8 → zfind g k = (255, 255) ∨ ((zfind g k).1 < k ∧ (zfind g k).1 + 2 ≤ (zfind g k).2 ∧ (zfind g k).2 = zend g (zfind g k).1 ∧ (zfind g k).2 ≤ 8)
  | 0, _ => Or.inl rfl
  | k + 1, hk => by
    have := zend_le g (show k ≤ 8 by omega)
    unfold zfind
    split
    · rename_i h
      exact Or.inr ⟨by simp, by simp; omega, rfl, by simp; omega⟩
    · rcases zfind_or g k (by omega) with h | ⟨h1, h2, h3, h4⟩
      · exact Or.inl h
      · exact Or.inr ⟨by omega, h2, h3, h4⟩
theorem zfind_le (g : Nat → Nat) {k : Nat} (hk : k ≤ 8) : (zfind g k).1 ≤ (zfind g k).2 ∧ (zfind g k).2 ≤ 255 := by
  rcases zfind_or g k hk with h | ⟨h1, h2, h3, h4⟩
  · rw [h]; simp
  · omega
/-- What is written from group i on. -/
def w6 (g : Nat → Nat) (zs ze : Nat) : Nat → Nat → List UInt8
  | 0, _ => []
  | n + 1, i =>
    if i < 8 then
      (if i = zs then 58 :: 58 :: (if ze < 8 then hexL (g ze) ++ w6 g zs ze n (ze + 1) else [])
       else (if 0 < i then [58] else []) ++ (hexL (g i) ++ w6 g zs ze n (i + 1)))
    else []
theorem w6_end (g : Nat → Nat) (zs ze : Nat) : ∀ n i, 8 ≤ i → w6 g zs ze n i = []
  | 0, _, _ => rfl
  | n + 1, i, h => by unfold w6; rw [if_neg (by omega)]
theorem w6_fuel (g : Nat → Nat) (zs ze : Nat) (hz : zs < 8 → zs < ze) : ∀ n m i, 8 - i ≤ n → 8 - i ≤ m → w6 g zs ze n i = w6 g zs ze m i
  | 0, m, i, hn, hm => by rw [w6_end g zs ze m i (by omega)]; rfl
  | n + 1, 0, i, hn, hm => by rw [w6_end g zs ze (n + 1) i (by omega)]; rfl
  | n + 1, m + 1, i, hn, hm => by
    unfold w6
    by_cases hi : i < 8
    · rw [if_pos hi, if_pos hi]
      by_cases he : i = zs
      · rw [if_pos he, if_pos he]
        by_cases h8 : ze < 8
        · rw [if_pos h8, if_pos h8, w6_fuel g zs ze hz n m (ze + 1) (by omega) (by omega)]
        · rw [if_neg h8, if_neg h8]
      · rw [if_neg he, if_neg he, w6_fuel g zs ze hz n m (i + 1) (by omega) (by omega)]
    · rw [if_neg hi, if_neg hi]
/-- The text of the groups g. -/
def txt6 (g : Nat → Nat) : List UInt8 := w6 g (zfind g 8).1 (zfind g 8).2 8 0
end Go.Proofs.YtmfcgglgolajnaaDoor
