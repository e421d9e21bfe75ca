/-
  Texts in lines, cut at the line ends again. No program is named here.
-/
import Derived.Test.YtmfcgglgolajnaaDoorPAny
namespace Go.Proofs.YtmfcgglgolajnaaDoor
set_option linter.unusedVariables false

theorem ba_append (a b : List UInt8) : (ByteArray.mk a.toArray) ++ (ByteArray.mk b.toArray) = ⟨(a ++ b).toArray⟩ := by
  apply ByteArray.ext
  simp
/-- Each text, and a line end behind it. -/
def linesL (ts : List (List UInt8)) : List UInt8 := ts.flatMap fun t => t ++ [10]
theorem linesL_append (a b : List (List UInt8)) : linesL (a ++ b) = linesL a ++ linesL b := by unfold linesL; rw [List.flatMap_append]
theorem linesL_one (t : List UInt8) : linesL [t] = t ++ [10] := by unfold linesL; simp
theorem linesL_snoc {ts : List (List UInt8)} {k : Nat} {t : List UInt8} (h : ts[k]? = some t) : linesL (ts.take (k + 1)) = linesL (ts.take k) ++ (t ++ [10]) := by
  rw [take_snoc h, linesL_append, linesL_one]
def fromL (ts : List (List UInt8)) (j : Nat) : Nat := (linesL (ts.take j)).length
theorem fromL_succ {ts : List (List UInt8)} {k : Nat} {t : List UInt8} (h : ts[k]? = some t) : fromL ts (k + 1) = fromL ts k + t.length + 1 := by
  unfold fromL; rw [linesL_snoc h, List.length_append, List.length_append]; simp; omega
theorem linesL_at {ts : List (List UInt8)} {j : Nat} {t : List UInt8} (h : ts[j]? = some t) : ∃ r, linesL ts = linesL (ts.take j) ++ (t ++ 10 :: r) := by
  refine ⟨linesL (ts.drop (j + 1)), ?_⟩
  have h1 : ts = ts.take (j + 1) ++ ts.drop (j + 1) := (List.take_append_drop _ _).symm
  rw [show linesL ts = linesL (ts.take (j + 1) ++ ts.drop (j + 1)) by rw [← h1], linesL_append, linesL_snoc h]
  simp
/-- At the byte i, j lines are whole. -/
def LInv (ts : List (List UInt8)) (j i : Nat) : Prop := j ≤ ts.length ∧ fromL ts j ≤ i ∧ (∀ t, ts[j]? = some t → i ≤ fromL ts j + t.length) ∧ (j = ts.length → i = fromL ts j)
theorem LInv.start (ts : List (List UInt8)) : LInv ts 0 0 := ⟨Nat.zero_le _, by simp [fromL, linesL], fun _ _ => Nat.zero_le _, fun _ => by simp [fromL, linesL]⟩
theorem fromL_all (ts : List (List UInt8)) : fromL ts ts.length = (linesL ts).length := by unfold fromL; rw [List.take_length]
theorem LInv.line {ts : List (List UInt8)} {j i : Nat} (h : LInv ts j i) (hi : i < (linesL ts).length) : ∃ t, ts[j]? = some t := by
  have : j < ts.length := by
    rcases Nat.lt_or_ge j ts.length with h' | h'
    · exact h'
    · have e : j = ts.length := Nat.le_antisymm h.1 h'
      have := h.2.2.2 e
      rw [e, fromL_all] at this
      omega
  exact ⟨_, List.getElem?_eq_getElem this⟩
theorem LInv.inside {ts : List (List UInt8)} {j i : Nat} {t : List UInt8} (h : LInv ts j i) (ht : ts[j]? = some t) (hi : i < fromL ts j + t.length) : ∃ c, (linesL ts)[i]? = some c ∧ c ∈ t ∧ LInv ts j (i + 1) := by
  obtain ⟨r, hr⟩ := linesL_at ht
  have h1 := h.2.1
  have hlt : i - fromL ts j < t.length := by omega
  refine ⟨t[i - fromL ts j], ?_, List.getElem_mem _, h.1, by omega, fun t' ht' => ?_, fun e => ?_⟩
  · rw [hr, List.getElem?_append_right (by unfold fromL at h1; exact h1), List.getElem?_append_left (by unfold fromL at hlt; exact hlt)]
    rw [List.getElem?_eq_getElem (by unfold fromL at hlt; exact hlt)]
    rfl
  · rw [ht] at ht'; injection ht' with ht'; subst ht'; omega
  · rw [e, List.getElem?_eq_none (Nat.le_refl _)] at ht; cases ht
theorem LInv.atEnd {ts : List (List UInt8)} {j i : Nat} {t : List UInt8} (h : LInv ts j i) (ht : ts[j]? = some t) (hi : ¬ i < fromL ts j + t.length) : (linesL ts)[i]? = some 10 ∧ ((linesL ts).take i).drop (fromL ts j) = t ∧ i + 1 = fromL ts (j + 1) ∧ LInv ts (j + 1) (i + 1) := by
  have he : i = fromL ts j + t.length := by have := h.2.2.1 t ht; omega
  obtain ⟨r, hr⟩ := linesL_at ht
  have hj := (List.getElem?_eq_some_iff.1 ht).1
  have hn := fromL_succ ht
  refine ⟨?_, ?_, by omega, hj, by omega, fun t' ht' => by omega, fun e => by omega⟩
  · rw [hr, he]
    unfold fromL
    rw [List.getElem?_append_right (by omega), List.getElem?_append_right (by omega)]
    rw [show (linesL (ts.take j)).length + t.length - (linesL (ts.take j)).length - t.length = 0 by omega]
    rfl
  · rw [hr, he]
    unfold fromL
    rw [← List.append_assoc, List.take_append_of_le_length (by rw [List.length_append]; omega)]
    rw [show (linesL (ts.take j)).length + t.length = (linesL (ts.take j) ++ t).length by rw [List.length_append], List.take_length, List.drop_left]
theorem LInv.over {ts : List (List UInt8)} {j i : Nat} (h : LInv ts j i) (hi : ¬ i < (linesL ts).length) : j = ts.length := by
  rcases Nat.lt_or_ge j ts.length with h' | h'
  · exfalso
    obtain ⟨r, hr⟩ := linesL_at (List.getElem?_eq_getElem h')
    have h2 := h.2.2.1 _ (List.getElem?_eq_getElem h')
    have h3 := congrArg List.length hr
    rw [List.length_append, List.length_append, List.length_cons] at h3
    unfold fromL at h2
    omega
  · exact Nat.le_antisymm h.1 h'
end Go.Proofs.YtmfcgglgolajnaaDoor
