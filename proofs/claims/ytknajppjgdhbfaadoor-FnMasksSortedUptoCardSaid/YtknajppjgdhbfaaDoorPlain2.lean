/-
  Plain lemmas, more: networks with joined masks; loops that write into a row. No program is named here.
-/
import Derived.Test.YtknajppjgdhbfaaDoorPlain
namespace Go.Proofs.YtknajppjgdhbfaaDoor
open Go.RowKit

theorem u8_ext {x y : UInt8} (h : ∀ i, i < 8 → x.toBitVec.getLsbD i = y.toBitVec.getLsbD i) : x = y := by
  apply UInt8.toBitVec_inj.1
  exact BitVec.eq_of_getLsbD_eq fun i hi => h i hi

theorem and_or_iff (x y m r : UInt8) : x &&& (m ||| r) = y &&& (m ||| r) ↔ x &&& m = y &&& m ∧ x &&& r = y &&& r := by
  constructor
  · intro h
    have hb : ∀ i, (x.toBitVec.getLsbD i && (m.toBitVec.getLsbD i || r.toBitVec.getLsbD i)) = (y.toBitVec.getLsbD i && (m.toBitVec.getLsbD i || r.toBitVec.getLsbD i)) := by
      intro i
      have := congrArg (fun z : UInt8 => z.toBitVec.getLsbD i) h
      simpa using this
    constructor
    all_goals
      apply u8_ext
      intro i _
      have h1 := hb i
      simp only [UInt8.toBitVec_and, BitVec.getLsbD_and]
      cases hx : x.toBitVec.getLsbD i <;> cases hy : y.toBitVec.getLsbD i <;> cases hm : m.toBitVec.getLsbD i <;> cases hr : r.toBitVec.getLsbD i <;> simp_all
  · rintro ⟨h1, h2⟩
    apply u8_ext
    intro i _
    have e1 := congrArg (fun z : UInt8 => z.toBitVec.getLsbD i) h1
    have e2 := congrArg (fun z : UInt8 => z.toBitVec.getLsbD i) h2
    simp only [UInt8.toBitVec_and, BitVec.getLsbD_and] at e1 e2
    simp only [UInt8.toBitVec_and, UInt8.toBitVec_or, BitVec.getLsbD_and, BitVec.getLsbD_or]
    cases hx : x.toBitVec.getLsbD i <;> cases hy : y.toBitVec.getLsbD i <;> cases hm : m.toBitVec.getLsbD i <;> cases hr : r.toBitVec.getLsbD i <;> simp_all

theorem inNet_iff {a m b : List UInt8} (ha : a.length = m.length) (hb : b.length = m.length) : inNet a m b = true ↔ ∀ (i : Nat) (x y z : UInt8), a[i]? = some x → m[i]? = some y → b[i]? = some z → x &&& y = z &&& y := by
  unfold inNet
  rw [eqL_iff]
  constructor
  · intro h i x y z hx hy hz
    have := congrArg (fun l => l[i]?) h
    simp only [List.getElem?_zipWith, hx, hy, hz] at this
    simpa using this
  · intro h
    apply List.ext_getElem?
    intro i
    simp only [List.getElem?_zipWith]
    by_cases hi : i < m.length
    · rw [List.getElem?_eq_getElem hi, List.getElem?_eq_getElem (show i < a.length by omega), List.getElem?_eq_getElem (show i < b.length by omega)]
      simp only [Option.some.injEq]
      exact h i _ _ _ (List.getElem?_eq_getElem (by omega)) (List.getElem?_eq_getElem hi) (List.getElem?_eq_getElem (by omega))
    · rw [List.getElem?_eq_none (show m.length ≤ i by omega), List.getElem?_eq_none (show a.length ≤ i by omega), List.getElem?_eq_none (show b.length ≤ i by omega)]

theorem inNet_or {a m r b : List UInt8} (ha : a.length = m.length) (hb : b.length = m.length) (hr : r.length = m.length) : inNet a (List.zipWith (· ||| ·) m r) b = (inNet a m b && inNet a r b) := by
  rw [Bool.eq_iff_iff, Bool.and_eq_true, inNet_iff (by simp; omega) (by simp; omega), inNet_iff ha hb, inNet_iff (by omega) (by omega)]
  constructor
  · intro h
    constructor
    · intro i x y z hx hy hz
      have hi : i < m.length := (List.getElem?_eq_some_iff.1 hy).1
      exact ((and_or_iff x z y _).1 (h i x _ z hx (zip_at hy (List.getElem?_eq_getElem (show i < r.length by omega))) hz)).1
    · intro i x y z hx hy hz
      have hi : i < r.length := (List.getElem?_eq_some_iff.1 hy).1
      exact ((and_or_iff x z _ y).1 (h i x _ z hx (zip_at (List.getElem?_eq_getElem (show i < m.length by omega)) hy) hz)).2
  · rintro ⟨h1, h2⟩ i x y z hx hy hz
    have hi : i < m.length := by
      have := (List.getElem?_eq_some_iff.1 hx).1; omega
    rw [zip_at (List.getElem?_eq_getElem hi) (List.getElem?_eq_getElem (show i < r.length by omega))] at hy
    injection hy with hy
    rw [← hy]
    exact (and_or_iff x z _ _).2 ⟨h1 i x _ z hx (List.getElem?_eq_getElem hi) hz, h2 i x _ z hx (List.getElem?_eq_getElem (by omega)) hz⟩

theorem inNet_zeros {a b : List UInt8} {n : Nat} (ha : a.length = n) (hb : b.length = n) : inNet a (List.replicate n 0) b = true := by
  rw [inNet_iff (by simp [ha]) (by simp [hb])]
  intro i x y z _ hy _
  have : y = 0 := by
    rw [List.getElem?_replicate] at hy
    split at hy
    · injection hy with hy; exact hy.symm
    · cases hy
  subst this
  simp

/-! ### A row that is written place by place -/
/-- The first k places done. -/
def joinTo {α β : Type} (f : α → β → α) (xs : List α) (ys : List β) (k : Nat) : List α := (List.zipWith f xs ys).take k ++ xs.drop k
theorem joinTo_zero {α β : Type} (f : α → β → α) (xs : List α) (ys : List β) : joinTo f xs ys 0 = xs := by simp [joinTo]
theorem joinTo_end {α β : Type} {f : α → β → α} {xs : List α} {ys : List β} (h : xs.length = ys.length) : joinTo f xs ys xs.length = List.zipWith f xs ys := by
  unfold joinTo
  rw [List.drop_length, List.append_nil, List.take_of_length_le (by rw [List.length_zipWith]; omega)]
theorem joinTo_length {α β : Type} {f : α → β → α} {xs : List α} {ys : List β} {k : Nat} (h : xs.length = ys.length) (hk : k ≤ xs.length) : (joinTo f xs ys k).length = xs.length := by
  unfold joinTo; simp; omega
theorem joinTo_at {α β : Type} {f : α → β → α} {xs : List α} {ys : List β} {k : Nat} (h : xs.length = ys.length) (hk : k < xs.length) : (joinTo f xs ys k)[k]? = xs[k]? := by
  unfold joinTo
  have hl : ((List.zipWith f xs ys).take k).length = k := by simp; omega
  rw [List.getElem?_append_right (by omega), hl, List.getElem?_drop]
  congr 1; omega
theorem joinTo_set {α β : Type} {f : α → β → α} {xs : List α} {ys : List β} {k : Nat} {x : α} {y : β} (h : xs.length = ys.length) (hx : xs[k]? = some x) (hy : ys[k]? = some y) : (joinTo f xs ys k).set k (f x y) = joinTo f xs ys (k + 1) := by
  have hk : k < xs.length := (List.getElem?_eq_some_iff.1 hx).1
  unfold joinTo
  have hl : ((List.zipWith f xs ys).take k).length = k := by simp; omega
  have hz : (List.zipWith f xs ys)[k]? = some (f x y) := by rw [List.getElem?_zipWith, hx, hy]
  rw [List.set_append, if_neg (by omega), hl, Nat.sub_self, take_snoc hz, List.append_assoc]
  congr 1
  have : xs.drop k = x :: xs.drop (k + 1) := by
    rw [List.drop_eq_getElem_cons hk]
    congr 1
    rw [List.getElem?_eq_getElem hk] at hx
    injection hx
  rw [this]
  rfl
end Go.Proofs.YtknajppjgdhbfaaDoor
