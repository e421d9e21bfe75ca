/-
  Plain lemmas on lists. No program is named here.
-/
import Derived.WalkKit
import Derived.Laws.BitsAllLaws
namespace Go.Proofs.YtmfcgglgolajnaaDoor
open Go.RowKit

def eqL {α : Type} [DecidableEq α] (a b : List α) : Bool := decide (a = b)

theorem take_snoc {α : Type} {xs : List α} {k : Nat} {x : α} (h : xs[k]? = some x) : xs.take (k + 1) = xs.take k ++ [x] := by
  rw [List.take_add_one, h]; rfl
theorem take_step {α : Type} {xs ys : List α} {k : Nat} {x : α} (ht : xs.take k = ys.take k) (hx : xs[k]? = some x) (hy : ys[k]? = some x) : xs.take (k + 1) = ys.take (k + 1) := by
  rw [take_snoc hx, take_snoc hy, ht]
theorem eqL_ne {α : Type} [DecidableEq α] {xs ys : List α} {k : Nat} {x y : α} (hx : xs[k]? = some x) (hy : ys[k]? = some y) (h : x ≠ y) : eqL xs ys = false := by
  unfold eqL
  simp only [decide_eq_false_iff_not]
  rintro rfl
  rw [hx] at hy
  exact h (by injection hy)
theorem eqL_len {α : Type} [DecidableEq α] {xs ys : List α} (h : xs.length ≠ ys.length) : eqL xs ys = false := by
  unfold eqL
  simp only [decide_eq_false_iff_not]
  rintro rfl
  exact h rfl
theorem eqL_take {α : Type} [DecidableEq α] {xs ys : List α} {k : Nat} (h : xs.take k = ys.take k) (hx : xs.length ≤ k) (hy : ys.length ≤ k) : eqL xs ys = true := by
  rw [List.take_of_length_le hx, List.take_of_length_le hy] at h
  unfold eqL
  simpa using h
theorem eqL_iff {α : Type} [DecidableEq α] {xs ys : List α} : eqL xs ys = true ↔ xs = ys := by unfold eqL; simp
theorem byte_ne {x y : UInt8} (h : ((x.toNat : Int) != (y.toNat : Int)) = true) : x ≠ y := by
  rintro rfl; simp at h
theorem byte_eq {x y : UInt8} (h : ((x.toNat : Int) != (y.toNat : Int)) = false) : x = y := by
  apply UInt8.toNat_inj.1
  have h' : (x.toNat : Int) = (y.toNat : Int) := by simpa using h
  omega
theorem byte_is {x : UInt8} {n : Nat} (hn : n < 256) : ((x.toNat : Int) == (n : Int)) = decide (x = UInt8.ofNat n) := by
  rw [Bool.eq_iff_iff, beq_iff_eq, decide_eq_true_iff]
  constructor
  · intro h
    apply UInt8.toNat_inj.1
    rw [UInt8.toNat_ofNat']
    omega
  · rintro rfl
    rw [UInt8.toNat_ofNat']
    omega
theorem ret_bool {a b : Bool} (h : a = b) : Ending.returned (.bool a) = .returned (.bool b) := by rw [h]
theorem ret_int {k : IntKind} {a b : Int} (h : a = b) : Ending.returned (.int k a) = .returned (.int k b) := by rw [h]
theorem lt_256 (x : UInt8) : (x.toNat : Int) < 256 := by have := x.toNat_lt; omega

/-! ### Addresses -/
def zerosB (bs : List UInt8) : Bool := bs.all fun b => decide (b = 0)
theorem zerosB_ne {bs : List UInt8} {k : Nat} {x : UInt8} (hx : bs[k]? = some x) (h : x ≠ 0) : zerosB bs = false := by
  unfold zerosB
  rw [List.all_eq_false]
  exact ⟨x, List.mem_of_getElem? hx, by simpa using h⟩
theorem zerosB_step {bs : List UInt8} {k : Nat} {x : UInt8} (h : zerosB (bs.take k) = true) (hx : bs[k]? = some x) (h0 : x = 0) : zerosB (bs.take (k + 1)) = true := by
  rw [take_snoc hx]
  unfold zerosB at *
  simp [h0] at h ⊢
  exact h
theorem zerosB_take {bs : List UInt8} {k : Nat} (h : zerosB (bs.take k) = true) (hk : bs.length ≤ k) : zerosB bs = true := by
  rwa [List.take_of_length_le hk] at h
/-- Sixteen bytes of an IPv4-mapped address. -/
def mapd (bs : List UInt8) : Bool := decide (bs.length = 16) && (zerosB (bs.take 10) && (decide (bs[10]? = some 255) && decide (bs[11]? = some 255)))
theorem mapd_zeros {bs : List UInt8} (h : zerosB (bs.take 10) = false) : mapd bs = false := by unfold mapd; rw [h]; simp
theorem mapd_len {bs : List UInt8} (h : bs.length ≠ 16) : mapd bs = false := by unfold mapd; rw [decide_eq_false h]; rfl
theorem mapd_of {bs : List UInt8} {x y : UInt8} (hl : bs.length = 16) (h : zerosB (bs.take 10) = true) (hx : bs[10]? = some x) (hy : bs[11]? = some y) : mapd bs = (decide (x = 255) && decide (y = 255)) := by
  unfold mapd
  rw [h, hx, hy, decide_eq_true hl]
  simp
theorem byte_ff {x : UInt8} : ((x.toNat : Int) == 255) = decide (x = 255) := byte_is (n := 255) (by omega)

/-! ### Bits of bytes -/
theorem and_u8 (x y : UInt8) : bits .and .u8 (x.toNat : Int) (y.toNat : Int) = ((x &&& y).toNat : Int) := by
  rw [u8_and_nat _ _ x.toNat_lt y.toNat_lt, UInt8.toNat_and]
theorem or_u8 (x y : UInt8) : bits .or .u8 (x.toNat : Int) (y.toNat : Int) = ((x ||| y).toNat : Int) := by
  rw [u8_or_nat _ _ x.toNat_lt y.toNat_lt, UInt8.toNat_or]
theorem xor_u8 (x y : UInt8) : bits .xor .u8 (x.toNat : Int) (y.toNat : Int) = ((x ^^^ y).toNat : Int) := by
  rw [u8_xor_nat _ _ x.toNat_lt y.toNat_lt, UInt8.toNat_xor]

/-- The network with this number and mask contains the address: the same bits under the mask. -/
def inNet (num mask ip : List UInt8) : Bool := eqL (List.zipWith (· &&& ·) num mask) (List.zipWith (· &&& ·) ip mask)
theorem zip_at {f : UInt8 → UInt8 → UInt8} {xs ms : List UInt8} {k : Nat} {x m : UInt8} (hx : xs[k]? = some x) (hm : ms[k]? = some m) : (List.zipWith f xs ms)[k]? = some (f x m) := by
  rw [List.getElem?_zipWith, hx, hm]

/-- What 'alike' keeps. -/
def goodA (m : Nat) (b : List UInt8) : Bool := decide (b.length = m ∧ (m = 4 ∨ m = 16)) && !mapd b
def alikeL (bss : List (List UInt8)) (m : Nat) : List (List UInt8) := bss.filter (goodA m)
theorem alikeL_keep {bss : List (List UInt8)} {m k : Nat} {b : List UInt8} (hb : bss[k]? = some b) (h : goodA m b = true) : alikeL (bss.take (k + 1)) m = alikeL (bss.take k) m ++ [b] := by
  unfold alikeL; rw [take_snoc hb, List.filter_append]; simp [h]
theorem alikeL_drop {bss : List (List UInt8)} {m k : Nat} {b : List UInt8} (hb : bss[k]? = some b) (h : goodA m b = false) : alikeL (bss.take (k + 1)) m = alikeL (bss.take k) m := by
  unfold alikeL; rw [take_snoc hb, List.filter_append]; simp [h]
theorem alikeL_le (bss : List (List UInt8)) (m k : Nat) : (alikeL (bss.take k) m).length ≤ k :=
  Nat.le_trans (List.length_filter_le _ _) (by rw [List.length_take]; omega)
theorem alikeL_mem {bss : List (List UInt8)} {m : Nat} {b : List UInt8} (h : b ∈ alikeL bss m) : b.length = m ∧ (m = 4 ∨ m = 16) ∧ mapd b = false := by
  unfold alikeL goodA at h
  simp at h
  exact ⟨h.2.1.1, h.2.1.2, h.2.2⟩
theorem goodA_no1 {m : Nat} {b : List UInt8} (h : b.length ≠ m) : goodA m b = false := by unfold goodA; simp [h]
theorem goodA_no2 {m : Nat} {b : List UInt8} (h : ¬ (m = 4 ∨ m = 16)) : goodA m b = false := by unfold goodA; simp [h]
theorem goodA_no3 {m : Nat} {b : List UInt8} (h : mapd b = true) : goodA m b = false := by unfold goodA; simp [h]
theorem goodA_yes {m : Nat} {b : List UInt8} (h1 : b.length = m) (h2 : m = 4 ∨ m = 16) (h3 : mapd b = false) : goodA m b = true := by unfold goodA; simp [h1, h2, h3]

theorem inNet_same {xs ms b : List UInt8} (h : inNet xs ms b = true) : inNet b ms = inNet xs ms := by
  funext y
  unfold inNet at *
  rw [eqL_iff.1 h]
theorem inNet_refl (xs ms : List UInt8) : inNet xs ms xs = true := by unfold inNet; exact eqL_iff.2 rfl
theorem inNet_symm (xs ms b : List UInt8) : inNet xs ms b = inNet b ms xs := by
  unfold inNet eqL
  rw [Bool.eq_iff_iff, decide_eq_true_iff, decide_eq_true_iff]
  exact eq_comm
theorem alikeL_one (b : List UInt8) (m : Nat) : alikeL [b] m = if goodA m b then [b] else [] := by
  unfold alikeL; simp [List.filter_cons]

theorem inNet_rows {al : List (List UInt8)} {ms a b : List UInt8} (hb : b ∈ al) : eqL (al.map (inNet a ms)) (al.map (inNet b ms)) = inNet a ms b := by
  cases h : inNet a ms b with
  | true => rw [inNet_same h]; exact eqL_iff.2 rfl
  | false =>
    unfold eqL
    rw [decide_eq_false_iff_not]
    intro e
    have := List.map_inj_left.1 e b hb
    rw [h, inNet_refl] at this
    cases this
end Go.Proofs.YtmfcgglgolajnaaDoor
