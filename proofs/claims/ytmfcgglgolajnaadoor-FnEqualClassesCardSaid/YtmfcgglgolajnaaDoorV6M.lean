/-
  The 16 bytes that parseIPv6 fills: written in a row, shifted for the gap. No program is named here.
-/
import Derived.Test.YtmfcgglgolajnaaDoorV4
import Derived.Test.YtmfcgglgolajnaaDoorV6L
import Derived.Lib.SliceRun
namespace Go.Proofs.YtmfcgglgolajnaaDoor
open Go.RowKit
set_option linter.unusedVariables false

theorem put4_put4 {xs : List Value} {done fs : List UInt8} (h : done.length + fs.length ≤ xs.length) : put4 (put4 xs 0 done) done.length fs = put4 xs 0 (done ++ fs) := by
  unfold put4
  simp only [List.take_zero, List.nil_append, Nat.zero_add]
  have h1 : ((done.map fun b => Value.int .u8 (b.toNat : Int)) ++ xs.drop done.length).take done.length = done.map fun b => Value.int .u8 (b.toNat : Int) := by
    rw [List.take_append_of_le_length (by simp)]; rw [List.take_of_length_le (by simp)]
  have h2 : ((done.map fun b => Value.int .u8 (b.toNat : Int)) ++ xs.drop done.length).drop (done.length + fs.length) = xs.drop (done ++ fs).length := by
    rw [List.drop_append, List.drop_eq_nil_of_le (by simp), List.nil_append, List.length_map, List.drop_drop, List.length_append]
    congr 1
    omega
  rw [h1, h2, List.map_append, List.append_assoc]

/-- Sixteen zeros, as values. -/
def zs16 : List Value := List.replicate 16 (.int .u8 0)
/-- The bytes at hand: as many as are done, and zeros. -/
def by0 (done : List UInt8) : List UInt8 := done ++ List.replicate (16 - done.length) 0
theorem by0_length {done : List UInt8} (h : done.length ≤ 16) : (by0 done).length = 16 := by unfold by0; simp; omega
def byV (bs : List UInt8) : List Value := bs.map fun b => .int .u8 (b.toNat : Int)
theorem put4_by0 {done : List UInt8} (h : done.length ≤ 16) : put4 zs16 0 done = byV (by0 done) := by
  unfold put4 zs16 by0 byV
  simp only [List.take_zero, List.nil_append, Nat.zero_add, List.map_append, List.map_replicate, List.drop_replicate]
  rfl

/-- The gap is being made: the last ones from k on stand n further on. -/
def shif (done : List UInt8) (n k : Nat) : List UInt8 := (by0 done).take (k + n) ++ done.drop k
theorem shif_start {done : List UInt8} {n : Nat} (h : done.length + n = 16) : shif done n done.length = by0 done := by
  unfold shif
  rw [List.drop_length, List.append_nil, List.take_of_length_le (by rw [by0_length (by omega)]; omega)]
theorem shif_length {done : List UInt8} {n k : Nat} (h : done.length + n = 16) (hk : k ≤ done.length) : (shif done n k).length = 16 := by
  unfold shif
  rw [List.length_append, List.length_take, by0_length (by omega), List.length_drop]
  omega
theorem shif_get {done : List UInt8} {n k : Nat} (h : done.length + n = 16) (hn : 0 < n) (hk : k < done.length) : (shif done n (k + 1))[k]? = done[k]? := by
  unfold shif
  rw [List.getElem?_append_left (by rw [List.length_take, by0_length (by omega)]; omega), List.getElem?_take, if_pos (by omega)]
  unfold by0
  rw [List.getElem?_append_left hk]
theorem shif_step {done : List UInt8} {n k : Nat} {x : UInt8} (h : done.length + n = 16) (hk : k < done.length) (hx : done[k]? = some x) : (shif done n (k + 1)).set (k + n) x = shif done n k := by
  have hl : (by0 done).length = 16 := by0_length (by omega)
  unfold shif
  have e1 : (by0 done).take (k + 1 + n) = (by0 done).take (k + n) ++ [(by0 done)[k + n]'(by omega)] := by
    rw [show k + 1 + n = (k + n) + 1 by omega, List.take_succ_eq_append_getElem (by omega)]
  have e2 : done.drop k = x :: done.drop (k + 1) := by
    rw [List.getElem?_eq_getElem hk] at hx
    injection hx with hx
    rw [← hx]
    exact (List.getElem_cons_drop hk).symm
  rw [e1, e2, List.set_append_left (i := k + n) _ (by simp; omega), List.set_append_right (i := k + n) _ (by simp; omega)]
  rw [show k + n - ((by0 done).take (k + n)).length = 0 by simp; omega]
  simp
/-- .. and filled with zeros. -/
theorem shif_clear {done : List UInt8} {n e : Nat} (h : done.length + n = 16) (he : e ≤ done.length) :
    (shif done n e).take e ++ List.replicate n 0 ++ (shif done n e).drop (e + n) = done.take e ++ List.replicate n 0 ++ done.drop e := by
  have hl : (by0 done).length = 16 := by0_length (by omega)
  have h1 : (shif done n e).take e = done.take e := by
    unfold shif
    rw [List.take_append_of_le_length (by rw [List.length_take, hl]; omega), List.take_take, Nat.min_eq_left (by omega)]
    unfold by0
    rw [List.take_append_of_le_length he]
  have h2 : (shif done n e).drop (e + n) = done.drop e := by
    unfold shif
    rw [List.drop_append, List.drop_eq_nil_of_le (by rw [List.length_take]; omega), List.nil_append, List.length_take, hl, show e + n - min (e + n) 16 = 0 by omega, List.drop_zero]
  rw [h1, h2]

/-- What the block of sixteen bytes holds now; all else is as it was in W. -/
def IP6 (W : World) (g : Nat) (t : TypeId) (bs : List UInt8) (wr : World) : Prop :=
  Blk wr g t (byV bs) ∧ Kept (just g) W wr ∧ wr.os = W.os ∧ wr.tape = W.tape ∧ wr.output = W.output ∧ wr.heap.size = W.heap.size
theorem IP6.of_fw {W wr : World} {g : Nat} {t : TypeId} {done : List UInt8} (h : FW W g t zs16 0 done wr) (hd : done.length ≤ 16) : IP6 W g t (by0 done) wr := by
  obtain ⟨h1, h2⟩ := h
  rw [put4_by0 hd] at h1
  exact ⟨h1, h2⟩
theorem IP6.set {W wr : World} {g : Nat} {t : TypeId} {bs : List UInt8} (h : IP6 W g t bs wr) (i : Nat) (x : UInt8) : IP6 W g t (bs.set i x) (wr.setCell ⟨g, i, none⟩ (.int .u8 (x.toNat : Int))) := by
  obtain ⟨h1, h2, h3, h4, h5, h6⟩ := h
  refine ⟨?_, h2.trans Kept.setCell, h3, h4, h5, by simp [World.setCell, h6]⟩
  have := h1.set_ i (.int .u8 (x.toNat : Int))
  unfold byV at this ⊢
  rw [List.map_set]
  exact this
theorem set_zero {bs : List UInt8} {o n : Nat} (h : o + (n + 1) ≤ bs.length) : (bs.set o 0).take (o + 1) ++ List.replicate n 0 ++ (bs.set o 0).drop (o + 1 + n) = bs.take o ++ List.replicate (n + 1) 0 ++ bs.drop (o + (n + 1)) := by
  have h1 : (bs.set o 0).take (o + 1) = bs.take o ++ [0] := by
    rw [List.take_succ_eq_append_getElem (by simp; omega), List.getElem_set_self, List.take_set_of_le (Nat.le_refl _)]
  rw [h1, List.drop_set_of_lt (by omega), List.replicate_succ]
  simp [Nat.add_comm, Nat.add_left_comm]
theorem IP6.clear {W : World} {g : Nat} {t : TypeId} : ∀ (n o : Nat) (bs : List UInt8) (wr : World), IP6 W g t bs wr → o + n ≤ bs.length → IP6 W g t (bs.take o ++ List.replicate n 0 ++ bs.drop (o + n)) (wr.setCells g o (List.replicate n (.int .u8 0)))
  | 0, o, bs, wr, h, _ => by
    have e : bs.take o ++ List.replicate 0 0 ++ bs.drop (o + 0) = bs := by simp
    rw [e]; exact h
  | n + 1, o, bs, wr, h, hl => by
    have h1 := IP6.clear n (o + 1) (bs.set o 0) (wr.setCell ⟨g, o, none⟩ (.int .u8 0)) (h.set o 0) (by simp; omega)
    rw [set_zero (by omega)] at h1
    exact h1
theorem IP6.below {W wr : World} {g : Nat} {t : TypeId} {bs : List UInt8} (h : IP6 W g t bs wr) {B : Nat} (hB : B ≤ g) (hw : B ≤ W.heap.size) : Below B W wr :=
  ⟨h.2.2.1, h.2.2.2.1, h.2.2.2.2.1, h.2.1.1, fun k hk => h.2.1.2 k (by omega) (by unfold just; omega)⟩
theorem FW.join {W w1 wr : World} {g : Nat} {t : TypeId} {done fs : List UInt8} (h : FW W g t zs16 0 done w1) (k : FW w1 g t (put4 zs16 0 done) done.length fs wr) (hl : done.length + fs.length ≤ 16) : FW W g t zs16 0 (done ++ fs) wr := by
  obtain ⟨h1, h2, h3, h4, h5, h6⟩ := h
  obtain ⟨k1, k2, k3, k4, k5, k6⟩ := k
  rw [put4_put4 (by unfold zs16; simpa using hl)] at k1
  exact ⟨k1, h2.trans k2, k3.trans h3, k4.trans h4, k5.trans h5, k6.trans h6⟩
end Go.Proofs.YtmfcgglgolajnaaDoor
