/-
  The contracts of Mask (address and mask of one length, 4 or 16) and MaskEach.
-/
import Derived.Test.YtknajppjgdhbfaaDoorBase
import Derived.Test.YtknajppjgdhbfaaDoorPlain2
import Derived.Test.YtknajppjgdhbfaaDoorBlk
import Derived.Test.YtknajppjgdhbfaaDoorRet
import Derived.RegionTactic
namespace Go.Proofs.YtknajppjgdhbfaaDoor
open Go.RowKit
set_option linter.unusedVariables false

/-- The bits that the mask has. -/
def masked (xs ms : List UInt8) : List UInt8 := List.zipWith (· &&& ·) xs ms
theorem masked_length {xs ms : List UInt8} {n : Nat} (hx : xs.length = n) (hm : ms.length = n) : (masked xs ms).length = n := by
  unfold masked; rw [List.length_zipWith]; omega

/-- The first i places are done. -/
def maskTo (xs ms : List UInt8) (n i : Nat) : List UInt8 := (masked xs ms).take i ++ List.replicate (n - i) 0
theorem maskTo_set {xs ms : List UInt8} {n i : Nat} {x m : UInt8} (hl : (masked xs ms).length = n) (hx : xs[i]? = some x) (hm : ms[i]? = some m) (hi : i < n) : (maskTo xs ms n i).set i (x &&& m) = maskTo xs ms n (i + 1) := by
  unfold maskTo
  have hz : (masked xs ms)[i]? = some (x &&& m) := zip_at hx hm
  have hl' : ((masked xs ms).take i).length = i := by rw [List.length_take]; omega
  rw [take_snoc hz, List.set_append, if_neg (by omega), hl', Nat.sub_self, show n - i = (n - (i + 1)) + 1 by omega, List.replicate_succ, List.set_cons_zero, List.append_assoc]
  rfl

def MkR (w : World) (xs ms : List UInt8) (n i : Nat) (wr : World) : Prop := Blk wr w.heap.size 5 ((maskTo xs ms n i).map fun b => .int .u8 (b.toNat : Int)) ∧ Below w.heap.size w wr
theorem MkR.start {w : World} (xs ms : List UInt8) (n q : Nat) : MkR w xs ms n 0 ((w.drewN q).alloc (.cells (timesOf n (.int .u8 0)).toArray 5)) := by
  refine ⟨?_, (below_drewN (Below.refl _ _) q).alloc (Nat.le_refl _) _⟩
  have := Blk.new (w.drewN q) 5 (timesOf n (.int .u8 0))
  unfold maskTo
  rw [List.take_zero, List.nil_append, Nat.sub_zero, List.map_replicate]
  exact this
theorem MkR.step {w wr : World} {xs ms : List UInt8} {n i : Nat} {x m : UInt8} (h : MkR w xs ms n i wr) (hl : (masked xs ms).length = n) (hx : xs[i]? = some x) (hm : ms[i]? = some m) (hi : i < n) :
    MkR w xs ms n (i + 1) (wr.setCell ⟨w.heap.size, i, none⟩ (.int .u8 ((x.toNat &&& m.toNat : Nat) : Int))).drew := by
  obtain ⟨h1, h2⟩ := h
  refine ⟨?_, (h2.setCell (Nat.le_refl _) _).drew⟩
  have := h1.set_ i (.int .u8 ((x &&& m).toNat : Int))
  rw [← maskTo_set hl hx hm hi, List.map_set, ← UInt8.toNat_and]
  exact this

set_option maxRecDepth 100000 in
set_option maxHeartbeats 3200000 in
theorem mask_any (A M : Option Addr) (n c d : Nat) (xs ms : List UInt8) (w : World) (av bv : Nat → Prop) (ha : RB w av A n c xs) (hM : RB w bv M n d ms) (hn : n = 4 ∨ n = 16) :
    Calls Tryd.prog 14 #[.slice A n c, .slice M n d] w (RetBF w (masked xs ms)) := by
  obtain ⟨i0, hi, hz0, hz1, hz2⟩ := info_parts byte_info
  have hml := masked_length ha.len hM.len
  have Ha := hide ha.free
  have HM := hide hM.free
  have Hml := hide hml
  have hn16 : n ≤ 16 := by omega
  have hne : ((n : Int) != (n : Int)) = false := by simp
  have hmk := fun W => run_make1 (P := Tryd.prog) 35 5 i0 (.int .u8 0) Tryd.underlying35 hi hz0 hz1 rfl n (by rw [hz2]; omega) (by omega) W
  have hst := fun q => MkR.start (w := w) xs ms n q
  have Hst := hide hst
  clear ha hM hml hst
  have hcase : ((n : Int) == 16) = false ∧ ((n : Int) == 4) = true ∨ ((n : Int) == 16) = true ∧ ((n : Int) == 4) = false := by
    rcases hn with rfl | rfl <;> simp
  clear hn
  rcases hcase with ⟨t1, t2⟩ | ⟨t1, t2⟩
  all_goals
    go_enter Tryd.func14, Tryd.ntmps14
    go_wp2_with fail
    go_quiet (fail)
    go_wp2_with fail
    clear hmk
    go_loopw [7] (fun i wr => ∃ j : Nat, j ≤ n ∧ i = .int .i64 j ∧ MkR w xs ms n j wr) (fun i _ => n - (intOf i).toNat)
    case atStart => exact ⟨0, Nat.zero_le _, rfl, Hst.out _⟩
    case round =>
      obtain ⟨j, hj, rfl, hr⟩ := hrel
      have Hr := hide hr
      by_cases hlt : j < n
      · obtain ⟨g, o, x, rfl, hx, hc⟩ := (Ha.out.below hr.2).at_ hlt
        obtain ⟨g2, o2, m, rfl, hm, hcm⟩ := (HM.out.below hr.2).at_ hlt
        obtain ⟨u, hu⟩ : ∃ u, ((maskTo xs ms n j).map fun b : UInt8 => Value.int .u8 (b.toNat : Int))[j]? = some u := ⟨_, List.getElem?_eq_getElem (by
          unfold maskTo
          have := Hml.out
          simp
          omega)⟩
        have hcell : wr.cell? ⟨w.heap.size, j, none⟩ = some u := by rw [hr.1.cell, hu]
        have hfz : wr.frozen? ⟨w.heap.size, j, none⟩ = false := hr.1.frozen j
        have i1 : (0 : Int) ≤ j := by omega
        have i2 : (j : Int) < n := by omega
        have hand := u8_and_nat _ _ x.toNat_lt m.toNat_lt
        have Hs := hide (Hr.out.step Hml.out hx hm hlt)
        clear hr hu hx hm
        go_wp2_with fail
        go_region
        go_wp2_with fail
        go_roundw
        case rel => exact ⟨j + 1, by omega, by go_num, Hs.out⟩
        case measure => simp [intOf]; omega
      · obtain rfl : j = n := by omega
        clear hr
        go_wp2_with fail
        go_ret
        have h1 := Hr.out
        unfold MkR maskTo at h1
        rw [Nat.sub_self, List.replicate_zero, List.append_nil, List.take_of_length_le (by rw [Hml.out]; omega)] at h1
        refine ⟨_, j, by rw [Hml.out]; rfl, ?_, h1.2⟩
        rw [Hml.out]
        exact h1.1.rb (by omega) Hml.out (Nat.le_refl _) (by unfold maxLen; omega)
end Go.Proofs.YtknajppjgdhbfaaDoor
