/-
  The prefix of the IPv4-mapped addresses (a variable of the package); IPv4, To16, bytealg.Equal and Equal.
-/
import Derived.Test.YtmfcgglgolajnaaDoorFour
import Derived.Test.YtmfcgglgolajnaaDoorStrs
import Derived.Test.YtmfcgglgolajnaaDoorRet
import Derived.Test.YtmfcgglgolajnaaDoorBlk
import Derived.Test.YtmfcgglgolajnaaDoorLong
import Derived.Laws.CopyOwn
import Derived.RegionTactic
namespace Go.Proofs.YtmfcgglgolajnaaDoor
open Go.RowKit
set_option linter.unusedVariables false

/-- The variable holds the prefix. -/
def PreIs (w : World) : Prop := ∃ A c, w.cell? ⟨0, 0, none⟩ = some (.slice A 12 c) ∧ RB w no A 12 c pre12
theorem PreIs.below {w w' : World} (h : PreIs w) (hb : Below w.heap.size w w') : PreIs w' := by
  obtain ⟨A, c, h1, h2⟩ := h
  exact ⟨A, c, by rw [hb.cell (World.block_lt_of_cell? w _ h1)]; exact h1, h2.below hb⟩


set_option maxRecDepth 100000 in
set_option maxHeartbeats 1600000 in
theorem ipv4_any (x0 x1 x2 x3 : UInt8) (w : World) (hp : PreIs w) :
    Calls Tryd.prog 48 #[.int .u8 (x0.toNat : Int), .int .u8 (x1.toNat : Int), .int .u8 (x2.toNat : Int), .int .u8 (x3.toNat : Int)] w (RetBF w (pre12 ++ [x0, x1, x2, x3])) := by
  obtain ⟨i0, hi, hz0, hz1, hz2⟩ := info_parts byte_info
  obtain ⟨A, c, hc, hA⟩ := hp
  have hc' : (w.alloc (.cells (timesOf 16 (.int .u8 0)).toArray 5)).cell? ⟨0, 0, none⟩ = some (.slice A 12 c) := by
    rw [((Below.refl w.heap.size w).alloc (Nat.le_refl _) _).cell (World.block_lt_of_cell? w _ hc)]; exact hc
  obtain ⟨g, o, _, rfl, _, _⟩ := hA.at_ (k := 0) (by omega)
  have hA' := hA.alloc (.cells (timesOf 16 (.int .u8 0)).toArray 5)
  have hblk := Blk.new w 5 (timesOf 16 (.int .u8 0))
  have hmk : ∀ W : World, (Instr.makeSlice 55 (.int .i64 16) (.int .i64 16)).run Tryd.prog W = .ok (.slice (some ⟨W.heap.size, 0, none⟩) 16 16) (W.alloc (.cells (timesOf 16 (.int .u8 0)).toArray 5)) := fun W => run_make1 (P := Tryd.prog) 55 5 i0 (.int .u8 0) Tryd.underlying55 hi hz0 hz1 rfl 16 (by rw [hz2]; omega) (by omega) W
  obtain ⟨w2, hrun, hbl2, hb2⟩ : ∃ w2, (Builtin.copy_ #[55, 22] 3 #[.slice (some ⟨w.heap.size, 0, none⟩) 16 16, .slice (some ⟨g, o, none⟩) 12 c]).run Tryd.prog (w.alloc (.cells (timesOf 16 (.int .u8 0)).toArray 5)) = .ok (.int .i64 12) w2 ∧
      Blk w2 w.heap.size 5 ((pre12 ++ [0, 0, 0, 0]).map fun b : UInt8 => .int .u8 (b.toNat : Int)) ∧ Below w.heap.size w w2 := by
    refine ⟨_, run_copy_row (P := Tryd.prog) _ _ _ _ 5 w.heap.size 0 16 16 ⟨g, o, none⟩ 12 c (timesOf 16 (.int .u8 0)).toArray 5 (pre12.map fun b : UInt8 => .int .u8 (b.toNat : Int)) Tryd.underlying55 (by rw [hi]; simp [hz1]) hblk rfl ?_ (by decide) ?_, ?_, ?_⟩
    · intro j v hv
      obtain ⟨g', o', e, _, _, h⟩ := hA'.2.2.2.2 (by omega)
      cases e
      rw [add_at]
      exact h j v hv
    · intro v hv; simp [pre12] at hv; rcases hv with rfl | rfl <;> rfl
    · exact setRow_heap _ _ _ _ _ _ hblk
    · exact below_setRow ((Below.refl w.heap.size w).alloc (Nat.le_refl _) _) (Nat.le_refl _) _
  have cells : ∀ (u : World), Blk u w.heap.size 5 ((pre12 ++ [0, 0, 0, 0]).map fun b : UInt8 => .int .u8 (b.toNat : Int)) → True := fun _ _ => trivial
  have h12 : w2.cell? ⟨w.heap.size, 12, none⟩ = some (.int .u8 0) := by rw [hbl2.cell]; rfl
  have f12 : w2.frozen? ⟨w.heap.size, 12, none⟩ = false := hbl2.frozen 12
  have hbl3 := hbl2.set_ 12 (.int .u8 (x0.toNat : Int))
  have h13 : (w2.setCell ⟨w.heap.size, 12, none⟩ (.int .u8 (x0.toNat : Int))).cell? ⟨w.heap.size, 13, none⟩ = some (.int .u8 0) := by rw [hbl3.cell]; rfl
  have f13 := hbl3.frozen 13
  have hbl4 := hbl3.set_ 13 (.int .u8 (x1.toNat : Int))
  have h14 : ((w2.setCell ⟨w.heap.size, 12, none⟩ (.int .u8 (x0.toNat : Int))).setCell ⟨w.heap.size, 13, none⟩ (.int .u8 (x1.toNat : Int))).cell? ⟨w.heap.size, 14, none⟩ = some (.int .u8 0) := by rw [hbl4.cell]; rfl
  have f14 := hbl4.frozen 14
  have hbl5 := hbl4.set_ 14 (.int .u8 (x2.toNat : Int))
  have h15 : (((w2.setCell ⟨w.heap.size, 12, none⟩ (.int .u8 (x0.toNat : Int))).setCell ⟨w.heap.size, 13, none⟩ (.int .u8 (x1.toNat : Int))).setCell ⟨w.heap.size, 14, none⟩ (.int .u8 (x2.toNat : Int))).cell? ⟨w.heap.size, 15, none⟩ = some (.int .u8 0) := by rw [hbl5.cell]; rfl
  have f15 := hbl5.frozen 15
  have Hbl := hide (hbl5.set_ 15 (.int .u8 (x3.toNat : Int)))
  have Hb := hide hb2
  clear hc hA hA' hblk hbl2 hbl3 hbl4 hbl5 hb2 cells
  go_enter Tryd.func48, Tryd.ntmps48
  go_wp2_with fail
  go_ret
  refine ⟨some ⟨w.heap.size, 0, none⟩, 16, rfl, ?_, (((Hb.out.setCell (Nat.le_refl _) _).setCell (Nat.le_refl _) _).setCell (Nat.le_refl _) _).setCell (Nat.le_refl _) _⟩
  exact Blk.rb (t := 5) Hbl.out (Nat.lt_irrefl _) rfl (Nat.le_refl _) (by unfold maxLen; omega)
end Go.Proofs.YtmfcgglgolajnaaDoor
