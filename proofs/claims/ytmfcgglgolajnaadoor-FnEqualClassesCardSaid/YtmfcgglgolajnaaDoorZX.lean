/-
  The handles and the blocks that they lie in; comparing them.
-/
import Derived.Test.YtmfcgglgolajnaaDoorP4
import Derived.Test.YtmfcgglgolajnaaDoorZone
import Derived.LaidEql
namespace Go.Proofs.YtmfcgglgolajnaaDoor
open Go.RowKit
set_option linter.unusedVariables false

structure ZX (w : World) (g4 o4 g6 o6 : Nat) : Prop where
  z : ZIs w g4 o4 g6 o6
  p4 : ∃ c t, w.heap[g4]? = some (.cells c t (0, 0))
  p6 : ∃ c t, w.heap[g6]? = some (.cells c t (0, 0))
theorem ZX.below {w w' : World} {g4 o4 g6 o6 : Nat} (h : ZX w g4 o4 g6 o6) (hb : Below w.heap.size w w') : ZX w' g4 o4 g6 o6 := by
  obtain ⟨hz, ⟨c, t, h4⟩, ⟨c', t', h6⟩⟩ := h
  exact ⟨hz.below hb, ⟨c, t, (hb.block g4 (block_lt h4)).trans h4⟩, ⟨c', t', (hb.block g6 (block_lt h6)).trans h6⟩⟩
theorem ZX.drew {w : World} {g4 o4 g6 o6 : Nat} (h : ZX w g4 o4 g6 o6) : ZX w.drew g4 o4 g6 o6 := h.below ((Below.refl _ _).drew)
theorem ZX.alloc {w : World} {g4 o4 g6 o6 : Nat} (h : ZX w g4 o4 g6 o6) (ob : Obj) : ZX (w.alloc ob) g4 o4 g6 o6 := h.below ((Below.refl _ _).alloc (Nat.le_refl _) _)
theorem ZX.ne {w : World} {g4 o4 g6 o6 : Nat} (h : ZX w g4 o4 g6 o6) : (⟨g6, o6, none⟩ : Addr) ≠ ⟨g4, o4, none⟩ := by
  intro e
  injection e with e1 e2
  subst e1 e2
  have := h.z.b4.symm.trans h.z.b6
  simp at this
theorem ZX.eq46d (d : Nat) {w : World} {g4 o4 g6 o6 : Nat} (h : ZX w g4 o4 g6 o6) : (Op.equalIn (d + 1) 85 (.pointer (some ⟨g6, o6, none⟩)) (.pointer (some ⟨g4, o4, none⟩))).run Tryd.prog w = .ok false w := by
  obtain ⟨c, t, h4⟩ := h.p4
  obtain ⟨c', t', h6⟩ := h.p6
  have hu : Tryd.prog.underlying 85 = some (.pointer 106) := by kernel_rfl
  obtain ⟨j, hj⟩ : ∃ j, Tryd.prog.info? 106 = some j := by
    cases h : Tryd.prog.info? 106 with
    | none => exact absurd h (by
        intro h
        have : (Tryd.prog.info? 106).isSome = true := by kernel_rfl
        rw [h] at this; cases this)
    | some j => exact ⟨j, rfl⟩
  have hsz : j.size ≠ 0 := by
    have : Tryd.prog.cellsOf 106 = 2 := by kernel_rfl
    unfold Program.cellsOf at this
    rw [hj] at this
    simp at this
    omega
  have hs := run_sameAddr_other (P := Tryd.prog) w h.ne h6 h4
  simp [Op.equalIn, run_underlying hu, sizeOf, typeInfo, hj, hsz, hs]
theorem ZX.eq46 {w : World} {g4 o4 g6 o6 : Nat} (h : ZX w g4 o4 g6 o6) : (Op.equalIn 9999 85 (.pointer (some ⟨g6, o6, none⟩)) (.pointer (some ⟨g4, o4, none⟩))).run Tryd.prog w = .ok false w := h.eq46d 9998
end Go.Proofs.YtmfcgglgolajnaaDoor
