/-
  The contracts of Handle.Value and Addr.Zone.
-/
import Derived.Test.YtmfcgglgolajnaaDoorA4
namespace Go.Proofs.YtmfcgglgolajnaaDoor
open Go.RowKit
set_option linter.unusedVariables false

theorem cell_alloc1 {w : World} {a : Addr} {v : Value} (h : w.cell? a = some v) (o1 : Obj) : (w.alloc o1).cell? a = some v :=
  (World.cell?_of_block (Below.heap_alloc w o1 a.block (World.block_lt_of_cell? _ _ h))).trans h
theorem cell_alloc2 {w : World} {a : Addr} {v : Value} (h : w.cell? a = some v) (o1 o2 : Obj) : ((w.alloc o1).alloc o2).cell? a = some v := cell_alloc1 (cell_alloc1 h o1) o2

set_option maxRecDepth 100000 in
set_option maxHeartbeats 800000 in
theorem value_any (g o : Nat) (b : Bool) (z : ByteArray) (w : World) (h1 : w.cell? ⟨g, o, none⟩ = some (.bool b)) (h2 : w.cell? ⟨g, o + 1, none⟩ = some (.string z)) :
    Calls Tryd.prog 70 #[.agg #[.pointer (some ⟨g, o, none⟩)]] w fun e w' => e = .returned (.agg #[.bool b, .string z]) ∧ Below w.heap.size w w' := by
  have k1 := cell_alloc2 h1
  have k2 := cell_alloc2 h2
  have hB : Hid (∀ o1 o2, Below w.heap.size w ((w.alloc o1).alloc o2)) := hide (fun o1 o2 => ((Below.refl _ _).alloc (Nat.le_refl _) _).alloc (by simp) _)
  go_enter Tryd.func70, Tryd.ntmps70
  go_wp2_with fail
  refine bodyPost_ret (v := .agg #[.bool b, .string z]) (by simp [results, Tryd.results70, go_sem]) rfl ⟨rfl, hB.out _ _⟩

theorem run_eq_some (d : Nat) (a : Addr) (w : World) : (Op.equalIn (d + 1) 85 (.pointer (some a)) (.pointer none)).run Tryd.prog w = .ok false w := by
  have hu : Tryd.prog.underlying 85 = some (.pointer 106) := by kernel_rfl
  simp [Op.equalIn, run_underlying hu]
theorem run_eq_nil (g o : Nat) (w : World) : (Op.equalIn 9999 85 (.pointer (some ⟨g, o, none⟩)) (.pointer none)).run Tryd.prog w = .ok false w := run_eq_some 9998 _ w

theorem run_field1 (b : Bool) (z : ByteArray) (w : World) : (Instr.field 106 (.agg #[.bool b, .string z]) 1).run Tryd.prog w = .ok (.string z) w := by
  have hu := Tryd.underlying106
  simp [Instr.field, run_underlying hu, go_sem, asAgg]

set_option maxRecDepth 100000 in
set_option maxHeartbeats 800000 in
theorem zone_any (hi lo g o : Nat) (b : Bool) (z : ByteArray) (w : World) (h0 : w.cell? ⟨2, 0, none⟩ = some (.pointer none)) (h1 : w.cell? ⟨g, o, none⟩ = some (.bool b)) (h2 : w.cell? ⟨g, o + 1, none⟩ = some (.string z)) :
    Calls Tryd.prog 59 #[addrV hi lo (some ⟨g, o, none⟩)] w fun e w' => e = .returned (.string z) ∧ Below w.heap.size w w' := by
  have k0 := cell_alloc1 h0
  have Hc := hide (fun o1 => value_any g o b z (w.alloc o1) (cell_alloc1 h1 o1) (cell_alloc1 h2 o1))
  have hB : Hid (∀ o1, Below w.heap.size w (w.alloc o1)) := hide (fun o1 => (Below.refl _ _).alloc (Nat.le_refl _) _)
  have hq := run_eq_nil g o
  have hf := run_field1 b z
  unfold addrV
  go_enter Tryd.func59, Tryd.ntmps59
  go_wp2_with fail
  refine (Hc.out _).mono ?_
  rintro e w1 ⟨rfl, hb1⟩
  have Hb1 := hide ((hB.out _).trans (hb1.mono (by simp)))
  clear hb1
  go_wp2_with fail
  go_ret
  exact ⟨rfl, Hb1.out⟩
end Go.Proofs.YtmfcgglgolajnaaDoor
