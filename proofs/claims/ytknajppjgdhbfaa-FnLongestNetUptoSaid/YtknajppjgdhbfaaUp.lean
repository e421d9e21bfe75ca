/-
  A region that draws its order, whose calls may make memory but hand back one value whatever lies above: one walk, in the order of the text. No program is named here.
-/
import Derived.Test.YtknajppjgdhbfaaAppend
import Derived.Deep.QuietTactic
import Derived.BigQuiet
namespace Go.Proofs.Ytknajppjgdhbfaa
open Go.RowKit

/-- A world that has grown out of u. -/
structure UpW (u : World) where
  w : World
  h : Below u.heap.size u w

instance (u : World) : Nonempty (UpW u) := ⟨⟨u, Below.refl _ _⟩⟩

theorem wp_region_up {P : Program} {id : Nat} {Q : Exit → Act → World → Prop} {a : Act} {u : World} {l : List Oper} (hm : P.follows .mixedOrders = true) (hB : Region.lexB .any l.toArray = true)
    (h : wpQuiet P l.toArray (fun w' => ∃ x : UpW u, w' = x.w) (fun a' => ∀ w', (∃ x : UpW u, w' = x.w) → Q .normal a' w') l a) : (Code.region id l.toArray true).wp P Q a u :=
  wp_region_quiet (C := fun w' => ∃ x : UpW u, w' = x.w) hm hB ⟨⟨u.drew, (Below.refl _ _).drew⟩, rfl⟩ (by simpa using h)
theorem Calls.up {P : Program} {f : FuncId} {args : Array Value} {u W : World} {v : Value} (h : Calls P f args W fun e w' => e = .returned v ∧ Below u.heap.size u w') : Calls P f args W fun e w'' => e = .returned v ∧ ∃ x : UpW u, w'' = x.w :=
  h.mono fun _ w' ⟨he, hb⟩ => ⟨he, ⟨w', hb⟩, rfl⟩
theorem UpW.cell {u : World} {a : Addr} {v : Value} (h : u.cell? a = some v) (x : UpW u) : x.w.cell? a = some v := (World.cell?_of_block (x.h.block a.block (World.block_lt_of_cell? _ _ h))).trans h
end Go.Proofs.Ytknajppjgdhbfaa
