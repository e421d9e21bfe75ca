/-
  The type int; rows of ints of the call's own.
-/
import Derived.Test.YtmfcgglgolajnaaDoorMB
namespace Go.Proofs.YtmfcgglgolajnaaDoor
open Go.RowKit
set_option linter.unusedVariables false

theorem int_info : (Tryd.prog.info? 3).map (fun i => (i.zero, i.size, i.bytes)) = some (some (.int .i64 0), 1, 8) := by kernel_rfl

/-- A slice of ints comes back, in a row of its own, in new memory. -/
def RetIO (w : World) (zs : List Int) (e : Ending) (w' : World) : Prop := ∃ v, e = .returned v ∧ w'.ownsRow w.heap.size 3 1 v zs.length (zs.map (Value.int .i64)) ∧ Below w.heap.size w w'

theorem RI.of_own_av {w : World} {av : Nat → Prop} {n : Nat} {zs : List Int} {base : Nat} {e : TypeId} {v : Value} (h : w.ownsRow base e 1 v n (zs.map (Value.int .i64))) (hav : ∀ g, av g → g < base) : ∃ A c, v = .slice A n c ∧ RI w av A n c zs := by
  obtain ⟨A, c, e1, h1, h2, h3⟩ := Rd.of_own h
  refine ⟨A, c, e1, by have := h3.1; simpa using this, h1, h2, h3.1, fun hn => ?_⟩
  obtain ⟨g, o, e2, hg, _, hc⟩ := h3.2 hn
  refine ⟨g, o, e2, hg, fun hh => ?_, hc⟩
  have := (h.lt g (by rw [e1, e2]; rfl)).1
  have := hav g hh
  omega
end Go.Proofs.YtmfcgglgolajnaaDoor
