/-
  A row of bytes of the call's own that grows. 
-/
import Derived.Test.YtmfcgglgolajnaaDoorBase
import Derived.Test.YtmfcgglgolajnaaDoorDecL
import Derived.Test.YtmfcgglgolajnaaDoorV6M
namespace Go.Proofs.YtmfcgglgolajnaaDoor
open Go.RowKit
set_option linter.unusedVariables false

def Own (base : Nat) (bs : List UInt8) (v : Value) (w : World) : Prop := w.ownsRow base 5 1 v bs.length (byV bs)
/-- All blocks that were there, but the row's, are as they were. -/
structure Grew (v : Value) (w w' : World) : Prop where
  kept : Kept (rowOf v) w w'
  os : w'.os = w.os
  tape : w'.tape = w.tape
  output : w'.output = w.output
/-- The row lies where it lay, or in new memory. -/
def Moved (v v' : Value) (w : World) : Prop := ∀ g, v'.ownBlock = some g → v.ownBlock = some g ∨ w.heap.size ≤ g
theorem Moved.refl (v : Value) (w : World) : Moved v v w := fun _ h => Or.inl h
theorem Grew.refl (v : Value) (w : World) : Grew v w w := ⟨Kept.refl _ _, rfl, rfl, rfl⟩
theorem Moved.trans {v v1 v2 : Value} {w w1 : World} (h : Moved v v1 w) (k : Moved v1 v2 w1) (hs : w.heap.size ≤ w1.heap.size) : Moved v v2 w := fun g hg => by
  rcases k g hg with h1 | h1
  · exact h g h1
  · exact Or.inr (Nat.le_trans hs h1)
theorem Grew.trans {v v1 : Value} {w w1 w2 : World} (h : Grew v w w1) (hm : Moved v v1 w) (k : Grew v1 w1 w2) : Grew v w w2 :=
  ⟨⟨Nat.le_trans h.kept.1 k.kept.1, fun i hi hn => (k.kept.2 i (Nat.lt_of_lt_of_le hi h.kept.1) (fun e => by
    rcases hm i e with h1 | h1
    · exact hn h1
    · omega)).trans (h.kept.2 i hi hn)⟩, k.os.trans h.os, k.tape.trans h.tape, k.output.trans h.output⟩
/-- A call in between that makes memory alone. -/
theorem Grew.of_below {v : Value} {w w' : World} (h : Below w.heap.size w w') : Grew v w w' := ⟨Kept.of_below h _, h.os, h.tape, h.output⟩
theorem Grew.below {v : Value} {w w' : World} {base : Nat} {bs : List UInt8} (h : Grew v w w') (ho : Own base bs v w) (hb : base ≤ w.heap.size) : Below base w w' :=
  ⟨h.os, h.tape, h.output, h.kept.1, fun k hk => h.kept.2 k (Nat.lt_of_lt_of_le hk hb) (fun e => by
    have := (ho.lt k e).1
    omega)⟩
theorem Own.below {w w' : World} {base : Nat} {bs : List UInt8} {v : Value} (h : Own base bs v w) (hb : Below w.heap.size w w') : Own base bs v w' := own_below h hb
theorem Own.alloc {w : World} {base : Nat} {bs : List UInt8} {v : Value} (h : Own base bs v w) (o : Obj) : Own base bs v (w.alloc o) := World.ownsRow.alloc h o
/-- A block that is no part of the row. -/
theorem Grew.blk {v : Value} {w w' : World} {g : Nat} {t : TypeId} {xs : List Value} (h : Grew v w w') (hb : Blk w g t xs) (hn : ¬ rowOf v g) : Blk w' g t xs := hb.keep h.kept hn
/-- What a function that appends hands back. -/
def AppR (base : Nat) (v : Value) (w : World) (bs : List UInt8) (e : Ending) (w' : World) : Prop := ∃ v', e = .returned v' ∧ Own base bs v' w' ∧ Grew v w w' ∧ Moved v v' w

theorem push_step {base : Nat} {w w2 : World} {v v' : Value} {bs : List UInt8} {x : UInt8} (q1 : w2.ownsRow base 5 1 v' (bs.length + 1) (byV bs ++ [.int .u8 (x.toNat : Int)]))
    (q2 : (w.alloc (.cells #[.int .u8 (x.toNat : Int)] 5)).grownBy w2 v.ownBlock) (q3 : v'.ownBlock = v.ownBlock ∨ v'.ownBlock = some (w.heap.size + 1)) :
    Own base (bs ++ [x]) v' w2 ∧ Grew v w w2 ∧ Moved v v' w := by
  refine ⟨?_, ?_, ?_⟩
  · unfold Own byV
    rw [List.length_append, List.map_append]
    exact q1
  · have hk : Kept (rowOf v) w w2 := (Kept.alloc (rowOf v) w _).trans (Kept.of_grown q2)
    exact ⟨hk, q2.os, q2.tape, q2.output⟩
  · intro g hg
    rcases q3 with q3 | q3
    · exact Or.inl (by rw [← q3]; exact hg)
    · rw [q3] at hg
      injection hg with hg
      exact Or.inr (by omega)
end Go.Proofs.YtmfcgglgolajnaaDoor
