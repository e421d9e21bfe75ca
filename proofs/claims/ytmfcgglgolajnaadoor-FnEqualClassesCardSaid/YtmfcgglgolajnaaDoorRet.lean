/-
  What calls give back: slices of bytes in new memory.
-/
import Derived.Test.YtmfcgglgolajnaaDoorAppend
namespace Go.Proofs.YtmfcgglgolajnaaDoor
open Go.RowKit

/-- A slice of bytes comes back, in new memory; nothing that was there has turned. -/
def RetBF (w : World) (bs : List UInt8) (e : Ending) (w' : World) : Prop := ∃ A c, e = .returned (.slice A bs.length c) ∧ RB w' (fun g => g < w.heap.size) A bs.length c bs ∧ Below w.heap.size w w'
end Go.Proofs.YtmfcgglgolajnaaDoor
