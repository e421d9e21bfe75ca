/-
  No cell of these rows narrows 'for every input' (looked for: loops, veiled, ifaces, maps, wideKeys, modest, calm, conditions, laid).
  DERIVED. THE GIVEN ROWS OF THIS SEAT. 2 by the template 'for every input the law returns true; each argument reads behind the call as it read before'; 0 by the template 'total and deterministic' (their statements: YtbpecepegceleaaTotals.lean).
  GIVEN WITH THE SEED: the statements are not yours to turn. If you find one false, say at which input.
  Laid BY PROGRAM, IN A SANDBOX (cutbox-rows.mjs): the forced cells as the released guide's own fill.sh prints them over the translation 4c76b8f09ce91a47… (all of the seat's roots in one cut). By AI agents, Wed Nov 11 2026. No macro, syntax, notation, axiom, sorry.
-/
import Derived.Test.YtbpecepegceleaaChecked
import GoSem.Claim
import GoSem.ClaimJoined
import GoSem.ClaimMapViews
import Derived.JoinedTies
import Derived.KernelRfl
namespace Go.Proofs.Ytbpecepegceleaa
/- THE CELL 'sum', in the pinned program and in every row, IS THE sha256 OF THE DUMP (.gsa) THAT YtbpecepegceleaaProg.lean LOADS. Nothing in Lean hashes anything: it is a label: what it is worth is what the hold of that sum in a sandbox is worth. -/
noncomputable def Try.pinned : Pinned := { name := "ytbpecepegceleaa", sum := "4c76b8f09ce91a47548477b434e6ae1f3debc7bb078a9357a172778b7ef676c0", checked := Try.checked }
namespace Rows
def none {H : Type} : Left H := { results := [], args := [] }

/-- 'laws.FnMasksInText': WHATEVER THE INPUT: true; the input reads as it did. -/
def fnMasksInTextSpec : ChangeSpec := { name := "fnMasksInText", fn := fun _ => fun
  | [d1, d2] => { results := [.lit (.bool true)], args := [d1, d2] }
  | _ => none }
def fnMasksInTextRow : OpenClaim := { program := "ytbpecepegceleaa", sum := "4c76b8f09ce91a47548477b434e6ae1f3debc7bb078a9357a172778b7ef676c0", func := "loop.example/lib-g01431/laws.FnMasksInText", spec := "fnMasksInText", apart := false }
def FnMasksInTextSaid : Prop := fnMasksInTextRow.holds Try.pinned (OpenSpec.ofChange fnMasksInTextSpec)

/-- ITS FALSE NEIGHBOUR: 'it returns false'. Refute it at one input. -/
def fnMasksInTextWrong : ChangeSpec := { name := "fnMasksInText", fn := fun _ => fun
  | [d1, d2] => { results := [.lit (.bool false)], args := [d1, d2] }
  | _ => none }
def FnMasksInTextWrongFalsely : Prop := fnMasksInTextRow.holds Try.pinned (OpenSpec.ofChange fnMasksInTextWrong)

/-- 'laws.FnExactSizeEach': WHATEVER THE INPUT: true; the input reads as it did. -/
def fnExactSizeEachSpec : ChangeSpec := { name := "fnExactSizeEach", fn := fun _ => fun
  | [d] => { results := [.lit (.bool true)], args := [d] }
  | _ => none }
def fnExactSizeEachRow : OpenClaim := { program := "ytbpecepegceleaa", sum := "4c76b8f09ce91a47548477b434e6ae1f3debc7bb078a9357a172778b7ef676c0", func := "loop.example/lib-g01431/laws.FnExactSizeEach", spec := "fnExactSizeEach", apart := false }
def FnExactSizeEachSaid : Prop := fnExactSizeEachRow.holds Try.pinned (OpenSpec.ofChange fnExactSizeEachSpec)

/-- ITS FALSE NEIGHBOUR: 'it returns false'. Refute it at one input. -/
def fnExactSizeEachWrong : ChangeSpec := { name := "fnExactSizeEach", fn := fun _ => fun
  | [d] => { results := [.lit (.bool false)], args := [d] }
  | _ => none }
def FnExactSizeEachWrongFalsely : Prop := fnExactSizeEachRow.holds Try.pinned (OpenSpec.ofChange fnExactSizeEachWrong)

/- THE SECOND FORM. 'bulk': how many values and letters a reading holds, each counted each time it is reached (what is shared counts as often as it is met; a slice's spare places count too). A statement '..UptoSaid' is the law's where the arguments, and the package variables that the reading takes, are together of bulk at most 1048576: NARROWER than '..Said'. Prove '..Said' where nothing that the law and all that it calls make is longer than what came in: it says more and counts as full. Else prove '..UptoSaid'. A law counts once. -/
mutual
def uptoBulk {H : Type} : DataW H → Nat
  | .lit (.string bytes) => bytes.length + 1
  | .lit _ => 1
  | .nil => 1
  | .ptr d => uptoBulk d + 1
  | .slice elems spare => uptoBulkAll elems + uptoBulkAll spare + 1
  | .agg parts => uptoBulkAll parts + 1
  | .iface _ d => uptoBulk d + 1
  | .map entries => uptoBulkEntries entries + 1
  | .held _ => 1
def uptoBulkAll {H : Type} : List (DataW H) → Nat
  | [] => 0
  | d :: r => uptoBulk d + uptoBulkAll r
def uptoBulkEntries {H : Type} : List (Lit × DataW H) → Nat
  | [] => 0
  | x :: r => uptoBulkEntry x + uptoBulkEntries r
def uptoBulkEntry {H : Type} : Lit × DataW H → Nat
  | (.string bytes, d) => bytes.length + uptoBulk d + 1
  | (_, d) => uptoBulk d + 1
 end
def uptoSmall : (H : Type) → List (DataW H) → Bool := fun _ ds => decide (uptoBulkAll ds ≤ 1048576)
def OpenSpec.upto (s : _root_.Go.ChangeSpec) : _root_.Go.OpenSpec := { _root_.Go.OpenSpec.ofChange s with cond := some uptoSmall }

/-- 'laws.FnMasksInText', WHERE WHAT IT READS IS OF BULK AT MOST 1048576: true; the input reads as it did. -/
def fnMasksInTextUptoRow : OpenClaim := { program := "ytbpecepegceleaa", sum := "4c76b8f09ce91a47548477b434e6ae1f3debc7bb078a9357a172778b7ef676c0", func := "loop.example/lib-g01431/laws.FnMasksInText", spec := "fnMasksInText", apart := false, narrowed := true }
def FnMasksInTextUptoSaid : Prop := fnMasksInTextUptoRow.holds Try.pinned (OpenSpec.upto fnMasksInTextSpec)

/-- 'laws.FnExactSizeEach', WHERE WHAT IT READS IS OF BULK AT MOST 1048576: true; the input reads as it did. -/
def fnExactSizeEachUptoRow : OpenClaim := { program := "ytbpecepegceleaa", sum := "4c76b8f09ce91a47548477b434e6ae1f3debc7bb078a9357a172778b7ef676c0", func := "loop.example/lib-g01431/laws.FnExactSizeEach", spec := "fnExactSizeEach", apart := false, narrowed := true }
def FnExactSizeEachUptoSaid : Prop := fnExactSizeEachUptoRow.holds Try.pinned (OpenSpec.upto fnExactSizeEachSpec)

end Rows
end Go.Proofs.Ytbpecepegceleaa
