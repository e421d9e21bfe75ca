/-
  No cell of these rows narrows 'for every input' (looked for: loops, veiled, ifaces, maps, wideKeys, modest, calm, conditions, laid).
  DERIVED. THE GIVEN ROWS OF THIS SEAT. 9 by the template 'for every input the law returns true; each argument reads behind the call as it read before'; 0 by the template 'total and deterministic' (their statements: YtknajppjgdhbfaaTotals.lean).
  GIVEN WITH THE SEED: the statements are not yours to turn. If you find one false, say at which input.
  Laid BY PROGRAM, IN A SANDBOX (cutbox-rows.mjs): the forced cells as the released guide's own fill.sh prints them over the translation 52100bfe26c9d0f0… (all of the seat's roots in one cut). By AI agents, Wed Nov 11 2026. No macro, syntax, notation, axiom, sorry.
-/
import Derived.Test.YtknajppjgdhbfaaChecked
import GoSem.Claim
import GoSem.ClaimJoined
import GoSem.ClaimMapViews
import Derived.JoinedTies
import Derived.KernelRfl
namespace Go.Proofs.Ytknajppjgdhbfaa
/- THE CELL 'sum', in the pinned program and in every row, IS THE sha256 OF THE DUMP (.gsa) THAT YtknajppjgdhbfaaProg.lean LOADS. Nothing in Lean hashes anything: it is a label: what it is worth is what the hold of that sum in a sandbox is worth. -/
noncomputable def Try.pinned : Pinned := { name := "ytknajppjgdhbfaa", sum := "52100bfe26c9d0f0210f2d88a8e64039be1b48f3fff4a0bcb79cca6279d8763e", checked := Try.checked }
namespace Rows
def none {H : Type} : Left H := { results := [], args := [] }

/-- 'laws.FnAnyOfThem': WHATEVER THE INPUT: true; the input reads as it did. -/
def fnAnyOfThemSpec : ChangeSpec := { name := "fnAnyOfThem", fn := fun _ => fun
  | [d1, d2, d3] => { results := [.lit (.bool true)], args := [d1, d2, d3] }
  | _ => none }
def fnAnyOfThemRow : OpenClaim := { program := "ytknajppjgdhbfaa", sum := "52100bfe26c9d0f0210f2d88a8e64039be1b48f3fff4a0bcb79cca6279d8763e", func := "loop.example/lib-g01431/laws.FnAnyOfThem", spec := "fnAnyOfThem", apart := false }
def FnAnyOfThemSaid : Prop := fnAnyOfThemRow.holds Try.pinned (OpenSpec.ofChange fnAnyOfThemSpec)

/-- ITS FALSE NEIGHBOUR: 'it returns false'. Refute it at one input. -/
def fnAnyOfThemWrong : ChangeSpec := { name := "fnAnyOfThem", fn := fun _ => fun
  | [d1, d2, d3] => { results := [.lit (.bool false)], args := [d1, d2, d3] }
  | _ => none }
def FnAnyOfThemWrongFalsely : Prop := fnAnyOfThemRow.holds Try.pinned (OpenSpec.ofChange fnAnyOfThemWrong)

/-- 'laws.FnFinerGroups': WHATEVER THE INPUT: true; the input reads as it did. -/
def fnFinerGroupsSpec : ChangeSpec := { name := "fnFinerGroups", fn := fun _ => fun
  | [d1, d2, d3] => { results := [.lit (.bool true)], args := [d1, d2, d3] }
  | _ => none }
def fnFinerGroupsRow : OpenClaim := { program := "ytknajppjgdhbfaa", sum := "52100bfe26c9d0f0210f2d88a8e64039be1b48f3fff4a0bcb79cca6279d8763e", func := "loop.example/lib-g01431/laws.FnFinerGroups", spec := "fnFinerGroups", apart := false }
def FnFinerGroupsSaid : Prop := fnFinerGroupsRow.holds Try.pinned (OpenSpec.ofChange fnFinerGroupsSpec)

/-- ITS FALSE NEIGHBOUR: 'it returns false'. Refute it at one input. -/
def fnFinerGroupsWrong : ChangeSpec := { name := "fnFinerGroups", fn := fun _ => fun
  | [d1, d2, d3] => { results := [.lit (.bool false)], args := [d1, d2, d3] }
  | _ => none }
def FnFinerGroupsWrongFalsely : Prop := fnFinerGroupsRow.holds Try.pinned (OpenSpec.ofChange fnFinerGroupsWrong)

/-- 'laws.FnJoinedMasks': WHATEVER THE INPUT: true; the input reads as it did. -/
def fnJoinedMasksSpec : ChangeSpec := { name := "fnJoinedMasks", fn := fun _ => fun
  | [d1, d2, d3] => { results := [.lit (.bool true)], args := [d1, d2, d3] }
  | _ => none }
def fnJoinedMasksRow : OpenClaim := { program := "ytknajppjgdhbfaa", sum := "52100bfe26c9d0f0210f2d88a8e64039be1b48f3fff4a0bcb79cca6279d8763e", func := "loop.example/lib-g01431/laws.FnJoinedMasks", spec := "fnJoinedMasks", apart := false }
def FnJoinedMasksSaid : Prop := fnJoinedMasksRow.holds Try.pinned (OpenSpec.ofChange fnJoinedMasksSpec)

/-- ITS FALSE NEIGHBOUR: 'it returns false'. Refute it at one input. -/
def fnJoinedMasksWrong : ChangeSpec := { name := "fnJoinedMasks", fn := fun _ => fun
  | [d1, d2, d3] => { results := [.lit (.bool false)], args := [d1, d2, d3] }
  | _ => none }
def FnJoinedMasksWrongFalsely : Prop := fnJoinedMasksRow.holds Try.pinned (OpenSpec.ofChange fnJoinedMasksWrong)

/-- 'laws.FnSameNets': WHATEVER THE INPUT: true; the input reads as it did. -/
def fnSameNetsSpec : ChangeSpec := { name := "fnSameNets", fn := fun _ => fun
  | [d1, d2] => { results := [.lit (.bool true)], args := [d1, d2] }
  | _ => none }
def fnSameNetsRow : OpenClaim := { program := "ytknajppjgdhbfaa", sum := "52100bfe26c9d0f0210f2d88a8e64039be1b48f3fff4a0bcb79cca6279d8763e", func := "loop.example/lib-g01431/laws.FnSameNets", spec := "fnSameNets", apart := false }
def FnSameNetsSaid : Prop := fnSameNetsRow.holds Try.pinned (OpenSpec.ofChange fnSameNetsSpec)

/-- ITS FALSE NEIGHBOUR: 'it returns false'. Refute it at one input. -/
def fnSameNetsWrong : ChangeSpec := { name := "fnSameNets", fn := fun _ => fun
  | [d1, d2] => { results := [.lit (.bool false)], args := [d1, d2] }
  | _ => none }
def FnSameNetsWrongFalsely : Prop := fnSameNetsRow.holds Try.pinned (OpenSpec.ofChange fnSameNetsWrong)

/-- 'laws.FnApart': WHATEVER THE INPUT: true; the input reads as it did. -/
def fnApartSpec : ChangeSpec := { name := "fnApart", fn := fun _ => fun
  | [d1, d2, d3, d4, d5] => { results := [.lit (.bool true)], args := [d1, d2, d3, d4, d5] }
  | _ => none }
def fnApartRow : OpenClaim := { program := "ytknajppjgdhbfaa", sum := "52100bfe26c9d0f0210f2d88a8e64039be1b48f3fff4a0bcb79cca6279d8763e", func := "loop.example/lib-g01431/laws.FnApart", spec := "fnApart", apart := false }
def FnApartSaid : Prop := fnApartRow.holds Try.pinned (OpenSpec.ofChange fnApartSpec)

/-- ITS FALSE NEIGHBOUR: 'it returns false'. Refute it at one input. -/
def fnApartWrong : ChangeSpec := { name := "fnApart", fn := fun _ => fun
  | [d1, d2, d3, d4, d5] => { results := [.lit (.bool false)], args := [d1, d2, d3, d4, d5] }
  | _ => none }
def FnApartWrongFalsely : Prop := fnApartRow.holds Try.pinned (OpenSpec.ofChange fnApartWrong)

/-- 'laws.FnCutNets': WHATEVER THE INPUT: true; the input reads as it did. -/
def fnCutNetsSpec : ChangeSpec := { name := "fnCutNets", fn := fun _ => fun
  | [d1, d2, d3, d4] => { results := [.lit (.bool true)], args := [d1, d2, d3, d4] }
  | _ => none }
def fnCutNetsRow : OpenClaim := { program := "ytknajppjgdhbfaa", sum := "52100bfe26c9d0f0210f2d88a8e64039be1b48f3fff4a0bcb79cca6279d8763e", func := "loop.example/lib-g01431/laws.FnCutNets", spec := "fnCutNets", apart := false }
def FnCutNetsSaid : Prop := fnCutNetsRow.holds Try.pinned (OpenSpec.ofChange fnCutNetsSpec)

/-- ITS FALSE NEIGHBOUR: 'it returns false'. Refute it at one input. -/
def fnCutNetsWrong : ChangeSpec := { name := "fnCutNets", fn := fun _ => fun
  | [d1, d2, d3, d4] => { results := [.lit (.bool false)], args := [d1, d2, d3, d4] }
  | _ => none }
def FnCutNetsWrongFalsely : Prop := fnCutNetsRow.holds Try.pinned (OpenSpec.ofChange fnCutNetsWrong)

/-- 'laws.FnLongestNet': WHATEVER THE INPUT: true; the input reads as it did. -/
def fnLongestNetSpec : ChangeSpec := { name := "fnLongestNet", fn := fun _ => fun
  | [d1, d2, d3, d4] => { results := [.lit (.bool true)], args := [d1, d2, d3, d4] }
  | _ => none }
def fnLongestNetRow : OpenClaim := { program := "ytknajppjgdhbfaa", sum := "52100bfe26c9d0f0210f2d88a8e64039be1b48f3fff4a0bcb79cca6279d8763e", func := "loop.example/lib-g01431/laws.FnLongestNet", spec := "fnLongestNet", apart := false }
def FnLongestNetSaid : Prop := fnLongestNetRow.holds Try.pinned (OpenSpec.ofChange fnLongestNetSpec)

/-- ITS FALSE NEIGHBOUR: 'it returns false'. Refute it at one input. -/
def fnLongestNetWrong : ChangeSpec := { name := "fnLongestNet", fn := fun _ => fun
  | [d1, d2, d3, d4] => { results := [.lit (.bool false)], args := [d1, d2, d3, d4] }
  | _ => none }
def FnLongestNetWrongFalsely : Prop := fnLongestNetRow.holds Try.pinned (OpenSpec.ofChange fnLongestNetWrong)

/-- 'laws.FnRangeNets': WHATEVER THE INPUT: true; the input reads as it did. -/
def fnRangeNetsSpec : ChangeSpec := { name := "fnRangeNets", fn := fun _ => fun
  | [d1, d2, d3] => { results := [.lit (.bool true)], args := [d1, d2, d3] }
  | _ => none }
def fnRangeNetsRow : OpenClaim := { program := "ytknajppjgdhbfaa", sum := "52100bfe26c9d0f0210f2d88a8e64039be1b48f3fff4a0bcb79cca6279d8763e", func := "loop.example/lib-g01431/laws.FnRangeNets", spec := "fnRangeNets", apart := false }
def FnRangeNetsSaid : Prop := fnRangeNetsRow.holds Try.pinned (OpenSpec.ofChange fnRangeNetsSpec)

/-- ITS FALSE NEIGHBOUR: 'it returns false'. Refute it at one input. -/
def fnRangeNetsWrong : ChangeSpec := { name := "fnRangeNets", fn := fun _ => fun
  | [d1, d2, d3] => { results := [.lit (.bool false)], args := [d1, d2, d3] }
  | _ => none }
def FnRangeNetsWrongFalsely : Prop := fnRangeNetsRow.holds Try.pinned (OpenSpec.ofChange fnRangeNetsWrong)

/-- 'laws.FnCommonOnes': WHATEVER THE INPUT: true; the input reads as it did. -/
def fnCommonOnesSpec : ChangeSpec := { name := "fnCommonOnes", fn := fun _ => fun
  | [d1, d2] => { results := [.lit (.bool true)], args := [d1, d2] }
  | _ => none }
def fnCommonOnesRow : OpenClaim := { program := "ytknajppjgdhbfaa", sum := "52100bfe26c9d0f0210f2d88a8e64039be1b48f3fff4a0bcb79cca6279d8763e", func := "loop.example/lib-g01431/laws.FnCommonOnes", spec := "fnCommonOnes", apart := false }
def FnCommonOnesSaid : Prop := fnCommonOnesRow.holds Try.pinned (OpenSpec.ofChange fnCommonOnesSpec)

/-- ITS FALSE NEIGHBOUR: 'it returns false'. Refute it at one input. -/
def fnCommonOnesWrong : ChangeSpec := { name := "fnCommonOnes", fn := fun _ => fun
  | [d1, d2] => { results := [.lit (.bool false)], args := [d1, d2] }
  | _ => none }
def FnCommonOnesWrongFalsely : Prop := fnCommonOnesRow.holds Try.pinned (OpenSpec.ofChange fnCommonOnesWrong)

/- THE SECOND FORM. 'bulk': how many values and letters a reading holds, each counted each time it is reached (what is shared counts as often as it is met; a slice's spare places count too). A statement '..UptoSaid' is the law's where the arguments, and the package variables that the reading takes, are together of bulk at most 1048576: NARROWER than '..Said'. Prove '..Said' where nothing that the law and all that it calls make is longer than what came in: it says more and counts as full. Else prove '..UptoSaid'. A law counts once. -/
mutual
def uptoBulk {H : Type} : DataW H → Nat
  | .lit (.string bytes) => bytes.length + 1
  | .lit _ => 1
  | .nil => 1
  | .ptr d => uptoBulk d + 1
  | .slice elems spare => uptoBulkAll elems + uptoBulkAll spare + 1
  | .agg parts => uptoBulkAll parts + 1
  | .iface _ d => uptoBulk d + 1
  | .map entries => uptoBulkEntries entries + 1
  | .held _ => 1
def uptoBulkAll {H : Type} : List (DataW H) → Nat
  | [] => 0
  | d :: r => uptoBulk d + uptoBulkAll r
def uptoBulkEntries {H : Type} : List (Lit × DataW H) → Nat
  | [] => 0
  | x :: r => uptoBulkEntry x + uptoBulkEntries r
def uptoBulkEntry {H : Type} : Lit × DataW H → Nat
  | (.string bytes, d) => bytes.length + uptoBulk d + 1
  | (_, d) => uptoBulk d + 1
 end
def uptoSmall : (H : Type) → List (DataW H) → Bool := fun _ ds => decide (uptoBulkAll ds ≤ 1048576)
def OpenSpec.upto (s : _root_.Go.ChangeSpec) : _root_.Go.OpenSpec := { _root_.Go.OpenSpec.ofChange s with cond := some uptoSmall }

/-- 'laws.FnAnyOfThem', WHERE WHAT IT READS IS OF BULK AT MOST 1048576: true; the input reads as it did. -/
def fnAnyOfThemUptoRow : OpenClaim := { program := "ytknajppjgdhbfaa", sum := "52100bfe26c9d0f0210f2d88a8e64039be1b48f3fff4a0bcb79cca6279d8763e", func := "loop.example/lib-g01431/laws.FnAnyOfThem", spec := "fnAnyOfThem", apart := false, narrowed := true }
def FnAnyOfThemUptoSaid : Prop := fnAnyOfThemUptoRow.holds Try.pinned (OpenSpec.upto fnAnyOfThemSpec)

/-- 'laws.FnFinerGroups', WHERE WHAT IT READS IS OF BULK AT MOST 1048576: true; the input reads as it did. -/
def fnFinerGroupsUptoRow : OpenClaim := { program := "ytknajppjgdhbfaa", sum := "52100bfe26c9d0f0210f2d88a8e64039be1b48f3fff4a0bcb79cca6279d8763e", func := "loop.example/lib-g01431/laws.FnFinerGroups", spec := "fnFinerGroups", apart := false, narrowed := true }
def FnFinerGroupsUptoSaid : Prop := fnFinerGroupsUptoRow.holds Try.pinned (OpenSpec.upto fnFinerGroupsSpec)

/-- 'laws.FnJoinedMasks', WHERE WHAT IT READS IS OF BULK AT MOST 1048576: true; the input reads as it did. -/
def fnJoinedMasksUptoRow : OpenClaim := { program := "ytknajppjgdhbfaa", sum := "52100bfe26c9d0f0210f2d88a8e64039be1b48f3fff4a0bcb79cca6279d8763e", func := "loop.example/lib-g01431/laws.FnJoinedMasks", spec := "fnJoinedMasks", apart := false, narrowed := true }
def FnJoinedMasksUptoSaid : Prop := fnJoinedMasksUptoRow.holds Try.pinned (OpenSpec.upto fnJoinedMasksSpec)

/-- 'laws.FnSameNets', WHERE WHAT IT READS IS OF BULK AT MOST 1048576: true; the input reads as it did. -/
def fnSameNetsUptoRow : OpenClaim := { program := "ytknajppjgdhbfaa", sum := "52100bfe26c9d0f0210f2d88a8e64039be1b48f3fff4a0bcb79cca6279d8763e", func := "loop.example/lib-g01431/laws.FnSameNets", spec := "fnSameNets", apart := false, narrowed := true }
def FnSameNetsUptoSaid : Prop := fnSameNetsUptoRow.holds Try.pinned (OpenSpec.upto fnSameNetsSpec)

/-- 'laws.FnApart', WHERE WHAT IT READS IS OF BULK AT MOST 1048576: true; the input reads as it did. -/
def fnApartUptoRow : OpenClaim := { program := "ytknajppjgdhbfaa", sum := "52100bfe26c9d0f0210f2d88a8e64039be1b48f3fff4a0bcb79cca6279d8763e", func := "loop.example/lib-g01431/laws.FnApart", spec := "fnApart", apart := false, narrowed := true }
def FnApartUptoSaid : Prop := fnApartUptoRow.holds Try.pinned (OpenSpec.upto fnApartSpec)

/-- 'laws.FnCutNets', WHERE WHAT IT READS IS OF BULK AT MOST 1048576: true; the input reads as it did. -/
def fnCutNetsUptoRow : OpenClaim := { program := "ytknajppjgdhbfaa", sum := "52100bfe26c9d0f0210f2d88a8e64039be1b48f3fff4a0bcb79cca6279d8763e", func := "loop.example/lib-g01431/laws.FnCutNets", spec := "fnCutNets", apart := false, narrowed := true }
def FnCutNetsUptoSaid : Prop := fnCutNetsUptoRow.holds Try.pinned (OpenSpec.upto fnCutNetsSpec)

/-- 'laws.FnLongestNet', WHERE WHAT IT READS IS OF BULK AT MOST 1048576: true; the input reads as it did. -/
def fnLongestNetUptoRow : OpenClaim := { program := "ytknajppjgdhbfaa", sum := "52100bfe26c9d0f0210f2d88a8e64039be1b48f3fff4a0bcb79cca6279d8763e", func := "loop.example/lib-g01431/laws.FnLongestNet", spec := "fnLongestNet", apart := false, narrowed := true }
def FnLongestNetUptoSaid : Prop := fnLongestNetUptoRow.holds Try.pinned (OpenSpec.upto fnLongestNetSpec)

/-- 'laws.FnRangeNets', WHERE WHAT IT READS IS OF BULK AT MOST 1048576: true; the input reads as it did. -/
def fnRangeNetsUptoRow : OpenClaim := { program := "ytknajppjgdhbfaa", sum := "52100bfe26c9d0f0210f2d88a8e64039be1b48f3fff4a0bcb79cca6279d8763e", func := "loop.example/lib-g01431/laws.FnRangeNets", spec := "fnRangeNets", apart := false, narrowed := true }
def FnRangeNetsUptoSaid : Prop := fnRangeNetsUptoRow.holds Try.pinned (OpenSpec.upto fnRangeNetsSpec)

/-- 'laws.FnCommonOnes', WHERE WHAT IT READS IS OF BULK AT MOST 1048576: true; the input reads as it did. -/
def fnCommonOnesUptoRow : OpenClaim := { program := "ytknajppjgdhbfaa", sum := "52100bfe26c9d0f0210f2d88a8e64039be1b48f3fff4a0bcb79cca6279d8763e", func := "loop.example/lib-g01431/laws.FnCommonOnes", spec := "fnCommonOnes", apart := false, narrowed := true }
def FnCommonOnesUptoSaid : Prop := fnCommonOnesUptoRow.holds Try.pinned (OpenSpec.upto fnCommonOnesSpec)

end Rows
end Go.Proofs.Ytknajppjgdhbfaa
