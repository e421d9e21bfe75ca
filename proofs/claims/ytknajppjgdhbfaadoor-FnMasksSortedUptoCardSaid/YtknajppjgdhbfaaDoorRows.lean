/-
  NARROWER THAN 'FOR EVERY INPUT', by the rows' own cells (each row's printed sentence says how): FnSharedBits: laid · FnMasksAnyOrder: laid · FnMasksSorted: laid.
  DERIVED. THE GIVEN ROWS OF THIS SEAT. 3 by the template 'for every input the law returns true; each argument reads behind the call as it read before'; 0 by the template 'total and deterministic' (their statements: YtknajppjgdhbfaaDoorTotals.lean).
  GIVEN WITH THE SEED: the statements are not yours to turn. If you find one false, say at which input.
  Laid BY PROGRAM, IN A SANDBOX (cutbox-rows.mjs): the forced cells as the released guide's own fill.sh prints them over the translation f805f35a13bce07d… (all of the seat's roots in one cut). By AI agents, Wed Nov 11 2026. No macro, syntax, notation, axiom, sorry.
-/
import Derived.Test.YtknajppjgdhbfaaDoorChecked
import GoSem.Claim
import GoSem.ClaimJoined
import GoSem.ClaimMapViews
import Derived.JoinedTies
import Derived.KernelRfl
namespace Go.Proofs.YtknajppjgdhbfaaDoor
/- THE CELL 'sum', in the pinned program and in every row, IS THE sha256 OF THE DUMP (.gsa) THAT YtknajppjgdhbfaaDoorProg.lean LOADS. Nothing in Lean hashes anything: it is a label: what it is worth is what the hold of that sum in a sandbox is worth. -/
noncomputable def Tryd.pinned : Pinned := { name := "ytknajppjgdhbfaadoor", sum := "f805f35a13bce07dcb0b3c4be48d9b5006a3f27a73b96b61a1130978e10c771e", checked := Tryd.checked }
namespace Rows
def none {H : Type} : Left H := { results := [], args := [] }

/- WHAT THE LISTED PACKAGE-LEVEL VARIABLES READ AS WHEN THE CALL BEGINS. Each datum BY PROGRAM (the guide's laid-datum.mjs) off the statement by which the dump's own 'gosem.cut.vars' lays the variable. In a bare row this is a premise. The card (YtknajppjgdhbfaaDoorCards.lean) ties it to the program's text. -/
def laid_net_v4InV6Prefix {H : Type} : DataW H := .slice [.lit (.int .u8 0), .lit (.int .u8 0), .lit (.int .u8 0), .lit (.int .u8 0), .lit (.int .u8 0), .lit (.int .u8 0), .lit (.int .u8 0), .lit (.int .u8 0), .lit (.int .u8 0), .lit (.int .u8 0), .lit (.int .u8 255), .lit (.int .u8 255)] []

/-- 'laws.FnSharedBits': WHATEVER THE INPUT: true; the input reads as it did. -/
def fnSharedBitsSpec : ChangeSpec := { name := "fnSharedBits", fn := fun _ => fun
  | [d1, d2, d3] => { results := [.lit (.bool true)], args := [d1, d2, d3] }
  | _ => none }
def fnSharedBitsRow : OpenClaim := { program := "ytknajppjgdhbfaadoor", sum := "f805f35a13bce07dcb0b3c4be48d9b5006a3f27a73b96b61a1130978e10c771e", func := "loop.example/lib-g01431/laws.FnSharedBits", spec := "fnSharedBits", named := ["net.v4InV6Prefix"], apart := false, laid := [("net.v4InV6Prefix", laid_net_v4InV6Prefix)] }
def FnSharedBitsSaid : Prop := fnSharedBitsRow.holds Tryd.pinned (OpenSpec.ofChange fnSharedBitsSpec)

/-- ITS FALSE NEIGHBOUR: 'it returns false'. Refute it at one input. -/
def fnSharedBitsWrong : ChangeSpec := { name := "fnSharedBits", fn := fun _ => fun
  | [d1, d2, d3] => { results := [.lit (.bool false)], args := [d1, d2, d3] }
  | _ => none }
def FnSharedBitsWrongFalsely : Prop := fnSharedBitsRow.holds Tryd.pinned (OpenSpec.ofChange fnSharedBitsWrong)

/-- 'laws.FnMasksAnyOrder': WHATEVER THE INPUT: true; the input reads as it did. -/
def fnMasksAnyOrderSpec : ChangeSpec := { name := "fnMasksAnyOrder", fn := fun _ => fun
  | [d1, d2, d3] => { results := [.lit (.bool true)], args := [d1, d2, d3] }
  | _ => none }
def fnMasksAnyOrderRow : OpenClaim := { program := "ytknajppjgdhbfaadoor", sum := "f805f35a13bce07dcb0b3c4be48d9b5006a3f27a73b96b61a1130978e10c771e", func := "loop.example/lib-g01431/laws.FnMasksAnyOrder", spec := "fnMasksAnyOrder", named := ["net.v4InV6Prefix"], apart := false, laid := [("net.v4InV6Prefix", laid_net_v4InV6Prefix)] }
def FnMasksAnyOrderSaid : Prop := fnMasksAnyOrderRow.holds Tryd.pinned (OpenSpec.ofChange fnMasksAnyOrderSpec)

/-- ITS FALSE NEIGHBOUR: 'it returns false'. Refute it at one input. -/
def fnMasksAnyOrderWrong : ChangeSpec := { name := "fnMasksAnyOrder", fn := fun _ => fun
  | [d1, d2, d3] => { results := [.lit (.bool false)], args := [d1, d2, d3] }
  | _ => none }
def FnMasksAnyOrderWrongFalsely : Prop := fnMasksAnyOrderRow.holds Tryd.pinned (OpenSpec.ofChange fnMasksAnyOrderWrong)

/-- 'laws.FnMasksSorted': WHATEVER THE INPUT: true; the input reads as it did. -/
def fnMasksSortedSpec : ChangeSpec := { name := "fnMasksSorted", fn := fun _ => fun
  | [d1, d2] => { results := [.lit (.bool true)], args := [d1, d2] }
  | _ => none }
def fnMasksSortedRow : OpenClaim := { program := "ytknajppjgdhbfaadoor", sum := "f805f35a13bce07dcb0b3c4be48d9b5006a3f27a73b96b61a1130978e10c771e", func := "loop.example/lib-g01431/laws.FnMasksSorted", spec := "fnMasksSorted", named := ["net.v4InV6Prefix"], apart := false, laid := [("net.v4InV6Prefix", laid_net_v4InV6Prefix)] }
def FnMasksSortedSaid : Prop := fnMasksSortedRow.holds Tryd.pinned (OpenSpec.ofChange fnMasksSortedSpec)

/-- ITS FALSE NEIGHBOUR: 'it returns false'. Refute it at one input. -/
def fnMasksSortedWrong : ChangeSpec := { name := "fnMasksSorted", fn := fun _ => fun
  | [d1, d2] => { results := [.lit (.bool false)], args := [d1, d2] }
  | _ => none }
def FnMasksSortedWrongFalsely : Prop := fnMasksSortedRow.holds Tryd.pinned (OpenSpec.ofChange fnMasksSortedWrong)

/- THE SECOND FORM. 'bulk': how many values and letters a reading holds, each counted each time it is reached (what is shared counts as often as it is met; a slice's spare places count too). A statement '..UptoSaid' is the law's where the arguments, and the package variables that the reading takes, are together of bulk at most 1048576: NARROWER than '..Said'. Prove '..Said' where nothing that the law and all that it calls make is longer than what came in: it says more and counts as full. Else prove '..UptoSaid'. A law counts once. -/
mutual
def uptoBulk {H : Type} : DataW H → Nat
  | .lit (.string bytes) => bytes.length + 1
  | .lit _ => 1
  | .nil => 1
  | .ptr d => uptoBulk d + 1
  | .slice elems spare => uptoBulkAll elems + uptoBulkAll spare + 1
  | .agg parts => uptoBulkAll parts + 1
  | .iface _ d => uptoBulk d + 1
  | .map entries => uptoBulkEntries entries + 1
  | .held _ => 1
def uptoBulkAll {H : Type} : List (DataW H) → Nat
  | [] => 0
  | d :: r => uptoBulk d + uptoBulkAll r
def uptoBulkEntries {H : Type} : List (Lit × DataW H) → Nat
  | [] => 0
  | x :: r => uptoBulkEntry x + uptoBulkEntries r
def uptoBulkEntry {H : Type} : Lit × DataW H → Nat
  | (.string bytes, d) => bytes.length + uptoBulk d + 1
  | (_, d) => uptoBulk d + 1
 end
def uptoSmall : (H : Type) → List (DataW H) → Bool := fun _ ds => decide (uptoBulkAll ds ≤ 1048576)
def OpenSpec.upto (s : _root_.Go.ChangeSpec) : _root_.Go.OpenSpec := { _root_.Go.OpenSpec.ofChange s with cond := some uptoSmall }

/-- 'laws.FnSharedBits', WHERE WHAT IT READS IS OF BULK AT MOST 1048576: true; the input reads as it did. -/
def fnSharedBitsUptoRow : OpenClaim := { program := "ytknajppjgdhbfaadoor", sum := "f805f35a13bce07dcb0b3c4be48d9b5006a3f27a73b96b61a1130978e10c771e", func := "loop.example/lib-g01431/laws.FnSharedBits", spec := "fnSharedBits", named := ["net.v4InV6Prefix"], apart := false, laid := [("net.v4InV6Prefix", laid_net_v4InV6Prefix)], narrowed := true }
def FnSharedBitsUptoSaid : Prop := fnSharedBitsUptoRow.holds Tryd.pinned (OpenSpec.upto fnSharedBitsSpec)

/-- 'laws.FnMasksAnyOrder', WHERE WHAT IT READS IS OF BULK AT MOST 1048576: true; the input reads as it did. -/
def fnMasksAnyOrderUptoRow : OpenClaim := { program := "ytknajppjgdhbfaadoor", sum := "f805f35a13bce07dcb0b3c4be48d9b5006a3f27a73b96b61a1130978e10c771e", func := "loop.example/lib-g01431/laws.FnMasksAnyOrder", spec := "fnMasksAnyOrder", named := ["net.v4InV6Prefix"], apart := false, laid := [("net.v4InV6Prefix", laid_net_v4InV6Prefix)], narrowed := true }
def FnMasksAnyOrderUptoSaid : Prop := fnMasksAnyOrderUptoRow.holds Tryd.pinned (OpenSpec.upto fnMasksAnyOrderSpec)

/-- 'laws.FnMasksSorted', WHERE WHAT IT READS IS OF BULK AT MOST 1048576: true; the input reads as it did. -/
def fnMasksSortedUptoRow : OpenClaim := { program := "ytknajppjgdhbfaadoor", sum := "f805f35a13bce07dcb0b3c4be48d9b5006a3f27a73b96b61a1130978e10c771e", func := "loop.example/lib-g01431/laws.FnMasksSorted", spec := "fnMasksSorted", named := ["net.v4InV6Prefix"], apart := false, laid := [("net.v4InV6Prefix", laid_net_v4InV6Prefix)], narrowed := true }
def FnMasksSortedUptoSaid : Prop := fnMasksSortedUptoRow.holds Tryd.pinned (OpenSpec.upto fnMasksSortedSpec)

end Rows
end Go.Proofs.YtknajppjgdhbfaaDoor
