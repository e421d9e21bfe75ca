/-
  NARROWER THAN 'FOR EVERY INPUT', by the rows' own cells (each row's printed sentence says how): FnEqualForms: laid · FnFormsInARow: laid.
  DERIVED. THE GIVEN ROWS OF THIS SEAT. 2 by the template 'for every input the law returns true; each argument reads behind the call as it read before'; 0 by the template 'total and deterministic' (their statements: YtbpecepegceleaaDoorTotals.lean).
  GIVEN WITH THE SEED: the statements are not yours to turn. If you find one false, say at which input.
  Laid BY PROGRAM, IN A SANDBOX (cutbox-rows.mjs): the forced cells as the released guide's own fill.sh prints them over the translation ab5d0a351d27069d… (all of the seat's roots in one cut). By AI agents, Wed Nov 11 2026. No macro, syntax, notation, axiom, sorry.
-/
import Derived.Test.YtbpecepegceleaaDoorChecked
import GoSem.Claim
import GoSem.ClaimJoined
import GoSem.ClaimMapViews
import Derived.JoinedTies
import Derived.KernelRfl
namespace Go.Proofs.YtbpecepegceleaaDoor
/- THE CELL 'sum', in the pinned program and in every row, IS THE sha256 OF THE DUMP (.gsa) THAT YtbpecepegceleaaDoorProg.lean LOADS. Nothing in Lean hashes anything: it is a label: what it is worth is what the hold of that sum in a sandbox is worth. -/
noncomputable def Tryd.pinned : Pinned := { name := "ytbpecepegceleaadoor", sum := "ab5d0a351d27069d4a8c2ec3244322effc55b8d387fbcd2923d508da0569e45e", checked := Tryd.checked }
namespace Rows
def none {H : Type} : Left H := { results := [], args := [] }

/- WHAT THE LISTED PACKAGE-LEVEL VARIABLES READ AS WHEN THE CALL BEGINS. Each datum BY PROGRAM (the guide's laid-datum.mjs) off the statement by which the dump's own 'gosem.cut.vars' lays the variable. In a bare row this is a premise. The card (YtbpecepegceleaaDoorCards.lean) ties it to the program's text. -/
def laid_net_v4InV6Prefix {H : Type} : DataW H := .slice [.lit (.int .u8 0), .lit (.int .u8 0), .lit (.int .u8 0), .lit (.int .u8 0), .lit (.int .u8 0), .lit (.int .u8 0), .lit (.int .u8 0), .lit (.int .u8 0), .lit (.int .u8 0), .lit (.int .u8 0), .lit (.int .u8 255), .lit (.int .u8 255)] []

/-- 'laws.FnEqualForms': WHATEVER THE INPUT: true; the input reads as it did. -/
def fnEqualFormsSpec : ChangeSpec := { name := "fnEqualForms", fn := fun _ => fun
  | [d1, d2] => { results := [.lit (.bool true)], args := [d1, d2] }
  | _ => none }
def fnEqualFormsRow : OpenClaim := { program := "ytbpecepegceleaadoor", sum := "ab5d0a351d27069d4a8c2ec3244322effc55b8d387fbcd2923d508da0569e45e", func := "loop.example/lib-g01431/laws.FnEqualForms", spec := "fnEqualForms", named := ["net.v4InV6Prefix"], apart := false, laid := [("net.v4InV6Prefix", laid_net_v4InV6Prefix)] }
def FnEqualFormsSaid : Prop := fnEqualFormsRow.holds Tryd.pinned (OpenSpec.ofChange fnEqualFormsSpec)

/-- ITS FALSE NEIGHBOUR: 'it returns false'. Refute it at one input. -/
def fnEqualFormsWrong : ChangeSpec := { name := "fnEqualForms", fn := fun _ => fun
  | [d1, d2] => { results := [.lit (.bool false)], args := [d1, d2] }
  | _ => none }
def FnEqualFormsWrongFalsely : Prop := fnEqualFormsRow.holds Tryd.pinned (OpenSpec.ofChange fnEqualFormsWrong)

/-- 'laws.FnFormsInARow': WHATEVER THE INPUT: true; the input reads as it did. -/
def fnFormsInARowSpec : ChangeSpec := { name := "fnFormsInARow", fn := fun _ => fun
  | [d1, d2] => { results := [.lit (.bool true)], args := [d1, d2] }
  | _ => none }
def fnFormsInARowRow : OpenClaim := { program := "ytbpecepegceleaadoor", sum := "ab5d0a351d27069d4a8c2ec3244322effc55b8d387fbcd2923d508da0569e45e", func := "loop.example/lib-g01431/laws.FnFormsInARow", spec := "fnFormsInARow", named := ["net.v4InV6Prefix"], apart := false, laid := [("net.v4InV6Prefix", laid_net_v4InV6Prefix)] }
def FnFormsInARowSaid : Prop := fnFormsInARowRow.holds Tryd.pinned (OpenSpec.ofChange fnFormsInARowSpec)

/-- ITS FALSE NEIGHBOUR: 'it returns false'. Refute it at one input. -/
def fnFormsInARowWrong : ChangeSpec := { name := "fnFormsInARow", fn := fun _ => fun
  | [d1, d2] => { results := [.lit (.bool false)], args := [d1, d2] }
  | _ => none }
def FnFormsInARowWrongFalsely : Prop := fnFormsInARowRow.holds Tryd.pinned (OpenSpec.ofChange fnFormsInARowWrong)

/- THE SECOND FORM. 'bulk': how many values and letters a reading holds, each counted each time it is reached (what is shared counts as often as it is met; a slice's spare places count too). A statement '..UptoSaid' is the law's where the arguments, and the package variables that the reading takes, are together of bulk at most 1048576: NARROWER than '..Said'. Prove '..Said' where nothing that the law and all that it calls make is longer than what came in: it says more and counts as full. Else prove '..UptoSaid'. A law counts once. -/
mutual
def uptoBulk {H : Type} : DataW H → Nat
  | .lit (.string bytes) => bytes.length + 1
  | .lit _ => 1
  | .nil => 1
  | .ptr d => uptoBulk d + 1
  | .slice elems spare => uptoBulkAll elems + uptoBulkAll spare + 1
  | .agg parts => uptoBulkAll parts + 1
  | .iface _ d => uptoBulk d + 1
  | .map entries => uptoBulkEntries entries + 1
  | .held _ => 1
def uptoBulkAll {H : Type} : List (DataW H) → Nat
  | [] => 0
  | d :: r => uptoBulk d + uptoBulkAll r
def uptoBulkEntries {H : Type} : List (Lit × DataW H) → Nat
  | [] => 0
  | x :: r => uptoBulkEntry x + uptoBulkEntries r
def uptoBulkEntry {H : Type} : Lit × DataW H → Nat
  | (.string bytes, d) => bytes.length + uptoBulk d + 1
  | (_, d) => uptoBulk d + 1
 end
def uptoSmall : (H : Type) → List (DataW H) → Bool := fun _ ds => decide (uptoBulkAll ds ≤ 1048576)
def OpenSpec.upto (s : _root_.Go.ChangeSpec) : _root_.Go.OpenSpec := { _root_.Go.OpenSpec.ofChange s with cond := some uptoSmall }

/-- 'laws.FnEqualForms', WHERE WHAT IT READS IS OF BULK AT MOST 1048576: true; the input reads as it did. -/
def fnEqualFormsUptoRow : OpenClaim := { program := "ytbpecepegceleaadoor", sum := "ab5d0a351d27069d4a8c2ec3244322effc55b8d387fbcd2923d508da0569e45e", func := "loop.example/lib-g01431/laws.FnEqualForms", spec := "fnEqualForms", named := ["net.v4InV6Prefix"], apart := false, laid := [("net.v4InV6Prefix", laid_net_v4InV6Prefix)], narrowed := true }
def FnEqualFormsUptoSaid : Prop := fnEqualFormsUptoRow.holds Tryd.pinned (OpenSpec.upto fnEqualFormsSpec)

/-- 'laws.FnFormsInARow', WHERE WHAT IT READS IS OF BULK AT MOST 1048576: true; the input reads as it did. -/
def fnFormsInARowUptoRow : OpenClaim := { program := "ytbpecepegceleaadoor", sum := "ab5d0a351d27069d4a8c2ec3244322effc55b8d387fbcd2923d508da0569e45e", func := "loop.example/lib-g01431/laws.FnFormsInARow", spec := "fnFormsInARow", named := ["net.v4InV6Prefix"], apart := false, laid := [("net.v4InV6Prefix", laid_net_v4InV6Prefix)], narrowed := true }
def FnFormsInARowUptoSaid : Prop := fnFormsInARowUptoRow.holds Tryd.pinned (OpenSpec.upto fnFormsInARowSpec)

end Rows
end Go.Proofs.YtbpecepegceleaaDoor
