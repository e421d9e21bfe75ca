/-
  NARROWER THAN 'FOR EVERY INPUT', by the rows' own cells (each row's printed sentence says how): FnDotsInside: laid · FnGroupTooLong: laid · FnHowManyGroups: laid · FnHowManyNumbers: laid · FnLastNumbers: laid · FnZerosAhead: laid · FnExactUnmarshalScript: laid · FnScriptIsReference: laid · FnScriptOfTexts: laid.
  DERIVED. THE GIVEN ROWS OF THIS SEAT. 9 by the template 'for every input the law returns true; each argument reads behind the call as it read before'; 0 by the template 'total and deterministic' (their statements: YtekmlhkoibgmlaaDoorTotals.lean).
  GIVEN WITH THE SEED: the statements are not yours to turn. If you find one false, say at which input.
  Laid BY PROGRAM, IN A SANDBOX (cutbox-rows.mjs): the forced cells as the released guide's own fill.sh prints them over the translation 49d53eeb5328e239… (all of the seat's roots in one cut). By AI agents, Wed Nov 11 2026. No macro, syntax, notation, axiom, sorry.
-/
import Derived.Test.YtekmlhkoibgmlaaDoorChecked
import GoSem.Claim
import GoSem.ClaimJoined
import GoSem.ClaimMapViews
import Derived.JoinedTies
import Derived.KernelRfl
namespace Go.Proofs.YtekmlhkoibgmlaaDoor
/- THE CELL 'sum', in the pinned program and in every row, IS THE sha256 OF THE DUMP (.gsa) THAT YtekmlhkoibgmlaaDoorProg.lean LOADS. Nothing in Lean hashes anything: it is a label: what it is worth is what the hold of that sum in a sandbox is worth. -/
noncomputable def Tryd.pinned : Pinned := { name := "ytekmlhkoibgmlaadoor", sum := "49d53eeb5328e239bef3799e8d8dd6aef0464fa56f88dfaee404f8908090c690", checked := Tryd.checked }
namespace Rows
def none {H : Type} : Left H := { results := [], args := [] }

/- WHAT THE LISTED PACKAGE-LEVEL VARIABLES READ AS WHEN THE CALL BEGINS. Each datum BY PROGRAM (the guide's laid-datum.mjs) off the statement by which the dump's own 'gosem.cut.vars' lays the variable. In a bare row this is a premise. The card (YtekmlhkoibgmlaaDoorCards.lean) ties it to the program's text. -/
def laid_net_netip_z4 {H : Type} : DataW H := .agg [.ptr (.agg [.lit (.bool false), .lit (.string [])])]
def laid_net_netip_z6noz {H : Type} : DataW H := .agg [.ptr (.agg [.lit (.bool true), .lit (.string [])])]
def laid_net_netip_z0 {H : Type} : DataW H := .agg [.nil]

/-- 'laws.FnDotsInside': WHATEVER THE INPUT: true; the input reads as it did. -/
def fnDotsInsideSpec : ChangeSpec := { name := "fnDotsInside", fn := fun _ => fun
  | [d1, d2, d3] => { results := [.lit (.bool true)], args := [d1, d2, d3] }
  | _ => none }
def fnDotsInsideRow : OpenClaim := { program := "ytekmlhkoibgmlaadoor", sum := "49d53eeb5328e239bef3799e8d8dd6aef0464fa56f88dfaee404f8908090c690", func := "loop.example/lib-g01431/laws.FnDotsInside", spec := "fnDotsInside", inPlace := ["internal/bytealg.IndexByteString", "unique.Make[net/netip.addrDetail]"], named := ["net/netip.z4", "net/netip.z6noz", "net/netip.z0"], apart := false, laid := [("net/netip.z4", laid_net_netip_z4), ("net/netip.z6noz", laid_net_netip_z6noz), ("net/netip.z0", laid_net_netip_z0)] }
def FnDotsInsideSaid : Prop := fnDotsInsideRow.holds Tryd.pinned (OpenSpec.ofChange fnDotsInsideSpec)

/-- ITS FALSE NEIGHBOUR: 'it returns false'. Refute it at one input. -/
def fnDotsInsideWrong : ChangeSpec := { name := "fnDotsInside", fn := fun _ => fun
  | [d1, d2, d3] => { results := [.lit (.bool false)], args := [d1, d2, d3] }
  | _ => none }
def FnDotsInsideWrongFalsely : Prop := fnDotsInsideRow.holds Tryd.pinned (OpenSpec.ofChange fnDotsInsideWrong)

/-- 'laws.FnGroupTooLong': WHATEVER THE INPUT: true; the input reads as it did. -/
def fnGroupTooLongSpec : ChangeSpec := { name := "fnGroupTooLong", fn := fun _ => fun
  | [d1, d2] => { results := [.lit (.bool true)], args := [d1, d2] }
  | _ => none }
def fnGroupTooLongRow : OpenClaim := { program := "ytekmlhkoibgmlaadoor", sum := "49d53eeb5328e239bef3799e8d8dd6aef0464fa56f88dfaee404f8908090c690", func := "loop.example/lib-g01431/laws.FnGroupTooLong", spec := "fnGroupTooLong", inPlace := ["internal/bytealg.IndexByteString", "unique.Make[net/netip.addrDetail]"], named := ["net/netip.z4", "net/netip.z6noz", "net/netip.z0"], apart := false, laid := [("net/netip.z4", laid_net_netip_z4), ("net/netip.z6noz", laid_net_netip_z6noz), ("net/netip.z0", laid_net_netip_z0)] }
def FnGroupTooLongSaid : Prop := fnGroupTooLongRow.holds Tryd.pinned (OpenSpec.ofChange fnGroupTooLongSpec)

/-- ITS FALSE NEIGHBOUR: 'it returns false'. Refute it at one input. -/
def fnGroupTooLongWrong : ChangeSpec := { name := "fnGroupTooLong", fn := fun _ => fun
  | [d1, d2] => { results := [.lit (.bool false)], args := [d1, d2] }
  | _ => none }
def FnGroupTooLongWrongFalsely : Prop := fnGroupTooLongRow.holds Tryd.pinned (OpenSpec.ofChange fnGroupTooLongWrong)

/-- 'laws.FnHowManyGroups': WHATEVER THE INPUT: true; the input reads as it did. -/
def fnHowManyGroupsSpec : ChangeSpec := { name := "fnHowManyGroups", fn := fun _ => fun
  | [d] => { results := [.lit (.bool true)], args := [d] }
  | _ => none }
def fnHowManyGroupsRow : OpenClaim := { program := "ytekmlhkoibgmlaadoor", sum := "49d53eeb5328e239bef3799e8d8dd6aef0464fa56f88dfaee404f8908090c690", func := "loop.example/lib-g01431/laws.FnHowManyGroups", spec := "fnHowManyGroups", inPlace := ["internal/bytealg.IndexByteString", "unique.Make[net/netip.addrDetail]"], named := ["net/netip.z4", "net/netip.z6noz", "net/netip.z0"], apart := false, laid := [("net/netip.z4", laid_net_netip_z4), ("net/netip.z6noz", laid_net_netip_z6noz), ("net/netip.z0", laid_net_netip_z0)] }
def FnHowManyGroupsSaid : Prop := fnHowManyGroupsRow.holds Tryd.pinned (OpenSpec.ofChange fnHowManyGroupsSpec)

/-- ITS FALSE NEIGHBOUR: 'it returns false'. Refute it at one input. -/
def fnHowManyGroupsWrong : ChangeSpec := { name := "fnHowManyGroups", fn := fun _ => fun
  | [d] => { results := [.lit (.bool false)], args := [d] }
  | _ => none }
def FnHowManyGroupsWrongFalsely : Prop := fnHowManyGroupsRow.holds Tryd.pinned (OpenSpec.ofChange fnHowManyGroupsWrong)

/-- 'laws.FnHowManyNumbers': WHATEVER THE INPUT: true; the input reads as it did. -/
def fnHowManyNumbersSpec : ChangeSpec := { name := "fnHowManyNumbers", fn := fun _ => fun
  | [d] => { results := [.lit (.bool true)], args := [d] }
  | _ => none }
def fnHowManyNumbersRow : OpenClaim := { program := "ytekmlhkoibgmlaadoor", sum := "49d53eeb5328e239bef3799e8d8dd6aef0464fa56f88dfaee404f8908090c690", func := "loop.example/lib-g01431/laws.FnHowManyNumbers", spec := "fnHowManyNumbers", inPlace := ["internal/bytealg.IndexByteString", "unique.Make[net/netip.addrDetail]"], named := ["net/netip.z4", "net/netip.z6noz", "net/netip.z0"], apart := false, laid := [("net/netip.z4", laid_net_netip_z4), ("net/netip.z6noz", laid_net_netip_z6noz), ("net/netip.z0", laid_net_netip_z0)] }
def FnHowManyNumbersSaid : Prop := fnHowManyNumbersRow.holds Tryd.pinned (OpenSpec.ofChange fnHowManyNumbersSpec)

/-- ITS FALSE NEIGHBOUR: 'it returns false'. Refute it at one input. -/
def fnHowManyNumbersWrong : ChangeSpec := { name := "fnHowManyNumbers", fn := fun _ => fun
  | [d] => { results := [.lit (.bool false)], args := [d] }
  | _ => none }
def FnHowManyNumbersWrongFalsely : Prop := fnHowManyNumbersRow.holds Tryd.pinned (OpenSpec.ofChange fnHowManyNumbersWrong)

/-- 'laws.FnLastNumbers': WHATEVER THE INPUT: true; the input reads as it did. -/
def fnLastNumbersSpec : ChangeSpec := { name := "fnLastNumbers", fn := fun _ => fun
  | [d1, d2] => { results := [.lit (.bool true)], args := [d1, d2] }
  | _ => none }
def fnLastNumbersRow : OpenClaim := { program := "ytekmlhkoibgmlaadoor", sum := "49d53eeb5328e239bef3799e8d8dd6aef0464fa56f88dfaee404f8908090c690", func := "loop.example/lib-g01431/laws.FnLastNumbers", spec := "fnLastNumbers", inPlace := ["internal/bytealg.IndexByteString", "unique.Make[net/netip.addrDetail]"], named := ["net/netip.z4", "net/netip.z6noz", "net/netip.z0"], apart := false, laid := [("net/netip.z4", laid_net_netip_z4), ("net/netip.z6noz", laid_net_netip_z6noz), ("net/netip.z0", laid_net_netip_z0)] }
def FnLastNumbersSaid : Prop := fnLastNumbersRow.holds Tryd.pinned (OpenSpec.ofChange fnLastNumbersSpec)

/-- ITS FALSE NEIGHBOUR: 'it returns false'. Refute it at one input. -/
def fnLastNumbersWrong : ChangeSpec := { name := "fnLastNumbers", fn := fun _ => fun
  | [d1, d2] => { results := [.lit (.bool false)], args := [d1, d2] }
  | _ => none }
def FnLastNumbersWrongFalsely : Prop := fnLastNumbersRow.holds Tryd.pinned (OpenSpec.ofChange fnLastNumbersWrong)

/-- 'laws.FnZerosAhead': WHATEVER THE INPUT: true; the input reads as it did. -/
def fnZerosAheadSpec : ChangeSpec := { name := "fnZerosAhead", fn := fun _ => fun
  | [d1, d2, d3] => { results := [.lit (.bool true)], args := [d1, d2, d3] }
  | _ => none }
def fnZerosAheadRow : OpenClaim := { program := "ytekmlhkoibgmlaadoor", sum := "49d53eeb5328e239bef3799e8d8dd6aef0464fa56f88dfaee404f8908090c690", func := "loop.example/lib-g01431/laws.FnZerosAhead", spec := "fnZerosAhead", inPlace := ["internal/bytealg.IndexByteString", "unique.Make[net/netip.addrDetail]"], named := ["net/netip.z4", "net/netip.z6noz", "net/netip.z0"], apart := false, laid := [("net/netip.z4", laid_net_netip_z4), ("net/netip.z6noz", laid_net_netip_z6noz), ("net/netip.z0", laid_net_netip_z0)] }
def FnZerosAheadSaid : Prop := fnZerosAheadRow.holds Tryd.pinned (OpenSpec.ofChange fnZerosAheadSpec)

/-- ITS FALSE NEIGHBOUR: 'it returns false'. Refute it at one input. -/
def fnZerosAheadWrong : ChangeSpec := { name := "fnZerosAhead", fn := fun _ => fun
  | [d1, d2, d3] => { results := [.lit (.bool false)], args := [d1, d2, d3] }
  | _ => none }
def FnZerosAheadWrongFalsely : Prop := fnZerosAheadRow.holds Tryd.pinned (OpenSpec.ofChange fnZerosAheadWrong)

/-- 'laws.FnExactUnmarshalScript': WHATEVER THE INPUT: true; the input reads as it did. -/
def fnExactUnmarshalScriptSpec : ChangeSpec := { name := "fnExactUnmarshalScript", fn := fun _ => fun
  | [d] => { results := [.lit (.bool true)], args := [d] }
  | _ => none }
def fnExactUnmarshalScriptRow : OpenClaim := { program := "ytekmlhkoibgmlaadoor", sum := "49d53eeb5328e239bef3799e8d8dd6aef0464fa56f88dfaee404f8908090c690", func := "loop.example/lib-g01431/laws.FnExactUnmarshalScript", spec := "fnExactUnmarshalScript", inPlace := ["internal/bytealg.IndexByteString", "unique.Make[net/netip.addrDetail]"], named := ["net/netip.z4", "net/netip.z6noz", "net/netip.z0"], apart := false, laid := [("net/netip.z4", laid_net_netip_z4), ("net/netip.z6noz", laid_net_netip_z6noz), ("net/netip.z0", laid_net_netip_z0)] }
def FnExactUnmarshalScriptSaid : Prop := fnExactUnmarshalScriptRow.holds Tryd.pinned (OpenSpec.ofChange fnExactUnmarshalScriptSpec)

/-- ITS FALSE NEIGHBOUR: 'it returns false'. Refute it at one input. -/
def fnExactUnmarshalScriptWrong : ChangeSpec := { name := "fnExactUnmarshalScript", fn := fun _ => fun
  | [d] => { results := [.lit (.bool false)], args := [d] }
  | _ => none }
def FnExactUnmarshalScriptWrongFalsely : Prop := fnExactUnmarshalScriptRow.holds Tryd.pinned (OpenSpec.ofChange fnExactUnmarshalScriptWrong)

/-- 'laws.FnScriptIsReference': WHATEVER THE INPUT: true; the input reads as it did. -/
def fnScriptIsReferenceSpec : ChangeSpec := { name := "fnScriptIsReference", fn := fun _ => fun
  | [d] => { results := [.lit (.bool true)], args := [d] }
  | _ => none }
def fnScriptIsReferenceRow : OpenClaim := { program := "ytekmlhkoibgmlaadoor", sum := "49d53eeb5328e239bef3799e8d8dd6aef0464fa56f88dfaee404f8908090c690", func := "loop.example/lib-g01431/laws.FnScriptIsReference", spec := "fnScriptIsReference", inPlace := ["internal/bytealg.IndexByteString", "unique.Make[net/netip.addrDetail]"], named := ["net/netip.z4", "net/netip.z6noz", "net/netip.z0"], apart := false, laid := [("net/netip.z4", laid_net_netip_z4), ("net/netip.z6noz", laid_net_netip_z6noz), ("net/netip.z0", laid_net_netip_z0)] }
def FnScriptIsReferenceSaid : Prop := fnScriptIsReferenceRow.holds Tryd.pinned (OpenSpec.ofChange fnScriptIsReferenceSpec)

/-- ITS FALSE NEIGHBOUR: 'it returns false'. Refute it at one input. -/
def fnScriptIsReferenceWrong : ChangeSpec := { name := "fnScriptIsReference", fn := fun _ => fun
  | [d] => { results := [.lit (.bool false)], args := [d] }
  | _ => none }
def FnScriptIsReferenceWrongFalsely : Prop := fnScriptIsReferenceRow.holds Tryd.pinned (OpenSpec.ofChange fnScriptIsReferenceWrong)

/-- 'laws.FnScriptOfTexts': WHATEVER THE INPUT: true; the input reads as it did. -/
def fnScriptOfTextsSpec : ChangeSpec := { name := "fnScriptOfTexts", fn := fun _ => fun
  | [d] => { results := [.lit (.bool true)], args := [d] }
  | _ => none }
def fnScriptOfTextsRow : OpenClaim := { program := "ytekmlhkoibgmlaadoor", sum := "49d53eeb5328e239bef3799e8d8dd6aef0464fa56f88dfaee404f8908090c690", func := "loop.example/lib-g01431/laws.FnScriptOfTexts", spec := "fnScriptOfTexts", inPlace := ["internal/bytealg.IndexByteString", "unique.Make[net/netip.addrDetail]"], named := ["net/netip.z4", "net/netip.z6noz", "net/netip.z0"], apart := false, laid := [("net/netip.z4", laid_net_netip_z4), ("net/netip.z6noz", laid_net_netip_z6noz), ("net/netip.z0", laid_net_netip_z0)] }
def FnScriptOfTextsSaid : Prop := fnScriptOfTextsRow.holds Tryd.pinned (OpenSpec.ofChange fnScriptOfTextsSpec)

/-- ITS FALSE NEIGHBOUR: 'it returns false'. Refute it at one input. -/
def fnScriptOfTextsWrong : ChangeSpec := { name := "fnScriptOfTexts", fn := fun _ => fun
  | [d] => { results := [.lit (.bool false)], args := [d] }
  | _ => none }
def FnScriptOfTextsWrongFalsely : Prop := fnScriptOfTextsRow.holds Tryd.pinned (OpenSpec.ofChange fnScriptOfTextsWrong)

/- THE SECOND FORM. 'bulk': how many values and letters a reading holds, each counted each time it is reached (what is shared counts as often as it is met; a slice's spare places count too). A statement '..UptoSaid' is the law's where the arguments, and the package variables that the reading takes, are together of bulk at most 1048576: NARROWER than '..Said'. Prove '..Said' where nothing that the law and all that it calls make is longer than what came in: it says more and counts as full. Else prove '..UptoSaid'. A law counts once. -/
mutual
def uptoBulk {H : Type} : DataW H → Nat
  | .lit (.string bytes) => bytes.length + 1
  | .lit _ => 1
  | .nil => 1
  | .ptr d => uptoBulk d + 1
  | .slice elems spare => uptoBulkAll elems + uptoBulkAll spare + 1
  | .agg parts => uptoBulkAll parts + 1
  | .iface _ d => uptoBulk d + 1
  | .map entries => uptoBulkEntries entries + 1
  | .held _ => 1
def uptoBulkAll {H : Type} : List (DataW H) → Nat
  | [] => 0
  | d :: r => uptoBulk d + uptoBulkAll r
def uptoBulkEntries {H : Type} : List (Lit × DataW H) → Nat
  | [] => 0
  | x :: r => uptoBulkEntry x + uptoBulkEntries r
def uptoBulkEntry {H : Type} : Lit × DataW H → Nat
  | (.string bytes, d) => bytes.length + uptoBulk d + 1
  | (_, d) => uptoBulk d + 1
 end
def uptoSmall : (H : Type) → List (DataW H) → Bool := fun _ ds => decide (uptoBulkAll ds ≤ 1048576)
def OpenSpec.upto (s : _root_.Go.ChangeSpec) : _root_.Go.OpenSpec := { _root_.Go.OpenSpec.ofChange s with cond := some uptoSmall }

/-- 'laws.FnDotsInside', WHERE WHAT IT READS IS OF BULK AT MOST 1048576: true; the input reads as it did. -/
def fnDotsInsideUptoRow : OpenClaim := { program := "ytekmlhkoibgmlaadoor", sum := "49d53eeb5328e239bef3799e8d8dd6aef0464fa56f88dfaee404f8908090c690", func := "loop.example/lib-g01431/laws.FnDotsInside", spec := "fnDotsInside", inPlace := ["internal/bytealg.IndexByteString", "unique.Make[net/netip.addrDetail]"], named := ["net/netip.z4", "net/netip.z6noz", "net/netip.z0"], apart := false, laid := [("net/netip.z4", laid_net_netip_z4), ("net/netip.z6noz", laid_net_netip_z6noz), ("net/netip.z0", laid_net_netip_z0)], narrowed := true }
def FnDotsInsideUptoSaid : Prop := fnDotsInsideUptoRow.holds Tryd.pinned (OpenSpec.upto fnDotsInsideSpec)

/-- 'laws.FnGroupTooLong', WHERE WHAT IT READS IS OF BULK AT MOST 1048576: true; the input reads as it did. -/
def fnGroupTooLongUptoRow : OpenClaim := { program := "ytekmlhkoibgmlaadoor", sum := "49d53eeb5328e239bef3799e8d8dd6aef0464fa56f88dfaee404f8908090c690", func := "loop.example/lib-g01431/laws.FnGroupTooLong", spec := "fnGroupTooLong", inPlace := ["internal/bytealg.IndexByteString", "unique.Make[net/netip.addrDetail]"], named := ["net/netip.z4", "net/netip.z6noz", "net/netip.z0"], apart := false, laid := [("net/netip.z4", laid_net_netip_z4), ("net/netip.z6noz", laid_net_netip_z6noz), ("net/netip.z0", laid_net_netip_z0)], narrowed := true }
def FnGroupTooLongUptoSaid : Prop := fnGroupTooLongUptoRow.holds Tryd.pinned (OpenSpec.upto fnGroupTooLongSpec)

/-- 'laws.FnHowManyGroups', WHERE WHAT IT READS IS OF BULK AT MOST 1048576: true; the input reads as it did. -/
def fnHowManyGroupsUptoRow : OpenClaim := { program := "ytekmlhkoibgmlaadoor", sum := "49d53eeb5328e239bef3799e8d8dd6aef0464fa56f88dfaee404f8908090c690", func := "loop.example/lib-g01431/laws.FnHowManyGroups", spec := "fnHowManyGroups", inPlace := ["internal/bytealg.IndexByteString", "unique.Make[net/netip.addrDetail]"], named := ["net/netip.z4", "net/netip.z6noz", "net/netip.z0"], apart := false, laid := [("net/netip.z4", laid_net_netip_z4), ("net/netip.z6noz", laid_net_netip_z6noz), ("net/netip.z0", laid_net_netip_z0)], narrowed := true }
def FnHowManyGroupsUptoSaid : Prop := fnHowManyGroupsUptoRow.holds Tryd.pinned (OpenSpec.upto fnHowManyGroupsSpec)

/-- 'laws.FnHowManyNumbers', WHERE WHAT IT READS IS OF BULK AT MOST 1048576: true; the input reads as it did. -/
def fnHowManyNumbersUptoRow : OpenClaim := { program := "ytekmlhkoibgmlaadoor", sum := "49d53eeb5328e239bef3799e8d8dd6aef0464fa56f88dfaee404f8908090c690", func := "loop.example/lib-g01431/laws.FnHowManyNumbers", spec := "fnHowManyNumbers", inPlace := ["internal/bytealg.IndexByteString", "unique.Make[net/netip.addrDetail]"], named := ["net/netip.z4", "net/netip.z6noz", "net/netip.z0"], apart := false, laid := [("net/netip.z4", laid_net_netip_z4), ("net/netip.z6noz", laid_net_netip_z6noz), ("net/netip.z0", laid_net_netip_z0)], narrowed := true }
def FnHowManyNumbersUptoSaid : Prop := fnHowManyNumbersUptoRow.holds Tryd.pinned (OpenSpec.upto fnHowManyNumbersSpec)

/-- 'laws.FnLastNumbers', WHERE WHAT IT READS IS OF BULK AT MOST 1048576: true; the input reads as it did. -/
def fnLastNumbersUptoRow : OpenClaim := { program := "ytekmlhkoibgmlaadoor", sum := "49d53eeb5328e239bef3799e8d8dd6aef0464fa56f88dfaee404f8908090c690", func := "loop.example/lib-g01431/laws.FnLastNumbers", spec := "fnLastNumbers", inPlace := ["internal/bytealg.IndexByteString", "unique.Make[net/netip.addrDetail]"], named := ["net/netip.z4", "net/netip.z6noz", "net/netip.z0"], apart := false, laid := [("net/netip.z4", laid_net_netip_z4), ("net/netip.z6noz", laid_net_netip_z6noz), ("net/netip.z0", laid_net_netip_z0)], narrowed := true }
def FnLastNumbersUptoSaid : Prop := fnLastNumbersUptoRow.holds Tryd.pinned (OpenSpec.upto fnLastNumbersSpec)

/-- 'laws.FnZerosAhead', WHERE WHAT IT READS IS OF BULK AT MOST 1048576: true; the input reads as it did. -/
def fnZerosAheadUptoRow : OpenClaim := { program := "ytekmlhkoibgmlaadoor", sum := "49d53eeb5328e239bef3799e8d8dd6aef0464fa56f88dfaee404f8908090c690", func := "loop.example/lib-g01431/laws.FnZerosAhead", spec := "fnZerosAhead", inPlace := ["internal/bytealg.IndexByteString", "unique.Make[net/netip.addrDetail]"], named := ["net/netip.z4", "net/netip.z6noz", "net/netip.z0"], apart := false, laid := [("net/netip.z4", laid_net_netip_z4), ("net/netip.z6noz", laid_net_netip_z6noz), ("net/netip.z0", laid_net_netip_z0)], narrowed := true }
def FnZerosAheadUptoSaid : Prop := fnZerosAheadUptoRow.holds Tryd.pinned (OpenSpec.upto fnZerosAheadSpec)

/-- 'laws.FnExactUnmarshalScript', WHERE WHAT IT READS IS OF BULK AT MOST 1048576: true; the input reads as it did. -/
def fnExactUnmarshalScriptUptoRow : OpenClaim := { program := "ytekmlhkoibgmlaadoor", sum := "49d53eeb5328e239bef3799e8d8dd6aef0464fa56f88dfaee404f8908090c690", func := "loop.example/lib-g01431/laws.FnExactUnmarshalScript", spec := "fnExactUnmarshalScript", inPlace := ["internal/bytealg.IndexByteString", "unique.Make[net/netip.addrDetail]"], named := ["net/netip.z4", "net/netip.z6noz", "net/netip.z0"], apart := false, laid := [("net/netip.z4", laid_net_netip_z4), ("net/netip.z6noz", laid_net_netip_z6noz), ("net/netip.z0", laid_net_netip_z0)], narrowed := true }
def FnExactUnmarshalScriptUptoSaid : Prop := fnExactUnmarshalScriptUptoRow.holds Tryd.pinned (OpenSpec.upto fnExactUnmarshalScriptSpec)

/-- 'laws.FnScriptIsReference', WHERE WHAT IT READS IS OF BULK AT MOST 1048576: true; the input reads as it did. -/
def fnScriptIsReferenceUptoRow : OpenClaim := { program := "ytekmlhkoibgmlaadoor", sum := "49d53eeb5328e239bef3799e8d8dd6aef0464fa56f88dfaee404f8908090c690", func := "loop.example/lib-g01431/laws.FnScriptIsReference", spec := "fnScriptIsReference", inPlace := ["internal/bytealg.IndexByteString", "unique.Make[net/netip.addrDetail]"], named := ["net/netip.z4", "net/netip.z6noz", "net/netip.z0"], apart := false, laid := [("net/netip.z4", laid_net_netip_z4), ("net/netip.z6noz", laid_net_netip_z6noz), ("net/netip.z0", laid_net_netip_z0)], narrowed := true }
def FnScriptIsReferenceUptoSaid : Prop := fnScriptIsReferenceUptoRow.holds Tryd.pinned (OpenSpec.upto fnScriptIsReferenceSpec)

/-- 'laws.FnScriptOfTexts', WHERE WHAT IT READS IS OF BULK AT MOST 1048576: true; the input reads as it did. -/
def fnScriptOfTextsUptoRow : OpenClaim := { program := "ytekmlhkoibgmlaadoor", sum := "49d53eeb5328e239bef3799e8d8dd6aef0464fa56f88dfaee404f8908090c690", func := "loop.example/lib-g01431/laws.FnScriptOfTexts", spec := "fnScriptOfTexts", inPlace := ["internal/bytealg.IndexByteString", "unique.Make[net/netip.addrDetail]"], named := ["net/netip.z4", "net/netip.z6noz", "net/netip.z0"], apart := false, laid := [("net/netip.z4", laid_net_netip_z4), ("net/netip.z6noz", laid_net_netip_z6noz), ("net/netip.z0", laid_net_netip_z0)], narrowed := true }
def FnScriptOfTextsUptoSaid : Prop := fnScriptOfTextsUptoRow.holds Tryd.pinned (OpenSpec.upto fnScriptOfTextsSpec)

end Rows
end Go.Proofs.YtekmlhkoibgmlaaDoor
