/-
  NARROWER THAN 'FOR EVERY INPUT', by the rows' own cells (each row's printed sentence says how): FnOneBit: laid · FnLinesRead: laid · FnNetsWritten: laid · FnEqualClasses: laid · FnAsManyStrings: laid · FnFormsAlike: laid · FnDotsCut: laid · FnMasksWritten: laid.
  DERIVED. THE GIVEN ROWS OF THIS SEAT. 8 by the template 'for every input the law returns true; each argument reads behind the call as it read before'; 0 by the template 'total and deterministic' (their statements: YtmfcgglgolajnaaDoorTotals.lean).
  GIVEN WITH THE SEED: the statements are not yours to turn. If you find one false, say at which input.
  Laid BY PROGRAM, IN A SANDBOX (cutbox-rows.mjs): the forced cells as the released guide's own fill.sh prints them over the translation 5b83812354ca05c9… (all of the seat's roots in one cut). By AI agents, Wed Nov 11 2026. No macro, syntax, notation, axiom, sorry.
-/
import Derived.Test.YtmfcgglgolajnaaDoorChecked
import GoSem.Claim
import GoSem.ClaimJoined
import GoSem.ClaimMapViews
import Derived.JoinedTies
import Derived.KernelRfl
namespace Go.Proofs.YtmfcgglgolajnaaDoor
/- THE CELL 'sum', in the pinned program and in every row, IS THE sha256 OF THE DUMP (.gsa) THAT YtmfcgglgolajnaaDoorProg.lean LOADS. Nothing in Lean hashes anything: it is a label: what it is worth is what the hold of that sum in a sandbox is worth. -/
noncomputable def Tryd.pinned : Pinned := { name := "ytmfcgglgolajnaadoor", sum := "5b83812354ca05c9b958691cb33acb5aa78db7942d79c556ce59340aa4c0b539", checked := Tryd.checked }
namespace Rows
def none {H : Type} : Left H := { results := [], args := [] }

/- WHAT THE LISTED PACKAGE-LEVEL VARIABLES READ AS WHEN THE CALL BEGINS. Each datum BY PROGRAM (the guide's laid-datum.mjs) off the statement by which the dump's own 'gosem.cut.vars' lays the variable. In a bare row this is a premise. The card (YtmfcgglgolajnaaDoorCards.lean) ties it to the program's text. -/
def laid_net_netip_z4 {H : Type} : DataW H := .agg [.ptr (.agg [.lit (.bool false), .lit (.string [])])]
def laid_net_netip_z6noz {H : Type} : DataW H := .agg [.ptr (.agg [.lit (.bool true), .lit (.string [])])]
def laid_net_v4InV6Prefix {H : Type} : DataW H := .slice [.lit (.int .u8 0), .lit (.int .u8 0), .lit (.int .u8 0), .lit (.int .u8 0), .lit (.int .u8 0), .lit (.int .u8 0), .lit (.int .u8 0), .lit (.int .u8 0), .lit (.int .u8 0), .lit (.int .u8 0), .lit (.int .u8 255), .lit (.int .u8 255)] []
def laid_net_netip_z0 {H : Type} : DataW H := .agg [.nil]
def laid_math_bits_deBruijn32tab {H : Type} : DataW H := .agg [.lit (.int .u8 0), .lit (.int .u8 1), .lit (.int .u8 28), .lit (.int .u8 2), .lit (.int .u8 29), .lit (.int .u8 14), .lit (.int .u8 24), .lit (.int .u8 3), .lit (.int .u8 30), .lit (.int .u8 22), .lit (.int .u8 20), .lit (.int .u8 15), .lit (.int .u8 25), .lit (.int .u8 17), .lit (.int .u8 4), .lit (.int .u8 8), .lit (.int .u8 31), .lit (.int .u8 27), .lit (.int .u8 13), .lit (.int .u8 23), .lit (.int .u8 21), .lit (.int .u8 19), .lit (.int .u8 16), .lit (.int .u8 7), .lit (.int .u8 26), .lit (.int .u8 12), .lit (.int .u8 18), .lit (.int .u8 6), .lit (.int .u8 11), .lit (.int .u8 5), .lit (.int .u8 10), .lit (.int .u8 9)]
def laid_math_bits_deBruijn64tab {H : Type} : DataW H := .agg [.lit (.int .u8 0), .lit (.int .u8 1), .lit (.int .u8 56), .lit (.int .u8 2), .lit (.int .u8 57), .lit (.int .u8 49), .lit (.int .u8 28), .lit (.int .u8 3), .lit (.int .u8 61), .lit (.int .u8 58), .lit (.int .u8 42), .lit (.int .u8 50), .lit (.int .u8 38), .lit (.int .u8 29), .lit (.int .u8 17), .lit (.int .u8 4), .lit (.int .u8 62), .lit (.int .u8 47), .lit (.int .u8 59), .lit (.int .u8 36), .lit (.int .u8 45), .lit (.int .u8 43), .lit (.int .u8 51), .lit (.int .u8 22), .lit (.int .u8 53), .lit (.int .u8 39), .lit (.int .u8 33), .lit (.int .u8 30), .lit (.int .u8 24), .lit (.int .u8 18), .lit (.int .u8 12), .lit (.int .u8 5), .lit (.int .u8 63), .lit (.int .u8 55), .lit (.int .u8 48), .lit (.int .u8 27), .lit (.int .u8 60), .lit (.int .u8 41), .lit (.int .u8 37), .lit (.int .u8 16), .lit (.int .u8 46), .lit (.int .u8 35), .lit (.int .u8 44), .lit (.int .u8 21), .lit (.int .u8 52), .lit (.int .u8 32), .lit (.int .u8 23), .lit (.int .u8 11), .lit (.int .u8 54), .lit (.int .u8 26), .lit (.int .u8 40), .lit (.int .u8 15), .lit (.int .u8 34), .lit (.int .u8 20), .lit (.int .u8 31), .lit (.int .u8 10), .lit (.int .u8 25), .lit (.int .u8 14), .lit (.int .u8 19), .lit (.int .u8 9), .lit (.int .u8 13), .lit (.int .u8 8), .lit (.int .u8 7), .lit (.int .u8 6)]
def laid_internal_strconv_uint64pow10 {H : Type} : DataW H := .agg [.lit (.int .u64 1), .lit (.int .u64 10), .lit (.int .u64 100), .lit (.int .u64 1000), .lit (.int .u64 10000), .lit (.int .u64 100000), .lit (.int .u64 1000000), .lit (.int .u64 10000000), .lit (.int .u64 100000000), .lit (.int .u64 1000000000), .lit (.int .u64 10000000000), .lit (.int .u64 100000000000), .lit (.int .u64 1000000000000), .lit (.int .u64 10000000000000), .lit (.int .u64 100000000000000), .lit (.int .u64 1000000000000000), .lit (.int .u64 10000000000000000), .lit (.int .u64 100000000000000000), .lit (.int .u64 1000000000000000000), .lit (.int .u64 10000000000000000000)]

/-- 'laws.FnOneBit': WHATEVER THE INPUT: true; the input reads as it did. -/
def fnOneBitSpec : ChangeSpec := { name := "fnOneBit", fn := fun _ => fun
  | [d1, d2] => { results := [.lit (.bool true)], args := [d1, d2] }
  | _ => none }
def fnOneBitRow : OpenClaim := { program := "ytmfcgglgolajnaadoor", sum := "5b83812354ca05c9b958691cb33acb5aa78db7942d79c556ce59340aa4c0b539", func := "loop.example/lib-g01431/laws.FnOneBit", spec := "fnOneBit", inPlace := ["internal/bytealg.IndexByteString", "unique.Make[net/netip.addrDetail]"], named := ["net.v4InV6Prefix", "net/netip.z4", "net/netip.z6noz", "net/netip.z0"], apart := false, laid := [("net/netip.z4", laid_net_netip_z4), ("net/netip.z6noz", laid_net_netip_z6noz), ("net.v4InV6Prefix", laid_net_v4InV6Prefix), ("net/netip.z0", laid_net_netip_z0)] }
def FnOneBitSaid : Prop := fnOneBitRow.holds Tryd.pinned (OpenSpec.ofChange fnOneBitSpec)

/-- ITS FALSE NEIGHBOUR: 'it returns false'. Refute it at one input. -/
def fnOneBitWrong : ChangeSpec := { name := "fnOneBit", fn := fun _ => fun
  | [d1, d2] => { results := [.lit (.bool false)], args := [d1, d2] }
  | _ => none }
def FnOneBitWrongFalsely : Prop := fnOneBitRow.holds Tryd.pinned (OpenSpec.ofChange fnOneBitWrong)

/-- 'laws.FnLinesRead': WHATEVER THE INPUT: true; the input reads as it did. -/
def fnLinesReadSpec : ChangeSpec := { name := "fnLinesRead", fn := fun _ => fun
  | [d] => { results := [.lit (.bool true)], args := [d] }
  | _ => none }
def fnLinesReadRow : OpenClaim := { program := "ytmfcgglgolajnaadoor", sum := "5b83812354ca05c9b958691cb33acb5aa78db7942d79c556ce59340aa4c0b539", func := "loop.example/lib-g01431/laws.FnLinesRead", spec := "fnLinesRead", inPlace := ["internal/bytealg.IndexByteString", "unique.Make[net/netip.addrDetail]"], named := ["net/netip.z4", "net/netip.z6noz", "net/netip.z0", "net.v4InV6Prefix"], apart := false, laid := [("net/netip.z4", laid_net_netip_z4), ("net/netip.z6noz", laid_net_netip_z6noz), ("net.v4InV6Prefix", laid_net_v4InV6Prefix), ("net/netip.z0", laid_net_netip_z0)] }
def FnLinesReadSaid : Prop := fnLinesReadRow.holds Tryd.pinned (OpenSpec.ofChange fnLinesReadSpec)

/-- ITS FALSE NEIGHBOUR: 'it returns false'. Refute it at one input. -/
def fnLinesReadWrong : ChangeSpec := { name := "fnLinesRead", fn := fun _ => fun
  | [d] => { results := [.lit (.bool false)], args := [d] }
  | _ => none }
def FnLinesReadWrongFalsely : Prop := fnLinesReadRow.holds Tryd.pinned (OpenSpec.ofChange fnLinesReadWrong)

/-- 'laws.FnNetsWritten': WHATEVER THE INPUT: true; the input reads as it did. -/
def fnNetsWrittenSpec : ChangeSpec := { name := "fnNetsWritten", fn := fun _ => fun
  | [d1, d2] => { results := [.lit (.bool true)], args := [d1, d2] }
  | _ => none }
def fnNetsWrittenRow : OpenClaim := { program := "ytmfcgglgolajnaadoor", sum := "5b83812354ca05c9b958691cb33acb5aa78db7942d79c556ce59340aa4c0b539", func := "loop.example/lib-g01431/laws.FnNetsWritten", spec := "fnNetsWritten", inPlace := ["internal/bytealg.IndexByteString", "unique.Make[net/netip.addrDetail]"], named := ["net/netip.z4", "net/netip.z6noz", "net/netip.z0", "internal/strconv.uint64pow10", "math/bits.deBruijn32tab", "math/bits.deBruijn64tab"], apart := false, laid := [("math/bits.deBruijn32tab", laid_math_bits_deBruijn32tab), ("math/bits.deBruijn64tab", laid_math_bits_deBruijn64tab), ("internal/strconv.uint64pow10", laid_internal_strconv_uint64pow10), ("net/netip.z4", laid_net_netip_z4), ("net/netip.z6noz", laid_net_netip_z6noz), ("net/netip.z0", laid_net_netip_z0)] }
def FnNetsWrittenSaid : Prop := fnNetsWrittenRow.holds Tryd.pinned (OpenSpec.ofChange fnNetsWrittenSpec)

/-- ITS FALSE NEIGHBOUR: 'it returns false'. Refute it at one input. -/
def fnNetsWrittenWrong : ChangeSpec := { name := "fnNetsWritten", fn := fun _ => fun
  | [d1, d2] => { results := [.lit (.bool false)], args := [d1, d2] }
  | _ => none }
def FnNetsWrittenWrongFalsely : Prop := fnNetsWrittenRow.holds Tryd.pinned (OpenSpec.ofChange fnNetsWrittenWrong)

/-- 'laws.FnEqualClasses': WHATEVER THE INPUT: true; the input reads as it did. -/
def fnEqualClassesSpec : ChangeSpec := { name := "fnEqualClasses", fn := fun _ => fun
  | [d] => { results := [.lit (.bool true)], args := [d] }
  | _ => none }
def fnEqualClassesRow : OpenClaim := { program := "ytmfcgglgolajnaadoor", sum := "5b83812354ca05c9b958691cb33acb5aa78db7942d79c556ce59340aa4c0b539", func := "loop.example/lib-g01431/laws.FnEqualClasses", spec := "fnEqualClasses", named := ["net/netip.z4", "net/netip.z6noz", "net/netip.z0", "net.v4InV6Prefix"], apart := false, laid := [("net/netip.z4", laid_net_netip_z4), ("net/netip.z6noz", laid_net_netip_z6noz), ("net.v4InV6Prefix", laid_net_v4InV6Prefix), ("net/netip.z0", laid_net_netip_z0)] }
def FnEqualClassesSaid : Prop := fnEqualClassesRow.holds Tryd.pinned (OpenSpec.ofChange fnEqualClassesSpec)

/-- ITS FALSE NEIGHBOUR: 'it returns false'. Refute it at one input. -/
def fnEqualClassesWrong : ChangeSpec := { name := "fnEqualClasses", fn := fun _ => fun
  | [d] => { results := [.lit (.bool false)], args := [d] }
  | _ => none }
def FnEqualClassesWrongFalsely : Prop := fnEqualClassesRow.holds Tryd.pinned (OpenSpec.ofChange fnEqualClassesWrong)

/-- 'laws.FnAsManyStrings': WHATEVER THE INPUT: true; the input reads as it did. -/
def fnAsManyStringsSpec : ChangeSpec := { name := "fnAsManyStrings", fn := fun _ => fun
  | [d] => { results := [.lit (.bool true)], args := [d] }
  | _ => none }
def fnAsManyStringsRow : OpenClaim := { program := "ytmfcgglgolajnaadoor", sum := "5b83812354ca05c9b958691cb33acb5aa78db7942d79c556ce59340aa4c0b539", func := "loop.example/lib-g01431/laws.FnAsManyStrings", spec := "fnAsManyStrings", named := ["net/netip.z4", "net/netip.z6noz", "net/netip.z0", "net.v4InV6Prefix"], apart := false, laid := [("net/netip.z4", laid_net_netip_z4), ("net/netip.z6noz", laid_net_netip_z6noz), ("net.v4InV6Prefix", laid_net_v4InV6Prefix), ("net/netip.z0", laid_net_netip_z0)] }
def FnAsManyStringsSaid : Prop := fnAsManyStringsRow.holds Tryd.pinned (OpenSpec.ofChange fnAsManyStringsSpec)

/-- ITS FALSE NEIGHBOUR: 'it returns false'. Refute it at one input. -/
def fnAsManyStringsWrong : ChangeSpec := { name := "fnAsManyStrings", fn := fun _ => fun
  | [d] => { results := [.lit (.bool false)], args := [d] }
  | _ => none }
def FnAsManyStringsWrongFalsely : Prop := fnAsManyStringsRow.holds Tryd.pinned (OpenSpec.ofChange fnAsManyStringsWrong)

/-- 'laws.FnFormsAlike': WHATEVER THE INPUT: true; the input reads as it did. -/
def fnFormsAlikeSpec : ChangeSpec := { name := "fnFormsAlike", fn := fun _ => fun
  | [d1, d2] => { results := [.lit (.bool true)], args := [d1, d2] }
  | _ => none }
def fnFormsAlikeRow : OpenClaim := { program := "ytmfcgglgolajnaadoor", sum := "5b83812354ca05c9b958691cb33acb5aa78db7942d79c556ce59340aa4c0b539", func := "loop.example/lib-g01431/laws.FnFormsAlike", spec := "fnFormsAlike", named := ["net.v4InV6Prefix", "net/netip.z4", "net/netip.z6noz", "net/netip.z0"], apart := false, laid := [("net/netip.z4", laid_net_netip_z4), ("net/netip.z6noz", laid_net_netip_z6noz), ("net.v4InV6Prefix", laid_net_v4InV6Prefix), ("net/netip.z0", laid_net_netip_z0)] }
def FnFormsAlikeSaid : Prop := fnFormsAlikeRow.holds Tryd.pinned (OpenSpec.ofChange fnFormsAlikeSpec)

/-- ITS FALSE NEIGHBOUR: 'it returns false'. Refute it at one input. -/
def fnFormsAlikeWrong : ChangeSpec := { name := "fnFormsAlike", fn := fun _ => fun
  | [d1, d2] => { results := [.lit (.bool false)], args := [d1, d2] }
  | _ => none }
def FnFormsAlikeWrongFalsely : Prop := fnFormsAlikeRow.holds Tryd.pinned (OpenSpec.ofChange fnFormsAlikeWrong)

/-- 'laws.FnDotsCut': WHATEVER THE INPUT: true; the input reads as it did. -/
def fnDotsCutSpec : ChangeSpec := { name := "fnDotsCut", fn := fun _ => fun
  | [d] => { results := [.lit (.bool true)], args := [d] }
  | _ => none }
def fnDotsCutRow : OpenClaim := { program := "ytmfcgglgolajnaadoor", sum := "5b83812354ca05c9b958691cb33acb5aa78db7942d79c556ce59340aa4c0b539", func := "loop.example/lib-g01431/laws.FnDotsCut", spec := "fnDotsCut", inPlace := ["internal/bytealg.IndexByteString", "unique.Make[net/netip.addrDetail]"], named := ["net/netip.z4", "net/netip.z6noz", "net/netip.z0"], apart := false, laid := [("net/netip.z4", laid_net_netip_z4), ("net/netip.z6noz", laid_net_netip_z6noz), ("net/netip.z0", laid_net_netip_z0)] }
def FnDotsCutSaid : Prop := fnDotsCutRow.holds Tryd.pinned (OpenSpec.ofChange fnDotsCutSpec)

/-- ITS FALSE NEIGHBOUR: 'it returns false'. Refute it at one input. -/
def fnDotsCutWrong : ChangeSpec := { name := "fnDotsCut", fn := fun _ => fun
  | [d] => { results := [.lit (.bool false)], args := [d] }
  | _ => none }
def FnDotsCutWrongFalsely : Prop := fnDotsCutRow.holds Tryd.pinned (OpenSpec.ofChange fnDotsCutWrong)

/-- 'laws.FnMasksWritten': WHATEVER THE INPUT: true; the input reads as it did. -/
def fnMasksWrittenSpec : ChangeSpec := { name := "fnMasksWritten", fn := fun _ => fun
  | [d1, d2] => { results := [.lit (.bool true)], args := [d1, d2] }
  | _ => none }
def fnMasksWrittenRow : OpenClaim := { program := "ytmfcgglgolajnaadoor", sum := "5b83812354ca05c9b958691cb33acb5aa78db7942d79c556ce59340aa4c0b539", func := "loop.example/lib-g01431/laws.FnMasksWritten", spec := "fnMasksWritten", named := ["net/netip.z4", "net/netip.z6noz", "net/netip.z0", "internal/strconv.uint64pow10", "math/bits.deBruijn32tab", "math/bits.deBruijn64tab"], apart := false, laid := [("math/bits.deBruijn32tab", laid_math_bits_deBruijn32tab), ("math/bits.deBruijn64tab", laid_math_bits_deBruijn64tab), ("internal/strconv.uint64pow10", laid_internal_strconv_uint64pow10), ("net/netip.z4", laid_net_netip_z4), ("net/netip.z6noz", laid_net_netip_z6noz), ("net/netip.z0", laid_net_netip_z0)] }
def FnMasksWrittenSaid : Prop := fnMasksWrittenRow.holds Tryd.pinned (OpenSpec.ofChange fnMasksWrittenSpec)

/-- ITS FALSE NEIGHBOUR: 'it returns false'. Refute it at one input. -/
def fnMasksWrittenWrong : ChangeSpec := { name := "fnMasksWritten", fn := fun _ => fun
  | [d1, d2] => { results := [.lit (.bool false)], args := [d1, d2] }
  | _ => none }
def FnMasksWrittenWrongFalsely : Prop := fnMasksWrittenRow.holds Tryd.pinned (OpenSpec.ofChange fnMasksWrittenWrong)

/- THE SECOND FORM. 'bulk': how many values and letters a reading holds, each counted each time it is reached (what is shared counts as often as it is met; a slice's spare places count too). A statement '..UptoSaid' is the law's where the arguments, and the package variables that the reading takes, are together of bulk at most 1048576: NARROWER than '..Said'. Prove '..Said' where nothing that the law and all that it calls make is longer than what came in: it says more and counts as full. Else prove '..UptoSaid'. A law counts once. -/
mutual
def uptoBulk {H : Type} : DataW H → Nat
  | .lit (.string bytes) => bytes.length + 1
  | .lit _ => 1
  | .nil => 1
  | .ptr d => uptoBulk d + 1
  | .slice elems spare => uptoBulkAll elems + uptoBulkAll spare + 1
  | .agg parts => uptoBulkAll parts + 1
  | .iface _ d => uptoBulk d + 1
  | .map entries => uptoBulkEntries entries + 1
  | .held _ => 1
def uptoBulkAll {H : Type} : List (DataW H) → Nat
  | [] => 0
  | d :: r => uptoBulk d + uptoBulkAll r
def uptoBulkEntries {H : Type} : List (Lit × DataW H) → Nat
  | [] => 0
  | x :: r => uptoBulkEntry x + uptoBulkEntries r
def uptoBulkEntry {H : Type} : Lit × DataW H → Nat
  | (.string bytes, d) => bytes.length + uptoBulk d + 1
  | (_, d) => uptoBulk d + 1
 end
def uptoSmall : (H : Type) → List (DataW H) → Bool := fun _ ds => decide (uptoBulkAll ds ≤ 1048576)
def OpenSpec.upto (s : _root_.Go.ChangeSpec) : _root_.Go.OpenSpec := { _root_.Go.OpenSpec.ofChange s with cond := some uptoSmall }

/-- 'laws.FnOneBit', WHERE WHAT IT READS IS OF BULK AT MOST 1048576: true; the input reads as it did. -/
def fnOneBitUptoRow : OpenClaim := { program := "ytmfcgglgolajnaadoor", sum := "5b83812354ca05c9b958691cb33acb5aa78db7942d79c556ce59340aa4c0b539", func := "loop.example/lib-g01431/laws.FnOneBit", spec := "fnOneBit", inPlace := ["internal/bytealg.IndexByteString", "unique.Make[net/netip.addrDetail]"], named := ["net.v4InV6Prefix", "net/netip.z4", "net/netip.z6noz", "net/netip.z0"], apart := false, laid := [("net/netip.z4", laid_net_netip_z4), ("net/netip.z6noz", laid_net_netip_z6noz), ("net.v4InV6Prefix", laid_net_v4InV6Prefix), ("net/netip.z0", laid_net_netip_z0)], narrowed := true }
def FnOneBitUptoSaid : Prop := fnOneBitUptoRow.holds Tryd.pinned (OpenSpec.upto fnOneBitSpec)

/-- 'laws.FnLinesRead', WHERE WHAT IT READS IS OF BULK AT MOST 1048576: true; the input reads as it did. -/
def fnLinesReadUptoRow : OpenClaim := { program := "ytmfcgglgolajnaadoor", sum := "5b83812354ca05c9b958691cb33acb5aa78db7942d79c556ce59340aa4c0b539", func := "loop.example/lib-g01431/laws.FnLinesRead", spec := "fnLinesRead", inPlace := ["internal/bytealg.IndexByteString", "unique.Make[net/netip.addrDetail]"], named := ["net/netip.z4", "net/netip.z6noz", "net/netip.z0", "net.v4InV6Prefix"], apart := false, laid := [("net/netip.z4", laid_net_netip_z4), ("net/netip.z6noz", laid_net_netip_z6noz), ("net.v4InV6Prefix", laid_net_v4InV6Prefix), ("net/netip.z0", laid_net_netip_z0)], narrowed := true }
def FnLinesReadUptoSaid : Prop := fnLinesReadUptoRow.holds Tryd.pinned (OpenSpec.upto fnLinesReadSpec)

/-- 'laws.FnNetsWritten', WHERE WHAT IT READS IS OF BULK AT MOST 1048576: true; the input reads as it did. -/
def fnNetsWrittenUptoRow : OpenClaim := { program := "ytmfcgglgolajnaadoor", sum := "5b83812354ca05c9b958691cb33acb5aa78db7942d79c556ce59340aa4c0b539", func := "loop.example/lib-g01431/laws.FnNetsWritten", spec := "fnNetsWritten", inPlace := ["internal/bytealg.IndexByteString", "unique.Make[net/netip.addrDetail]"], named := ["net/netip.z4", "net/netip.z6noz", "net/netip.z0", "internal/strconv.uint64pow10", "math/bits.deBruijn32tab", "math/bits.deBruijn64tab"], apart := false, laid := [("math/bits.deBruijn32tab", laid_math_bits_deBruijn32tab), ("math/bits.deBruijn64tab", laid_math_bits_deBruijn64tab), ("internal/strconv.uint64pow10", laid_internal_strconv_uint64pow10), ("net/netip.z4", laid_net_netip_z4), ("net/netip.z6noz", laid_net_netip_z6noz), ("net/netip.z0", laid_net_netip_z0)], narrowed := true }
def FnNetsWrittenUptoSaid : Prop := fnNetsWrittenUptoRow.holds Tryd.pinned (OpenSpec.upto fnNetsWrittenSpec)

/-- 'laws.FnEqualClasses', WHERE WHAT IT READS IS OF BULK AT MOST 1048576: true; the input reads as it did. -/
def fnEqualClassesUptoRow : OpenClaim := { program := "ytmfcgglgolajnaadoor", sum := "5b83812354ca05c9b958691cb33acb5aa78db7942d79c556ce59340aa4c0b539", func := "loop.example/lib-g01431/laws.FnEqualClasses", spec := "fnEqualClasses", named := ["net/netip.z4", "net/netip.z6noz", "net/netip.z0", "net.v4InV6Prefix"], apart := false, laid := [("net/netip.z4", laid_net_netip_z4), ("net/netip.z6noz", laid_net_netip_z6noz), ("net.v4InV6Prefix", laid_net_v4InV6Prefix), ("net/netip.z0", laid_net_netip_z0)], narrowed := true }
def FnEqualClassesUptoSaid : Prop := fnEqualClassesUptoRow.holds Tryd.pinned (OpenSpec.upto fnEqualClassesSpec)

/-- 'laws.FnAsManyStrings', WHERE WHAT IT READS IS OF BULK AT MOST 1048576: true; the input reads as it did. -/
def fnAsManyStringsUptoRow : OpenClaim := { program := "ytmfcgglgolajnaadoor", sum := "5b83812354ca05c9b958691cb33acb5aa78db7942d79c556ce59340aa4c0b539", func := "loop.example/lib-g01431/laws.FnAsManyStrings", spec := "fnAsManyStrings", named := ["net/netip.z4", "net/netip.z6noz", "net/netip.z0", "net.v4InV6Prefix"], apart := false, laid := [("net/netip.z4", laid_net_netip_z4), ("net/netip.z6noz", laid_net_netip_z6noz), ("net.v4InV6Prefix", laid_net_v4InV6Prefix), ("net/netip.z0", laid_net_netip_z0)], narrowed := true }
def FnAsManyStringsUptoSaid : Prop := fnAsManyStringsUptoRow.holds Tryd.pinned (OpenSpec.upto fnAsManyStringsSpec)

/-- 'laws.FnFormsAlike', WHERE WHAT IT READS IS OF BULK AT MOST 1048576: true; the input reads as it did. -/
def fnFormsAlikeUptoRow : OpenClaim := { program := "ytmfcgglgolajnaadoor", sum := "5b83812354ca05c9b958691cb33acb5aa78db7942d79c556ce59340aa4c0b539", func := "loop.example/lib-g01431/laws.FnFormsAlike", spec := "fnFormsAlike", named := ["net.v4InV6Prefix", "net/netip.z4", "net/netip.z6noz", "net/netip.z0"], apart := false, laid := [("net/netip.z4", laid_net_netip_z4), ("net/netip.z6noz", laid_net_netip_z6noz), ("net.v4InV6Prefix", laid_net_v4InV6Prefix), ("net/netip.z0", laid_net_netip_z0)], narrowed := true }
def FnFormsAlikeUptoSaid : Prop := fnFormsAlikeUptoRow.holds Tryd.pinned (OpenSpec.upto fnFormsAlikeSpec)

/-- 'laws.FnDotsCut', WHERE WHAT IT READS IS OF BULK AT MOST 1048576: true; the input reads as it did. -/
def fnDotsCutUptoRow : OpenClaim := { program := "ytmfcgglgolajnaadoor", sum := "5b83812354ca05c9b958691cb33acb5aa78db7942d79c556ce59340aa4c0b539", func := "loop.example/lib-g01431/laws.FnDotsCut", spec := "fnDotsCut", inPlace := ["internal/bytealg.IndexByteString", "unique.Make[net/netip.addrDetail]"], named := ["net/netip.z4", "net/netip.z6noz", "net/netip.z0"], apart := false, laid := [("net/netip.z4", laid_net_netip_z4), ("net/netip.z6noz", laid_net_netip_z6noz), ("net/netip.z0", laid_net_netip_z0)], narrowed := true }
def FnDotsCutUptoSaid : Prop := fnDotsCutUptoRow.holds Tryd.pinned (OpenSpec.upto fnDotsCutSpec)

/-- 'laws.FnMasksWritten', WHERE WHAT IT READS IS OF BULK AT MOST 1048576: true; the input reads as it did. -/
def fnMasksWrittenUptoRow : OpenClaim := { program := "ytmfcgglgolajnaadoor", sum := "5b83812354ca05c9b958691cb33acb5aa78db7942d79c556ce59340aa4c0b539", func := "loop.example/lib-g01431/laws.FnMasksWritten", spec := "fnMasksWritten", named := ["net/netip.z4", "net/netip.z6noz", "net/netip.z0", "internal/strconv.uint64pow10", "math/bits.deBruijn32tab", "math/bits.deBruijn64tab"], apart := false, laid := [("math/bits.deBruijn32tab", laid_math_bits_deBruijn32tab), ("math/bits.deBruijn64tab", laid_math_bits_deBruijn64tab), ("internal/strconv.uint64pow10", laid_internal_strconv_uint64pow10), ("net/netip.z4", laid_net_netip_z4), ("net/netip.z6noz", laid_net_netip_z6noz), ("net/netip.z0", laid_net_netip_z0)], narrowed := true }
def FnMasksWrittenUptoSaid : Prop := fnMasksWrittenUptoRow.holds Tryd.pinned (OpenSpec.upto fnMasksWrittenSpec)

end Rows
end Go.Proofs.YtmfcgglgolajnaaDoor
