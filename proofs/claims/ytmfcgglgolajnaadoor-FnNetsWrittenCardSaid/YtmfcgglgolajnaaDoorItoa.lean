/-
  The contract of internal/strconv's FormatInt out of the kit's shelf, laid in plain words at this program (written by the kit's lay-plain), and of Itoa.
-/
import Derived.Shelf.Strconv.Itoa4
import Derived.Test.YtmfcgglgolajnaaDoorMA
import Derived.Test.YtmfcgglgolajnaaDoorMB
namespace Go.Proofs
open Go.Shelf
def Tryd.lays246_ren : Go.Shelf.Ren := ⟨fun | 246 => 61 | 283 => 72 | 284 => 73 | 285 => 74 | 286 => 75 | 129 => 88 | 317 => 87 | 318 => 89 | 319 => 90 | 320 => 91 | 337 => 94 | 338 => 95 | n => n, fun | 2 => 2 | 3 => 3 | 9 => 9 | 4 => 4 | 171 => 109 | 0 => 0 | 53 => 82 | 37 => 22 | 5 => 5 | 173 => 111 | 212 => 126 | 51 => 123 | 20 => 20 | 213 => 127 | 46 => 53 | 232 => 136 | 233 => 137 | n => n, fun | 17 => 5 | 18 => 6 | 19 => 7 | n => n⟩
theorem Tryd.lays246 : Go.Proofs.LaysM.n246 Tryd.prog Tryd.lays246_ren := {
  mixed := by kernel_rfl
  f129 := Tryd.func88.trans (congrArg some (by kernel_rfl))
  f246 := Tryd.func61.trans (congrArg some (by kernel_rfl))
  f283 := Tryd.func72.trans (congrArg some (by kernel_rfl))
  f284 := Tryd.func73.trans (congrArg some (by kernel_rfl))
  f285 := Tryd.func74.trans (congrArg some (by kernel_rfl))
  f286 := Tryd.func75.trans (congrArg some (by kernel_rfl))
  f317 := Tryd.func87.trans (congrArg some (by kernel_rfl))
  f318 := Tryd.func89.trans (congrArg some (by kernel_rfl))
  f319 := Tryd.func90.trans (congrArg some (by kernel_rfl))
  f320 := Tryd.func91.trans (congrArg some (by kernel_rfl))
  f337 := Tryd.func94.trans (congrArg some (by kernel_rfl))
  f338 := Tryd.func95.trans (congrArg some (by kernel_rfl))
  t0 := Tryd.underlying0
  a0 := Tryd.isAgg0
  z0 := Tryd.sizeOf0
  v0 := Tryd.zeroValue0
  t2 := Tryd.underlying2
  a2 := Tryd.isAgg2
  z2 := Tryd.sizeOf2
  v2 := Tryd.zeroValue2
  t3 := Tryd.underlying3
  a3 := Tryd.isAgg3
  z3 := Tryd.sizeOf3
  v3 := Tryd.zeroValue3
  t4 := Tryd.underlying4
  a4 := Tryd.isAgg4
  z4 := Tryd.sizeOf4
  v4 := Tryd.zeroValue4
  t5 := Tryd.underlying5
  a5 := Tryd.isAgg5
  z5 := Tryd.sizeOf5
  v5 := Tryd.zeroValue5
  t9 := Tryd.underlying9
  a9 := Tryd.isAgg9
  z9 := Tryd.sizeOf9
  v9 := Tryd.zeroValue9
  t20 := Tryd.underlying20
  a20 := Tryd.isAgg20
  z20 := Tryd.sizeOf20
  v20 := Tryd.zeroValue20
  t37 := Tryd.underlying22
  a37 := Tryd.isAgg22
  z37 := Tryd.sizeOf22
  v37 := Tryd.zeroValue22
  t46 := Tryd.underlying53
  a46 := Tryd.isAgg53
  z46 := Tryd.sizeOf53
  v46 := Tryd.zeroValue53
  t51 := Tryd.underlying123
  a51 := Tryd.isAgg123
  z51 := Tryd.sizeOf123
  v51 := Tryd.zeroValue123
  t53 := Tryd.underlying82
  a53 := Tryd.isAgg82
  z53 := Tryd.sizeOf82
  v53 := Tryd.zeroValue82
  t171 := Tryd.underlying109
  a171 := Tryd.isAgg109
  z171 := Tryd.sizeOf109
  v171 := Tryd.zeroValue109
  t173 := Tryd.underlying111
  a173 := Tryd.isAgg111
  z173 := Tryd.sizeOf111
  v173 := Tryd.zeroValue111
  t212 := Tryd.underlying126
  a212 := Tryd.isAgg126
  z212 := Tryd.sizeOf126
  v212 := Tryd.zeroValue126
  t213 := Tryd.underlying127
  a213 := Tryd.isAgg127
  z213 := Tryd.sizeOf127
  t232 := Tryd.underlying136
  a232 := Tryd.isAgg136
  z232 := Tryd.sizeOf136
  v232 := Tryd.zeroValue136
  t233 := Tryd.underlying137
  a233 := Tryd.isAgg137
  z233 := Tryd.sizeOf137
  v233 := Tryd.zeroValue137
  g17 := by kernel_rfl
  g18 := by kernel_rfl
  g19 := by kernel_rfl
  i0 := by kernel_rfl
  i2 := by kernel_rfl
  i3 := by kernel_rfl
  i4 := by kernel_rfl
  i5 := by kernel_rfl
  i9 := by kernel_rfl
  i20 := by kernel_rfl
  i37 := by kernel_rfl
  i46 := by kernel_rfl
  i51 := by kernel_rfl
  i53 := by kernel_rfl
  i171 := by kernel_rfl
  i173 := by kernel_rfl
  i212 := by kernel_rfl
  i232 := by kernel_rfl
  i233 := by kernel_rfl
  m17 := by kernel_rfl
  m18 := by kernel_rfl
  m19 := by kernel_rfl }
theorem Tryd.formatInt_laid (n : Int) (h0 : -9223372036854775808 ≤ n) (h1 : n ≤ 9223372036854775807) (w : World) (htab : Lib.TabIs Tryd.prog w "internal/strconv.uint64pow10" .u64 Lib.pow10Tab) :
    Calls Tryd.prog 61 #[.int .i64 n, .int .i64 10] w fun e w' => e = .returned (.string ⟨(Lib.itoa n).toArray⟩) ∧ ∃ k os, w' = Sort.grow (w.drewN k) os := Any.internal_strconv_FormatInt_10 Tryd.lays246 n h0 h1 w htab
end Go.Proofs
namespace Go.Proofs.YtmfcgglgolajnaaDoor
open Go.RowKit
set_option linter.unusedVariables false

/-- The table of the powers of ten is laid. -/
def Pow10 (w : World) : Prop := Lib.TabIs Tryd.prog w "internal/strconv.uint64pow10" .u64 Lib.pow10Tab
theorem dec_decL (n : Nat) : Lib.decDigits n = decL n := by
  induction n using Nat.strongRecOn with
  | ind n ih =>
    rw [Lib.decDigits, decL]
    by_cases h : n < 10
    · rw [dif_pos h, dif_pos h]
    · rw [dif_neg h, dif_neg h, ih (n / 10) (by omega)]
theorem below_grow {w : World} (k : Nat) (os : Array Obj) : Below w.heap.size w (Sort.grow (w.drewN k) os) := by
  refine ⟨rfl, rfl, rfl, ?_, fun i hi => ?_⟩
  · show w.heap.size ≤ (w.heap ++ os).size
    rw [Array.size_append]; omega
  · show (w.heap ++ os)[i]? = w.heap[i]?
    rw [Array.getElem?_append_left hi]
set_option maxRecDepth 100000 in
set_option maxHeartbeats 800000 in
theorem itoa_any (l : Nat) (hl : l ≤ 1000) (w : World) (ht : Pow10 w) :
    Calls Tryd.prog 53 #[.int .i64 (l : Int)] w fun e w' => e = .returned (.string ⟨(decL l).toArray⟩) ∧ Below w.heap.size w w' := by
  have h := Tryd.formatInt_laid (l : Int) (by omega) (by omega) w ht
  rw [show Lib.itoa (l : Int) = decL l from by unfold Lib.itoa; rw [if_neg (by omega), Int.toNat_natCast, dec_decL]] at h
  have Hc := hide h
  generalize decL l = tx at *
  clear h ht
  go_enter Tryd.func53, Tryd.ntmps53
  go_wp2_with fail
  with_reducible refine Hc.out.mono ?_
  rintro e w' ⟨rfl, k, os, hw⟩
  have Hb : Hid (Below w.heap.size w w') := hide (by rw [hw]; exact below_grow k os)
  clear hw Hc
  go_wp2_with fail
  go_ret
  exact ⟨rfl, Hb.out⟩
theorem Pow10.below {w w' : World} (h : Pow10 w) (hb : Below w.heap.size w w') : Pow10 w' := by
  unfold Pow10 Lib.TabIs World.var? at h ⊢
  cases hg : Tryd.prog.globalNamed "internal/strconv.uint64pow10" with
  | none => rw [hg] at h; cases h
  | some g =>
    rw [hg] at h
    simp only [Option.bind_some] at h ⊢
    cases hh : w.heap[g]? with
    | none => rw [hh] at h; cases h
    | some o =>
      have hlt : g < w.heap.size := (Array.getElem?_eq_some_iff.1 hh).1
      rw [hb.block g hlt]
      exact h
end Go.Proofs.YtmfcgglgolajnaaDoor
