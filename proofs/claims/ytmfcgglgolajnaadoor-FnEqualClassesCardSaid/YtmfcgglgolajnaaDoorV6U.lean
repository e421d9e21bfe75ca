/-
  The contracts of uint128.halves and Addr.v6u16. (Written by wip/v6u.py.)
-/
import Derived.Test.YtmfcgglgolajnaaDoorB6
import Derived.Test.YtmfcgglgolajnaaDoorZone
import Derived.StillTailTactics
namespace Go.Proofs.YtmfcgglgolajnaaDoor
open Go.RowKit
set_option linter.unusedVariables false

set_option maxRecDepth 100000 in
set_option maxHeartbeats 800000 in
theorem halves_any (g o : Nat) (w : World) :
    Calls Tryd.prog 92 #[.pointer (some ⟨g, o, none⟩)] w fun e w' => e = .returned (.agg #[.pointer (some ⟨g, o, none⟩), .pointer (some ⟨g, o + 1, none⟩)]) ∧ Below w.heap.size w w' := by
  go_enter Tryd.func92, Tryd.ntmps92
  go_wp2_with fail
  generalize hW : w.alloc (.cells #[.pointer none, .pointer none] 131) = W1 at *
  have Hbw : Hid (Below w.heap.size w W1) := hide (by rw [← hW]; exact (Below.refl _ _).alloc (Nat.le_refl _) _)
  have hbk : Blk W1 w.heap.size 131 [.pointer none, .pointer none] := by rw [← hW]; exact Blk.new w _ _
  have d0 : W1.cell? ⟨w.heap.size, 0, none⟩ = some (.pointer none) := hbk.cell 0
  have d1 : W1.cell? ⟨w.heap.size, 1, none⟩ = some (.pointer none) := hbk.cell 1
  have f0 : ∀ i, W1.frozen? ⟨w.heap.size, i, none⟩ = false := fun i => hbk.frozen i
  clear hW hbk
  go_still_tail 7, (by kernel_rfl)
  change wpList _ _ _ _ _ W1.drew
  go_wp2_with fail
  refine bodyPost_ret (v := .agg #[.pointer (some ⟨g, o, none⟩), .pointer (some ⟨g, o + 1, none⟩)]) (by simp [results, Tryd.results92, go_sem, *]) rfl ?_
  refine ⟨rfl, ?_⟩
  refine Below.drew ?_
  iterate 2 refine Below.setCell ?_ (by simp) _
  exact Hbw.out

theorem run_idx0 (a b : Addr) (w : World) : (Instr.index 131 (.agg #[.pointer (some a), .pointer (some b)]) (.int .u8 0)).run Tryd.prog w = .ok (.pointer (some a)) w := by kernel_rfl
theorem run_idx1 (a b : Addr) (w : World) : (Instr.index 131 (.agg #[.pointer (some a), .pointer (some b)]) (.int .u8 1)).run Tryd.prog w = .ok (.pointer (some b)) w := by kernel_rfl

set_option maxRecDepth 100000 in
set_option maxHeartbeats 800000 in
theorem v6u_0 (hi lo r : Nat) (p : Option Addr) (w : World) (h1 : hi < 18446744073709551616) (h2 : lo < 18446744073709551616) (hr : (hi : Int) / 281474976710656 = (r : Int)) :
    Calls Tryd.prog 81 #[addrV hi lo p, .int .u8 0] w fun e w' => e = .returned (.int .u16 (r : Int)) ∧ Below w.heap.size w w' := by
  have i1 : (hi : Int) < 18446744073709551616 := by omega
  have i2 : (lo : Int) < 18446744073709551616 := by omega
  have i3 : (0 : Int) ≤ (hi : Int) := by omega
  have i4 : (0 : Int) ≤ (lo : Int) := by omega
  have Hr := hide hr
  have x0 := run_idx0
  have x1 := run_idx1
  clear hr
  unfold addrV
  go_enter Tryd.func81, Tryd.ntmps81
  go_wp2_with fail
  generalize hW : w.alloc (.cells #[.int .u64 (hi : Int), .int .u64 (lo : Int), .pointer p] 89) = W1 at *
  have Hbw : Hid (Below w.heap.size w W1) := hide (by rw [← hW]; exact (Below.refl _ _).alloc (Nat.le_refl _) _)
  have hbk : Blk W1 w.heap.size 89 [.int .u64 (hi : Int), .int .u64 (lo : Int), .pointer p] := by rw [← hW]; exact Blk.new w _ _
  have Hbk := hide hbk
  have Hc := hide (halves_any w.heap.size 0 W1)
  clear hW hbk
  with_reducible refine Hc.out.mono ?_
  rintro e W2 ⟨rfl, hb2⟩
  have hbk2 := Hbk.out.below hb2
  have c0 : W2.cell? ⟨w.heap.size, 0, none⟩ = some (.int .u64 (hi : Int)) := hbk2.cell 0
  have c1 : W2.cell? ⟨w.heap.size, 0 + 1, none⟩ = some (.int .u64 (lo : Int)) := hbk2.cell 1
  have c2 : W2.cell? ⟨w.heap.size, 1, none⟩ = some (.int .u64 (lo : Int)) := hbk2.cell 1
  have Hb2 := hide (Hbw.out.trans (hb2.mono Hbw.out.size))
  clear hb2 hbk2 Hc
  go_wp2_with fail
  go_ret
  rw [← Hr.out]
  exact ⟨rfl, Hb2.out⟩

set_option maxRecDepth 100000 in
set_option maxHeartbeats 800000 in
theorem v6u_1 (hi lo r : Nat) (p : Option Addr) (w : World) (h1 : hi < 18446744073709551616) (h2 : lo < 18446744073709551616) (hr : (hi : Int) / 4294967296 % 65536 = (r : Int)) :
    Calls Tryd.prog 81 #[addrV hi lo p, .int .u8 1] w fun e w' => e = .returned (.int .u16 (r : Int)) ∧ Below w.heap.size w w' := by
  have i1 : (hi : Int) < 18446744073709551616 := by omega
  have i2 : (lo : Int) < 18446744073709551616 := by omega
  have i3 : (0 : Int) ≤ (hi : Int) := by omega
  have i4 : (0 : Int) ≤ (lo : Int) := by omega
  have Hr := hide hr
  have x0 := run_idx0
  have x1 := run_idx1
  clear hr
  unfold addrV
  go_enter Tryd.func81, Tryd.ntmps81
  go_wp2_with fail
  generalize hW : w.alloc (.cells #[.int .u64 (hi : Int), .int .u64 (lo : Int), .pointer p] 89) = W1 at *
  have Hbw : Hid (Below w.heap.size w W1) := hide (by rw [← hW]; exact (Below.refl _ _).alloc (Nat.le_refl _) _)
  have hbk : Blk W1 w.heap.size 89 [.int .u64 (hi : Int), .int .u64 (lo : Int), .pointer p] := by rw [← hW]; exact Blk.new w _ _
  have Hbk := hide hbk
  have Hc := hide (halves_any w.heap.size 0 W1)
  clear hW hbk
  with_reducible refine Hc.out.mono ?_
  rintro e W2 ⟨rfl, hb2⟩
  have hbk2 := Hbk.out.below hb2
  have c0 : W2.cell? ⟨w.heap.size, 0, none⟩ = some (.int .u64 (hi : Int)) := hbk2.cell 0
  have c1 : W2.cell? ⟨w.heap.size, 0 + 1, none⟩ = some (.int .u64 (lo : Int)) := hbk2.cell 1
  have c2 : W2.cell? ⟨w.heap.size, 1, none⟩ = some (.int .u64 (lo : Int)) := hbk2.cell 1
  have Hb2 := hide (Hbw.out.trans (hb2.mono Hbw.out.size))
  clear hb2 hbk2 Hc
  go_wp2_with fail
  go_ret
  rw [← Hr.out]
  exact ⟨rfl, Hb2.out⟩

set_option maxRecDepth 100000 in
set_option maxHeartbeats 800000 in
theorem v6u_2 (hi lo r : Nat) (p : Option Addr) (w : World) (h1 : hi < 18446744073709551616) (h2 : lo < 18446744073709551616) (hr : (hi : Int) / 65536 % 65536 = (r : Int)) :
    Calls Tryd.prog 81 #[addrV hi lo p, .int .u8 2] w fun e w' => e = .returned (.int .u16 (r : Int)) ∧ Below w.heap.size w w' := by
  have i1 : (hi : Int) < 18446744073709551616 := by omega
  have i2 : (lo : Int) < 18446744073709551616 := by omega
  have i3 : (0 : Int) ≤ (hi : Int) := by omega
  have i4 : (0 : Int) ≤ (lo : Int) := by omega
  have Hr := hide hr
  have x0 := run_idx0
  have x1 := run_idx1
  clear hr
  unfold addrV
  go_enter Tryd.func81, Tryd.ntmps81
  go_wp2_with fail
  generalize hW : w.alloc (.cells #[.int .u64 (hi : Int), .int .u64 (lo : Int), .pointer p] 89) = W1 at *
  have Hbw : Hid (Below w.heap.size w W1) := hide (by rw [← hW]; exact (Below.refl _ _).alloc (Nat.le_refl _) _)
  have hbk : Blk W1 w.heap.size 89 [.int .u64 (hi : Int), .int .u64 (lo : Int), .pointer p] := by rw [← hW]; exact Blk.new w _ _
  have Hbk := hide hbk
  have Hc := hide (halves_any w.heap.size 0 W1)
  clear hW hbk
  with_reducible refine Hc.out.mono ?_
  rintro e W2 ⟨rfl, hb2⟩
  have hbk2 := Hbk.out.below hb2
  have c0 : W2.cell? ⟨w.heap.size, 0, none⟩ = some (.int .u64 (hi : Int)) := hbk2.cell 0
  have c1 : W2.cell? ⟨w.heap.size, 0 + 1, none⟩ = some (.int .u64 (lo : Int)) := hbk2.cell 1
  have c2 : W2.cell? ⟨w.heap.size, 1, none⟩ = some (.int .u64 (lo : Int)) := hbk2.cell 1
  have Hb2 := hide (Hbw.out.trans (hb2.mono Hbw.out.size))
  clear hb2 hbk2 Hc
  go_wp2_with fail
  go_ret
  rw [← Hr.out]
  exact ⟨rfl, Hb2.out⟩

set_option maxRecDepth 100000 in
set_option maxHeartbeats 800000 in
theorem v6u_3 (hi lo r : Nat) (p : Option Addr) (w : World) (h1 : hi < 18446744073709551616) (h2 : lo < 18446744073709551616) (hr : (hi : Int) % 65536 = (r : Int)) :
    Calls Tryd.prog 81 #[addrV hi lo p, .int .u8 3] w fun e w' => e = .returned (.int .u16 (r : Int)) ∧ Below w.heap.size w w' := by
  have i1 : (hi : Int) < 18446744073709551616 := by omega
  have i2 : (lo : Int) < 18446744073709551616 := by omega
  have i3 : (0 : Int) ≤ (hi : Int) := by omega
  have i4 : (0 : Int) ≤ (lo : Int) := by omega
  have Hr := hide hr
  have x0 := run_idx0
  have x1 := run_idx1
  clear hr
  unfold addrV
  go_enter Tryd.func81, Tryd.ntmps81
  go_wp2_with fail
  generalize hW : w.alloc (.cells #[.int .u64 (hi : Int), .int .u64 (lo : Int), .pointer p] 89) = W1 at *
  have Hbw : Hid (Below w.heap.size w W1) := hide (by rw [← hW]; exact (Below.refl _ _).alloc (Nat.le_refl _) _)
  have hbk : Blk W1 w.heap.size 89 [.int .u64 (hi : Int), .int .u64 (lo : Int), .pointer p] := by rw [← hW]; exact Blk.new w _ _
  have Hbk := hide hbk
  have Hc := hide (halves_any w.heap.size 0 W1)
  clear hW hbk
  with_reducible refine Hc.out.mono ?_
  rintro e W2 ⟨rfl, hb2⟩
  have hbk2 := Hbk.out.below hb2
  have c0 : W2.cell? ⟨w.heap.size, 0, none⟩ = some (.int .u64 (hi : Int)) := hbk2.cell 0
  have c1 : W2.cell? ⟨w.heap.size, 0 + 1, none⟩ = some (.int .u64 (lo : Int)) := hbk2.cell 1
  have c2 : W2.cell? ⟨w.heap.size, 1, none⟩ = some (.int .u64 (lo : Int)) := hbk2.cell 1
  have Hb2 := hide (Hbw.out.trans (hb2.mono Hbw.out.size))
  clear hb2 hbk2 Hc
  go_wp2_with fail
  go_ret
  rw [← Hr.out]
  exact ⟨rfl, Hb2.out⟩

set_option maxRecDepth 100000 in
set_option maxHeartbeats 800000 in
theorem v6u_4 (hi lo r : Nat) (p : Option Addr) (w : World) (h1 : hi < 18446744073709551616) (h2 : lo < 18446744073709551616) (hr : (lo : Int) / 281474976710656 = (r : Int)) :
    Calls Tryd.prog 81 #[addrV hi lo p, .int .u8 4] w fun e w' => e = .returned (.int .u16 (r : Int)) ∧ Below w.heap.size w w' := by
  have i1 : (hi : Int) < 18446744073709551616 := by omega
  have i2 : (lo : Int) < 18446744073709551616 := by omega
  have i3 : (0 : Int) ≤ (hi : Int) := by omega
  have i4 : (0 : Int) ≤ (lo : Int) := by omega
  have Hr := hide hr
  have x0 := run_idx0
  have x1 := run_idx1
  clear hr
  unfold addrV
  go_enter Tryd.func81, Tryd.ntmps81
  go_wp2_with fail
  generalize hW : w.alloc (.cells #[.int .u64 (hi : Int), .int .u64 (lo : Int), .pointer p] 89) = W1 at *
  have Hbw : Hid (Below w.heap.size w W1) := hide (by rw [← hW]; exact (Below.refl _ _).alloc (Nat.le_refl _) _)
  have hbk : Blk W1 w.heap.size 89 [.int .u64 (hi : Int), .int .u64 (lo : Int), .pointer p] := by rw [← hW]; exact Blk.new w _ _
  have Hbk := hide hbk
  have Hc := hide (halves_any w.heap.size 0 W1)
  clear hW hbk
  with_reducible refine Hc.out.mono ?_
  rintro e W2 ⟨rfl, hb2⟩
  have hbk2 := Hbk.out.below hb2
  have c0 : W2.cell? ⟨w.heap.size, 0, none⟩ = some (.int .u64 (hi : Int)) := hbk2.cell 0
  have c1 : W2.cell? ⟨w.heap.size, 0 + 1, none⟩ = some (.int .u64 (lo : Int)) := hbk2.cell 1
  have c2 : W2.cell? ⟨w.heap.size, 1, none⟩ = some (.int .u64 (lo : Int)) := hbk2.cell 1
  have Hb2 := hide (Hbw.out.trans (hb2.mono Hbw.out.size))
  clear hb2 hbk2 Hc
  go_wp2_with fail
  go_ret
  rw [← Hr.out]
  exact ⟨rfl, Hb2.out⟩

set_option maxRecDepth 100000 in
set_option maxHeartbeats 800000 in
theorem v6u_5 (hi lo r : Nat) (p : Option Addr) (w : World) (h1 : hi < 18446744073709551616) (h2 : lo < 18446744073709551616) (hr : (lo : Int) / 4294967296 % 65536 = (r : Int)) :
    Calls Tryd.prog 81 #[addrV hi lo p, .int .u8 5] w fun e w' => e = .returned (.int .u16 (r : Int)) ∧ Below w.heap.size w w' := by
  have i1 : (hi : Int) < 18446744073709551616 := by omega
  have i2 : (lo : Int) < 18446744073709551616 := by omega
  have i3 : (0 : Int) ≤ (hi : Int) := by omega
  have i4 : (0 : Int) ≤ (lo : Int) := by omega
  have Hr := hide hr
  have x0 := run_idx0
  have x1 := run_idx1
  clear hr
  unfold addrV
  go_enter Tryd.func81, Tryd.ntmps81
  go_wp2_with fail
  generalize hW : w.alloc (.cells #[.int .u64 (hi : Int), .int .u64 (lo : Int), .pointer p] 89) = W1 at *
  have Hbw : Hid (Below w.heap.size w W1) := hide (by rw [← hW]; exact (Below.refl _ _).alloc (Nat.le_refl _) _)
  have hbk : Blk W1 w.heap.size 89 [.int .u64 (hi : Int), .int .u64 (lo : Int), .pointer p] := by rw [← hW]; exact Blk.new w _ _
  have Hbk := hide hbk
  have Hc := hide (halves_any w.heap.size 0 W1)
  clear hW hbk
  with_reducible refine Hc.out.mono ?_
  rintro e W2 ⟨rfl, hb2⟩
  have hbk2 := Hbk.out.below hb2
  have c0 : W2.cell? ⟨w.heap.size, 0, none⟩ = some (.int .u64 (hi : Int)) := hbk2.cell 0
  have c1 : W2.cell? ⟨w.heap.size, 0 + 1, none⟩ = some (.int .u64 (lo : Int)) := hbk2.cell 1
  have c2 : W2.cell? ⟨w.heap.size, 1, none⟩ = some (.int .u64 (lo : Int)) := hbk2.cell 1
  have Hb2 := hide (Hbw.out.trans (hb2.mono Hbw.out.size))
  clear hb2 hbk2 Hc
  go_wp2_with fail
  go_ret
  rw [← Hr.out]
  exact ⟨rfl, Hb2.out⟩

set_option maxRecDepth 100000 in
set_option maxHeartbeats 800000 in
theorem v6u_6 (hi lo r : Nat) (p : Option Addr) (w : World) (h1 : hi < 18446744073709551616) (h2 : lo < 18446744073709551616) (hr : (lo : Int) / 65536 % 65536 = (r : Int)) :
    Calls Tryd.prog 81 #[addrV hi lo p, .int .u8 6] w fun e w' => e = .returned (.int .u16 (r : Int)) ∧ Below w.heap.size w w' := by
  have i1 : (hi : Int) < 18446744073709551616 := by omega
  have i2 : (lo : Int) < 18446744073709551616 := by omega
  have i3 : (0 : Int) ≤ (hi : Int) := by omega
  have i4 : (0 : Int) ≤ (lo : Int) := by omega
  have Hr := hide hr
  have x0 := run_idx0
  have x1 := run_idx1
  clear hr
  unfold addrV
  go_enter Tryd.func81, Tryd.ntmps81
  go_wp2_with fail
  generalize hW : w.alloc (.cells #[.int .u64 (hi : Int), .int .u64 (lo : Int), .pointer p] 89) = W1 at *
  have Hbw : Hid (Below w.heap.size w W1) := hide (by rw [← hW]; exact (Below.refl _ _).alloc (Nat.le_refl _) _)
  have hbk : Blk W1 w.heap.size 89 [.int .u64 (hi : Int), .int .u64 (lo : Int), .pointer p] := by rw [← hW]; exact Blk.new w _ _
  have Hbk := hide hbk
  have Hc := hide (halves_any w.heap.size 0 W1)
  clear hW hbk
  with_reducible refine Hc.out.mono ?_
  rintro e W2 ⟨rfl, hb2⟩
  have hbk2 := Hbk.out.below hb2
  have c0 : W2.cell? ⟨w.heap.size, 0, none⟩ = some (.int .u64 (hi : Int)) := hbk2.cell 0
  have c1 : W2.cell? ⟨w.heap.size, 0 + 1, none⟩ = some (.int .u64 (lo : Int)) := hbk2.cell 1
  have c2 : W2.cell? ⟨w.heap.size, 1, none⟩ = some (.int .u64 (lo : Int)) := hbk2.cell 1
  have Hb2 := hide (Hbw.out.trans (hb2.mono Hbw.out.size))
  clear hb2 hbk2 Hc
  go_wp2_with fail
  go_ret
  rw [← Hr.out]
  exact ⟨rfl, Hb2.out⟩

set_option maxRecDepth 100000 in
set_option maxHeartbeats 800000 in
theorem v6u_7 (hi lo r : Nat) (p : Option Addr) (w : World) (h1 : hi < 18446744073709551616) (h2 : lo < 18446744073709551616) (hr : (lo : Int) % 65536 = (r : Int)) :
    Calls Tryd.prog 81 #[addrV hi lo p, .int .u8 7] w fun e w' => e = .returned (.int .u16 (r : Int)) ∧ Below w.heap.size w w' := by
  have i1 : (hi : Int) < 18446744073709551616 := by omega
  have i2 : (lo : Int) < 18446744073709551616 := by omega
  have i3 : (0 : Int) ≤ (hi : Int) := by omega
  have i4 : (0 : Int) ≤ (lo : Int) := by omega
  have Hr := hide hr
  have x0 := run_idx0
  have x1 := run_idx1
  clear hr
  unfold addrV
  go_enter Tryd.func81, Tryd.ntmps81
  go_wp2_with fail
  generalize hW : w.alloc (.cells #[.int .u64 (hi : Int), .int .u64 (lo : Int), .pointer p] 89) = W1 at *
  have Hbw : Hid (Below w.heap.size w W1) := hide (by rw [← hW]; exact (Below.refl _ _).alloc (Nat.le_refl _) _)
  have hbk : Blk W1 w.heap.size 89 [.int .u64 (hi : Int), .int .u64 (lo : Int), .pointer p] := by rw [← hW]; exact Blk.new w _ _
  have Hbk := hide hbk
  have Hc := hide (halves_any w.heap.size 0 W1)
  clear hW hbk
  with_reducible refine Hc.out.mono ?_
  rintro e W2 ⟨rfl, hb2⟩
  have hbk2 := Hbk.out.below hb2
  have c0 : W2.cell? ⟨w.heap.size, 0, none⟩ = some (.int .u64 (hi : Int)) := hbk2.cell 0
  have c1 : W2.cell? ⟨w.heap.size, 0 + 1, none⟩ = some (.int .u64 (lo : Int)) := hbk2.cell 1
  have c2 : W2.cell? ⟨w.heap.size, 1, none⟩ = some (.int .u64 (lo : Int)) := hbk2.cell 1
  have Hb2 := hide (Hbw.out.trans (hb2.mono Hbw.out.size))
  clear hb2 hbk2 Hc
  go_wp2_with fail
  go_ret
  rw [← Hr.out]
  exact ⟨rfl, Hb2.out⟩

/-- The groups of 16 bytes. -/
def grpN (bs : List UInt8) (i : Nat) : Nat := (bs.getD (2 * i) 0).toNat * 256 + (bs.getD (2 * i + 1) 0).toNat
theorem grpN_lt (bs : List UInt8) (i : Nat) : grpN bs i < 65536 := by
  have := (bs.getD (2 * i) 0).toNat_lt
  have := (bs.getD (2 * i + 1) 0).toNat_lt
  unfold grpN; omega
def hi6 (bs : List UInt8) : Nat := num8 (bs.getD 0 0) (bs.getD 1 0) (bs.getD 2 0) (bs.getD 3 0) (bs.getD 4 0) (bs.getD 5 0) (bs.getD 6 0) (bs.getD 7 0)
def lo6 (bs : List UInt8) : Nat := num8 (bs.getD 8 0) (bs.getD 9 0) (bs.getD 10 0) (bs.getD 11 0) (bs.getD 12 0) (bs.getD 13 0) (bs.getD 14 0) (bs.getD 15 0)
theorem v6u_any (bs : List UInt8) (i : Nat) (hi : i < 8) (p : Option Addr) (w : World) :
    Calls Tryd.prog 81 #[addrV (hi6 bs) (lo6 bs) p, .int .u8 (i : Int)] w fun e w' => e = .returned (.int .u16 (grpN bs i : Int)) ∧ Below w.heap.size w w' := by
  have l0 := (bs.getD 0 0).toNat_lt
  have l1 := (bs.getD 1 0).toNat_lt
  have l2 := (bs.getD 2 0).toNat_lt
  have l3 := (bs.getD 3 0).toNat_lt
  have l4 := (bs.getD 4 0).toNat_lt
  have l5 := (bs.getD 5 0).toNat_lt
  have l6 := (bs.getD 6 0).toNat_lt
  have l7 := (bs.getD 7 0).toNat_lt
  have l8 := (bs.getD 8 0).toNat_lt
  have l9 := (bs.getD 9 0).toNat_lt
  have l10 := (bs.getD 10 0).toNat_lt
  have l11 := (bs.getD 11 0).toNat_lt
  have l12 := (bs.getD 12 0).toNat_lt
  have l13 := (bs.getD 13 0).toNat_lt
  have l14 := (bs.getD 14 0).toNat_lt
  have l15 := (bs.getD 15 0).toNat_lt
  match i, hi with
  | 0, _ => exact v6u_0 (hi6 bs) (lo6 bs) (grpN bs 0) p w (num8_lt ..) (num8_lt ..) (by unfold hi6 grpN num8; simp only [Nat.reduceMul, Nat.reduceAdd]; omega)
  | 1, _ => exact v6u_1 (hi6 bs) (lo6 bs) (grpN bs 1) p w (num8_lt ..) (num8_lt ..) (by unfold hi6 grpN num8; simp only [Nat.reduceMul, Nat.reduceAdd]; omega)
  | 2, _ => exact v6u_2 (hi6 bs) (lo6 bs) (grpN bs 2) p w (num8_lt ..) (num8_lt ..) (by unfold hi6 grpN num8; simp only [Nat.reduceMul, Nat.reduceAdd]; omega)
  | 3, _ => exact v6u_3 (hi6 bs) (lo6 bs) (grpN bs 3) p w (num8_lt ..) (num8_lt ..) (by unfold hi6 grpN num8; simp only [Nat.reduceMul, Nat.reduceAdd]; omega)
  | 4, _ => exact v6u_4 (hi6 bs) (lo6 bs) (grpN bs 4) p w (num8_lt ..) (num8_lt ..) (by unfold lo6 grpN num8; simp only [Nat.reduceMul, Nat.reduceAdd]; omega)
  | 5, _ => exact v6u_5 (hi6 bs) (lo6 bs) (grpN bs 5) p w (num8_lt ..) (num8_lt ..) (by unfold lo6 grpN num8; simp only [Nat.reduceMul, Nat.reduceAdd]; omega)
  | 6, _ => exact v6u_6 (hi6 bs) (lo6 bs) (grpN bs 6) p w (num8_lt ..) (num8_lt ..) (by unfold lo6 grpN num8; simp only [Nat.reduceMul, Nat.reduceAdd]; omega)
  | 7, _ => exact v6u_7 (hi6 bs) (lo6 bs) (grpN bs 7) p w (num8_lt ..) (num8_lt ..) (by unfold lo6 grpN num8; simp only [Nat.reduceMul, Nat.reduceAdd]; omega)
end Go.Proofs.YtmfcgglgolajnaaDoor
