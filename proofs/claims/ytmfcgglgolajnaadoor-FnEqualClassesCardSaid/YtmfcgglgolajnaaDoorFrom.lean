/-
  The contracts of Addr.Is4In6, AddrFromSlice, Addr.AppendTo. (Written by a program.)
-/
import Derived.Test.YtmfcgglgolajnaaDoorTo6A
import Derived.Test.YtmfcgglgolajnaaDoorA16
import Derived.Test.YtmfcgglgolajnaaDoorFour
namespace Go.Proofs.YtmfcgglgolajnaaDoor
open Go.RowKit
set_option linter.unusedVariables false

set_option maxRecDepth 100000 in
set_option maxHeartbeats 800000 in
theorem is4in6_any (hi lo : Nat) (w : World) (g4 o4 g6 o6 : Nat) (hz : ZX w g4 o4 g6 o6) (hno : ¬ (hi = 0 ∧ lo / 4294967296 = 65535)) (hl : lo < 18446744073709551616) :
    Calls Tryd.prog 65 #[addrV hi lo (some ⟨g6, o6, none⟩)] w fun e w' => e = .returned (.bool false) ∧ Below w.heap.size w w' := by
  have H6 := hide (fun W hW => is6_any hi lo W g4 o4 g6 o6 (hz.below hW))
  have h1 : (lo : Int) < 18446744073709551616 := by omega
  have h2 : (0 : Int) ≤ (lo : Int) := by omega
  clear hz
  unfold addrV at *
  go_enter Tryd.func65, Tryd.ntmps65
  go_wp2_with fail
  generalize hW : w.alloc (.cells #[.int .u64 (hi : Int), .int .u64 (lo : Int), .pointer (some ⟨g6, o6, none⟩)] 89) = W1 at *
  have Hbw : Hid (Below w.heap.size w W1) := hide (by rw [← hW]; exact (Below.refl _ _).alloc (Nat.le_refl _) _)
  have hbk : Blk W1 w.heap.size 89 [.int .u64 (hi : Int), .int .u64 (lo : Int), .pointer (some ⟨g6, o6, none⟩)] := by rw [← hW]; exact Blk.new w _ _
  have Hbk := hide hbk
  have Hc := hide (H6.out W1 Hbw.out)
  clear hW hbk
  with_reducible refine Hc.out.mono ?_
  rintro e W2 ⟨rfl, hb2⟩
  have hbk2 := Hbk.out.below hb2
  have c0 : W2.cell? ⟨w.heap.size, 0, none⟩ = some (.int .u64 (hi : Int)) := hbk2.cell 0
  have c1 : W2.cell? ⟨w.heap.size, 1, none⟩ = some (.int .u64 (lo : Int)) := hbk2.cell 1
  have Hb2 := hide (Hbw.out.trans (hb2.mono Hbw.out.size))
  clear hb2 hbk2 Hc
  by_cases h0 : hi = 0
  · have k0 : ((hi : Int) == 0) = true := by rw [h0]; rfl
    have k1 : ((lo : Int) / 4294967296 == 65535) = false := by rw [beq_eq_false_iff_ne]; intro e; exact hno ⟨h0, by omega⟩
    clear h0 hno
    go_wp2_with fail
    go_ret
    exact ⟨rfl, Hb2.out⟩
  · have k0 : ((hi : Int) == 0) = false := by rw [beq_eq_false_iff_ne]; omega
    clear h0 hno
    go_wp2_with fail
    go_ret
    exact ⟨rfl, Hb2.out⟩

theorem run_arr4 (g o c : Nat) (w : World) : (Instr.arrayAt 100 (.slice (some ⟨g, o, none⟩) 4 c)).run Tryd.prog w = .ok (.pointer (some ⟨g, o, none⟩)) w := by kernel_rfl
theorem run_arr16 (g o c : Nat) (w : World) : (Instr.arrayAt 71 (.slice (some ⟨g, o, none⟩) 16 c)).run Tryd.prog w = .ok (.pointer (some ⟨g, o, none⟩)) w := by kernel_rfl
theorem map6 (x0 x1 x2 x3 x4 x5 x6 x7 x8 x9 x10 x11 x12 x13 x14 x15 : UInt8) (h : mapd [x0, x1, x2, x3, x4, x5, x6, x7, x8, x9, x10, x11, x12, x13, x14, x15] = false) : ¬ (hi6 [x0, x1, x2, x3, x4, x5, x6, x7, x8, x9, x10, x11, x12, x13, x14, x15] = 0 ∧ lo6 [x0, x1, x2, x3, x4, x5, x6, x7, x8, x9, x10, x11, x12, x13, x14, x15] / 4294967296 = 65535) := by
  rintro ⟨h1, h2⟩
  have l0 := x0.toNat_lt
  have l1 := x1.toNat_lt
  have l2 := x2.toNat_lt
  have l3 := x3.toNat_lt
  have l4 := x4.toNat_lt
  have l5 := x5.toNat_lt
  have l6 := x6.toNat_lt
  have l7 := x7.toNat_lt
  have l8 := x8.toNat_lt
  have l9 := x9.toNat_lt
  have l10 := x10.toNat_lt
  have l11 := x11.toNat_lt
  have l12 := x12.toNat_lt
  have l13 := x13.toNat_lt
  have l14 := x14.toNat_lt
  have l15 := x15.toNat_lt
  have e1 : num8 x0 x1 x2 x3 x4 x5 x6 x7 = 0 := h1
  have e2 : num8 x8 x9 x10 x11 x12 x13 x14 x15 / 4294967296 = 65535 := h2
  unfold num8 at e1 e2
  have z : ∀ (x : UInt8), x.toNat = 0 → x = 0 := fun x h => UInt8.toNat_inj.1 (by simpa using h)
  have f : ∀ (x : UInt8), x.toNat = 255 → x = 255 := fun x h => UInt8.toNat_inj.1 (by simpa using h)
  have n0 : x0 = 0 := z x0 (by omega)
  have n1 : x1 = 0 := z x1 (by omega)
  have n2 : x2 = 0 := z x2 (by omega)
  have n3 : x3 = 0 := z x3 (by omega)
  have n4 : x4 = 0 := z x4 (by omega)
  have n5 : x5 = 0 := z x5 (by omega)
  have n6 : x6 = 0 := z x6 (by omega)
  have n7 : x7 = 0 := z x7 (by omega)
  have n8 : x8 = 0 := z x8 (by omega)
  have n9 : x9 = 0 := z x9 (by omega)
  have n10 : x10 = 255 := f x10 (by omega)
  have n11 : x11 = 255 := f x11 (by omega)
  clear l0 l1 l2 l3 l4 l5 l6 l7 l8 l9 l10 l11 l12 l13 l14 l15 e1 e2 h1 h2 z f
  subst n0 n1 n2 n3 n4 n5 n6 n7 n8 n9 n10 n11
  revert h
  unfold mapd
  simp [zerosB]

set_option maxRecDepth 100000 in
set_option maxHeartbeats 1600000 in
theorem fromSlice4_any (g o c : Nat) (x0 x1 x2 x3 : UInt8) (w : World) (g4 o4 g6 o6 : Nat) (hz : ZX w g4 o4 g6 o6) (c0 : w.cell? ⟨g, o, none⟩ = some (.int .u8 (x0.toNat : Int))) (c1 : w.cell? ⟨g, o + 1, none⟩ = some (.int .u8 (x1.toNat : Int))) (c2 : w.cell? ⟨g, o + 2, none⟩ = some (.int .u8 (x2.toNat : Int))) (c3 : w.cell? ⟨g, o + 3, none⟩ = some (.int .u8 (x3.toNat : Int))) :
    Calls Tryd.prog 56 #[.slice (some ⟨g, o, none⟩) 4 c] w fun e w' => e = .returned (.tuple #[addrV 0 (lo4 x0 x1 x2 x3) (some ⟨g4, o4, none⟩), .bool true]) ∧ Below w.heap.size w w' := by
  have Hf := hide (fun W hW => addrFrom4_any x0 x1 x2 x3 W (some ⟨g4, o4, none⟩) (hz.below hW).z.z4)
  have Hcl : Hid (∀ W, Below w.heap.size w W → W.cell? ⟨g, o, none⟩ = some (.int .u8 (x0.toNat : Int)) ∧ W.cell? ⟨g, o + 1, none⟩ = some (.int .u8 (x1.toNat : Int)) ∧ W.cell? ⟨g, o + 2, none⟩ = some (.int .u8 (x2.toNat : Int)) ∧ W.cell? ⟨g, o + 3, none⟩ = some (.int .u8 (x3.toNat : Int))) := hide (fun W hW => ⟨cell_below c0 hW, cell_below c1 hW, cell_below c2 hW, cell_below c3 hW⟩)
  have ra := run_arr4 g o c
  clear hz c0 c1 c2 c3
  go_enter Tryd.func56, Tryd.ntmps56
  go_upto_region 1 with fail
  generalize hW : w.alloc (.cells #[.int .u64 0, .int .u64 0, .pointer none] 89) = W1 at *
  have Hbw : Hid (Below w.heap.size w W1) := hide (by rw [← hW]; exact (Below.refl _ _).alloc (Nat.le_refl _) _)
  have hbk : Blk W1 w.heap.size 89 [.int .u64 0, .int .u64 0, .pointer none] := by rw [← hW]; exact Blk.new w _ _
  have Hbk := hide hbk
  obtain ⟨c0, c1, c2, c3⟩ := Hcl.out W1 Hbw.out
  have Hc := hide (Hf.out W1 Hbw.out)
  clear hW hbk
  go_wp2_with fail
  with_reducible refine Hc.out.mono ?_
  rintro e W2 ⟨rfl, hb2⟩
  have hk := Hbk.out.below hb2
  have e0 : W2.cell? ⟨w.heap.size, 0, none⟩ = some (.int .u64 0) := hk.cell 0
  have e1 : W2.cell? ⟨w.heap.size, 1, none⟩ = some (.int .u64 0) := hk.cell 1
  have e2 : W2.cell? ⟨w.heap.size, 2, none⟩ = some (.pointer none) := hk.cell 2
  have fz : ∀ i, W2.frozen? ⟨w.heap.size, i, none⟩ = false := fun i => hk.frozen i
  have Hb2 := hide (Hbw.out.trans (hb2.mono Hbw.out.size))
  clear hb2 hk Hc c0 c1 c2 c3
  unfold addrV
  go_wp2_with fail
  refine bodyPost_ret (v := .tuple #[addrV 0 (lo4 x0 x1 x2 x3) (some ⟨g4, o4, none⟩), .bool true]) (by simp [results, Tryd.results56, addrV, go_sem, *]) rfl ?_
  refine ⟨rfl, ?_⟩
  iterate 3 refine Below.setCell ?_ (by simp) _
  exact Hb2.out

set_option maxRecDepth 100000 in
set_option maxHeartbeats 1600000 in
theorem fromSlice16_any (g o c : Nat) (x0 x1 x2 x3 x4 x5 x6 x7 x8 x9 x10 x11 x12 x13 x14 x15 : UInt8) (w : World) (g4 o4 g6 o6 : Nat) (hz : ZX w g4 o4 g6 o6) (c0 : w.cell? ⟨g, o, none⟩ = some (.int .u8 (x0.toNat : Int))) (c1 : w.cell? ⟨g, o + 1, none⟩ = some (.int .u8 (x1.toNat : Int))) (c2 : w.cell? ⟨g, o + 2, none⟩ = some (.int .u8 (x2.toNat : Int))) (c3 : w.cell? ⟨g, o + 3, none⟩ = some (.int .u8 (x3.toNat : Int))) (c4 : w.cell? ⟨g, o + 4, none⟩ = some (.int .u8 (x4.toNat : Int))) (c5 : w.cell? ⟨g, o + 5, none⟩ = some (.int .u8 (x5.toNat : Int))) (c6 : w.cell? ⟨g, o + 6, none⟩ = some (.int .u8 (x6.toNat : Int))) (c7 : w.cell? ⟨g, o + 7, none⟩ = some (.int .u8 (x7.toNat : Int))) (c8 : w.cell? ⟨g, o + 8, none⟩ = some (.int .u8 (x8.toNat : Int))) (c9 : w.cell? ⟨g, o + 9, none⟩ = some (.int .u8 (x9.toNat : Int))) (c10 : w.cell? ⟨g, o + 10, none⟩ = some (.int .u8 (x10.toNat : Int))) (c11 : w.cell? ⟨g, o + 11, none⟩ = some (.int .u8 (x11.toNat : Int))) (c12 : w.cell? ⟨g, o + 12, none⟩ = some (.int .u8 (x12.toNat : Int))) (c13 : w.cell? ⟨g, o + 13, none⟩ = some (.int .u8 (x13.toNat : Int))) (c14 : w.cell? ⟨g, o + 14, none⟩ = some (.int .u8 (x14.toNat : Int))) (c15 : w.cell? ⟨g, o + 15, none⟩ = some (.int .u8 (x15.toNat : Int))) :
    Calls Tryd.prog 56 #[.slice (some ⟨g, o, none⟩) 16 c] w fun e w' => e = .returned (.tuple #[addrV (num8 x0 x1 x2 x3 x4 x5 x6 x7) (num8 x8 x9 x10 x11 x12 x13 x14 x15) (some ⟨g6, o6, none⟩), .bool true]) ∧ Below w.heap.size w w' := by
  have Hf := hide (fun W hW => addrFrom16_any x0 x1 x2 x3 x4 x5 x6 x7 x8 x9 x10 x11 x12 x13 x14 x15 W g4 o4 g6 o6 (hz.below hW))
  have Hcl : Hid (∀ W, Below w.heap.size w W → W.cell? ⟨g, o, none⟩ = some (.int .u8 (x0.toNat : Int)) ∧ W.cell? ⟨g, o + 1, none⟩ = some (.int .u8 (x1.toNat : Int)) ∧ W.cell? ⟨g, o + 2, none⟩ = some (.int .u8 (x2.toNat : Int)) ∧ W.cell? ⟨g, o + 3, none⟩ = some (.int .u8 (x3.toNat : Int)) ∧ W.cell? ⟨g, o + 4, none⟩ = some (.int .u8 (x4.toNat : Int)) ∧ W.cell? ⟨g, o + 5, none⟩ = some (.int .u8 (x5.toNat : Int)) ∧ W.cell? ⟨g, o + 6, none⟩ = some (.int .u8 (x6.toNat : Int)) ∧ W.cell? ⟨g, o + 7, none⟩ = some (.int .u8 (x7.toNat : Int)) ∧ W.cell? ⟨g, o + 8, none⟩ = some (.int .u8 (x8.toNat : Int)) ∧ W.cell? ⟨g, o + 9, none⟩ = some (.int .u8 (x9.toNat : Int)) ∧ W.cell? ⟨g, o + 10, none⟩ = some (.int .u8 (x10.toNat : Int)) ∧ W.cell? ⟨g, o + 11, none⟩ = some (.int .u8 (x11.toNat : Int)) ∧ W.cell? ⟨g, o + 12, none⟩ = some (.int .u8 (x12.toNat : Int)) ∧ W.cell? ⟨g, o + 13, none⟩ = some (.int .u8 (x13.toNat : Int)) ∧ W.cell? ⟨g, o + 14, none⟩ = some (.int .u8 (x14.toNat : Int)) ∧ W.cell? ⟨g, o + 15, none⟩ = some (.int .u8 (x15.toNat : Int))) := hide (fun W hW => ⟨cell_below c0 hW, cell_below c1 hW, cell_below c2 hW, cell_below c3 hW, cell_below c4 hW, cell_below c5 hW, cell_below c6 hW, cell_below c7 hW, cell_below c8 hW, cell_below c9 hW, cell_below c10 hW, cell_below c11 hW, cell_below c12 hW, cell_below c13 hW, cell_below c14 hW, cell_below c15 hW⟩)
  have ra := run_arr16 g o c
  clear hz c0 c1 c2 c3 c4 c5 c6 c7 c8 c9 c10 c11 c12 c13 c14 c15
  go_enter Tryd.func56, Tryd.ntmps56
  go_upto_region 1 with fail
  generalize hW : w.alloc (.cells #[.int .u64 0, .int .u64 0, .pointer none] 89) = W1 at *
  have Hbw : Hid (Below w.heap.size w W1) := hide (by rw [← hW]; exact (Below.refl _ _).alloc (Nat.le_refl _) _)
  have hbk : Blk W1 w.heap.size 89 [.int .u64 0, .int .u64 0, .pointer none] := by rw [← hW]; exact Blk.new w _ _
  have Hbk := hide hbk
  obtain ⟨c0, c1, c2, c3, c4, c5, c6, c7, c8, c9, c10, c11, c12, c13, c14, c15⟩ := Hcl.out W1 Hbw.out
  have Hc := hide (Hf.out W1 Hbw.out)
  unfold by16 addrV at Hc
  simp only [List.map] at Hc
  clear hW hbk
  go_wp2_with fail
  with_reducible refine Hc.out.mono ?_
  rintro e W2 ⟨rfl, hb2⟩
  have hk := Hbk.out.below hb2
  have e0 : W2.cell? ⟨w.heap.size, 0, none⟩ = some (.int .u64 0) := hk.cell 0
  have e1 : W2.cell? ⟨w.heap.size, 1, none⟩ = some (.int .u64 0) := hk.cell 1
  have e2 : W2.cell? ⟨w.heap.size, 2, none⟩ = some (.pointer none) := hk.cell 2
  have fz : ∀ i, W2.frozen? ⟨w.heap.size, i, none⟩ = false := fun i => hk.frozen i
  have Hb2 := hide (Hbw.out.trans (hb2.mono Hbw.out.size))
  clear hb2 hk Hc c0 c1 c2 c3 c4 c5 c6 c7 c8 c9 c10 c11 c12 c13 c14 c15
  go_wp2_with fail
  refine bodyPost_ret (v := .tuple #[addrV (num8 x0 x1 x2 x3 x4 x5 x6 x7) (num8 x8 x9 x10 x11 x12 x13 x14 x15) (some ⟨g6, o6, none⟩), .bool true]) (by simp [results, Tryd.results56, addrV, go_sem, *]) rfl ?_
  refine ⟨rfl, ?_⟩
  iterate 3 refine Below.setCell ?_ (by simp) _
  exact Hb2.out
end Go.Proofs.YtmfcgglgolajnaaDoor
