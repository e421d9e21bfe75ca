/-
  The contract of Addr.As16.
-/
import Derived.Test.YtmfcgglgolajnaaDoorA4
import Derived.StillTailTactics
namespace Go.Proofs.YtmfcgglgolajnaaDoor
open Go.RowKit
set_option linter.unusedVariables false

theorem be8_parts {v : Nat} (hv : v < 18446744073709551616) : ∃ x0 x1 x2 x3 x4 x5 x6 x7 : UInt8, be8 v = [x0, x1, x2, x3, x4, x5, x6, x7] ∧ (v : Int) / 72057594037927936 = (x0.toNat : Int) ∧ (v : Int) / 281474976710656 % 256 = (x1.toNat : Int) ∧ (v : Int) / 1099511627776 % 256 = (x2.toNat : Int) ∧ (v : Int) / 4294967296 % 256 = (x3.toNat : Int) ∧ (v : Int) / 16777216 % 256 = (x4.toNat : Int) ∧ (v : Int) / 65536 % 256 = (x5.toNat : Int) ∧ (v : Int) / 256 % 256 = (x6.toNat : Int) ∧ (v : Int) % 256 = (x7.toNat : Int) := by
  refine ⟨_, _, _, _, _, _, _, _, rfl, ?_, ?_, ?_, ?_, ?_, ?_, ?_, ?_⟩
  all_goals (rw [UInt8.toNat_ofNat']; omega)

def by16 (bs : List UInt8) : Value := .agg (bs.map fun b => Value.int .u8 (b.toNat : Int)).toArray

set_option maxRecDepth 100000 in
set_option maxHeartbeats 3200000 in
theorem as16_any (hi lo : Nat) (p : Option Addr) (w : World) (hh : hi < 18446744073709551616) (hl : lo < 18446744073709551616) :
    Calls Tryd.prog 60 #[addrV hi lo p] w fun e w' => e = .returned (by16 (be8 hi ++ be8 lo)) ∧ Below w.heap.size w w' := by
  obtain ⟨x0, x1, x2, x3, x4, x5, x6, x7, ex, h0, h1, h2, h3, h4, h5, h6, h7⟩ := be8_parts hh
  obtain ⟨y0, y1, y2, y3, y4, y5, y6, y7, ey, k0, k1, k2, k3, k4, k5, k6, k7⟩ := be8_parts hl
  rw [ex, ey]
  have HB1 := hide (fun (W : World) (g : Nat) (t : TypeId) (xs : List Value) (hB : Blk W g t xs) (ho : 0 + 8 ≤ xs.length) => bePut_any hi g 0 16 x0 x1 x2 x3 x4 x5 x6 x7 t xs W hh hB ho (by omega) h0 h1 h2 h3 h4 h5 h6 h7)
  have HB2 := hide (fun (W : World) (g : Nat) (t : TypeId) (xs : List Value) (hB : Blk W g t xs) (ho : 8 + 8 ≤ xs.length) => bePut_any lo g 8 8 y0 y1 y2 y3 y4 y5 y6 y7 t xs W hl hB ho (by omega) k0 k1 k2 k3 k4 k5 k6 k7)
  clear h0 h1 h2 h3 h4 h5 h6 h7 k0 k1 k2 k3 k4 k5 k6 k7 ex ey
  unfold addrV
  go_enter Tryd.func60, Tryd.ntmps60
  go_wp2_with fail
  generalize hW : (w.alloc (.cells #[.int .u64 (hi : Int), .int .u64 (lo : Int), .pointer p] 89)).alloc (.cells #[.int .u8 0, .int .u8 0, .int .u8 0, .int .u8 0, .int .u8 0, .int .u8 0, .int .u8 0, .int .u8 0, .int .u8 0, .int .u8 0, .int .u8 0, .int .u8 0, .int .u8 0, .int .u8 0, .int .u8 0, .int .u8 0] 71) = W1 at *
  have Hbw : Hid (Below w.heap.size w W1) := hide (by rw [← hW]; exact ((Below.refl _ _).alloc (Nat.le_refl _) _).alloc (by simp) _)
  have hbk : Blk W1 (w.heap.size + 1) 71 (List.replicate 16 (.int .u8 0)) := by
    rw [← hW]
    have := Blk.new (w.alloc (.cells #[.int .u64 (hi : Int), .int .u64 (lo : Int), .pointer p] 89)) 71 (List.replicate 16 (.int .u8 0))
    rw [show (w.alloc (.cells #[.int .u64 (hi : Int), .int .u64 (lo : Int), .pointer p] 89)).heap.size = w.heap.size + 1 by simp] at this
    exact this
  have hbx : Blk W1 w.heap.size 89 [.int .u64 (hi : Int), .int .u64 (lo : Int), .pointer p] := by
    rw [← hW]
    exact (Blk.new w 89 [.int .u64 (hi : Int), .int .u64 (lo : Int), .pointer p]).alloc _
  have c1 : W1.cell? ⟨w.heap.size, 0, none⟩ = some (.int .u64 (hi : Int)) := hbx.cell 0
  have Hc1 := hide (HB1.out W1.drew (w.heap.size + 1) 71 _ hbk.drew (by simp))
  have Hbx := hide hbx
  have Hbk := hide hbk
  clear hW hbk hbx
  go_still_tail 4, (by kernel_rfl)
  change wpList _ _ _ _ _ W1.drew
  go_wp2_with fail
  with_reducible refine Hc1.out.mono ?_
  rintro e W2 ⟨rfl, hf2⟩
  have hk2 : Kept (just (w.heap.size + 1)) W1 W2 := hf2.2.1
  have hbx2 : Blk W2 w.heap.size 89 [.int .u64 (hi : Int), .int .u64 (lo : Int), .pointer p] := Hbx.out.keep hk2 (by unfold just; omega)
  have c2 : W2.cell? ⟨w.heap.size, 1, none⟩ = some (.int .u64 (lo : Int)) := hbx2.cell 1
  have Hc2 := hide (HB2.out W2.drew (w.heap.size + 1) 71 _ hf2.1.drew (by rw [put4_length (by simp)]; simp))
  have Hf2 := hide hf2
  clear hf2 hk2 hbx2 c1 Hc1
  go_wp2_with fail
  go_still_tail 4, (by kernel_rfl)
  change wpList _ _ _ _ _ W2.drew
  go_wp2_with fail
  with_reducible refine Hc2.out.mono ?_
  rintro e W3 ⟨rfl, hf3⟩
  have hb3 : Blk W3 (w.heap.size + 1) 71 ([x0, x1, x2, x3, x4, x5, x6, x7, y0, y1, y2, y3, y4, y5, y6, y7].map fun b => Value.int .u8 (b.toNat : Int)) := hf3.1
  have d0 : W3.cell? ⟨w.heap.size + 1, 0, none⟩ = some (.int .u8 (x0.toNat : Int)) := hb3.cell 0
  have d1 : W3.cell? ⟨w.heap.size + 1, 1, none⟩ = some (.int .u8 (x1.toNat : Int)) := hb3.cell 1
  have d2 : W3.cell? ⟨w.heap.size + 1, 2, none⟩ = some (.int .u8 (x2.toNat : Int)) := hb3.cell 2
  have d3 : W3.cell? ⟨w.heap.size + 1, 3, none⟩ = some (.int .u8 (x3.toNat : Int)) := hb3.cell 3
  have d4 : W3.cell? ⟨w.heap.size + 1, 4, none⟩ = some (.int .u8 (x4.toNat : Int)) := hb3.cell 4
  have d5 : W3.cell? ⟨w.heap.size + 1, 5, none⟩ = some (.int .u8 (x5.toNat : Int)) := hb3.cell 5
  have d6 : W3.cell? ⟨w.heap.size + 1, 6, none⟩ = some (.int .u8 (x6.toNat : Int)) := hb3.cell 6
  have d7 : W3.cell? ⟨w.heap.size + 1, 7, none⟩ = some (.int .u8 (x7.toNat : Int)) := hb3.cell 7
  have d8 : W3.cell? ⟨w.heap.size + 1, 8, none⟩ = some (.int .u8 (y0.toNat : Int)) := hb3.cell 8
  have d9 : W3.cell? ⟨w.heap.size + 1, 9, none⟩ = some (.int .u8 (y1.toNat : Int)) := hb3.cell 9
  have d10 : W3.cell? ⟨w.heap.size + 1, 10, none⟩ = some (.int .u8 (y2.toNat : Int)) := hb3.cell 10
  have d11 : W3.cell? ⟨w.heap.size + 1, 11, none⟩ = some (.int .u8 (y3.toNat : Int)) := hb3.cell 11
  have d12 : W3.cell? ⟨w.heap.size + 1, 12, none⟩ = some (.int .u8 (y4.toNat : Int)) := hb3.cell 12
  have d13 : W3.cell? ⟨w.heap.size + 1, 13, none⟩ = some (.int .u8 (y5.toNat : Int)) := hb3.cell 13
  have d14 : W3.cell? ⟨w.heap.size + 1, 14, none⟩ = some (.int .u8 (y6.toNat : Int)) := hb3.cell 14
  have d15 : W3.cell? ⟨w.heap.size + 1, 15, none⟩ = some (.int .u8 (y7.toNat : Int)) := hb3.cell 15
  have fz : ∀ i, W3.frozen? ⟨w.heap.size + 1, i, none⟩ = false := fun i => hb3.frozen i
  have Hb3 : Hid (Below w.heap.size w W3) := hide (by
    have k2 : Kept (just (w.heap.size + 1)) W1 W2 := Hf2.out.2.1
    have k3 : Kept (just (w.heap.size + 1)) W2 W3 := hf3.2.1
    refine Hbw.out.trans ⟨hf3.2.2.1.trans Hf2.out.2.2.1, hf3.2.2.2.1.trans Hf2.out.2.2.2.1, hf3.2.2.2.2.1.trans Hf2.out.2.2.2.2.1, (k2.trans k3).1, fun q hq => (k2.trans k3).2 q (by have := Hbw.out.size; omega) (by unfold just; omega)⟩)
  clear hf3 hb3 Hc2 c2
  go_wp2_with fail
  refine bodyPost_ret (v := by16 [x0, x1, x2, x3, x4, x5, x6, x7, y0, y1, y2, y3, y4, y5, y6, y7]) (by simp [results, Tryd.results60, by16, go_sem, *]) rfl ⟨rfl, ?_⟩
  iterate 16 refine Below.setCell ?_ (by simp) _
  exact Hb3.out
end Go.Proofs.YtmfcgglgolajnaaDoor
