/-
  The contracts of netip.AddrFrom16, Addr.Is6, Addr.WithZone of no zone, IPv6Unspecified.
-/
import Derived.Test.YtmfcgglgolajnaaDoorZX
import Derived.Test.YtmfcgglgolajnaaDoorB6
namespace Go.Proofs.YtmfcgglgolajnaaDoor
open Go.RowKit
set_option linter.unusedVariables false

set_option maxRecDepth 100000 in
set_option maxHeartbeats 800000 in
theorem is6_any (hi lo : Nat) (w : World) (g4 o4 g6 o6 : Nat) (hz : ZX w g4 o4 g6 o6) :
    Calls Tryd.prog 79 #[addrV hi lo (some ⟨g6, o6, none⟩)] w fun e w' => e = .returned (.bool true) ∧ Below w.heap.size w w' := by
  have k0 := fun ob => (hz.alloc ob).z.z0
  have k4 := fun ob => (hz.alloc ob).z.z4
  have q0 := run_eq_nil g6 o6
  have q4 := fun ob => (hz.alloc ob).eq46
  have hB : Hid (∀ o1, Below w.heap.size w (w.alloc o1)) := hide (fun o1 => (Below.refl _ _).alloc (Nat.le_refl _) _)
  clear hz
  unfold addrV
  go_enter Tryd.func79, Tryd.ntmps79
  go_wp2_with fail
  go_ret
  exact ⟨rfl, hB.out _⟩

set_option maxRecDepth 100000 in
set_option maxHeartbeats 800000 in
theorem unspec_any (w : World) (g4 o4 g6 o6 : Nat) (hz : ZX w g4 o4 g6 o6) :
    Calls Tryd.prog 85 #[] w fun e w' => e = .returned (addrV 0 0 (some ⟨g6, o6, none⟩)) ∧ Below w.heap.size w w' := by
  have k6 := fun ob => (hz.alloc ob).z.z6
  have hB : Hid (∀ o1, Below w.heap.size w (w.alloc o1)) := hide (fun o1 => (Below.refl _ _).alloc (Nat.le_refl _) _)
  clear hz
  go_enter Tryd.func85, Tryd.ntmps85
  go_wp2_with fail
  refine bodyPost_ret (v := addrV 0 0 (some ⟨g6, o6, none⟩)) (by simp [results, Tryd.results85, addrV, go_sem]) rfl ⟨rfl, hB.out _⟩

set_option maxRecDepth 100000 in
set_option maxHeartbeats 1600000 in
theorem withZone_any (hi lo : Nat) (w : World) (g4 o4 g6 o6 : Nat) (hz : ZX w g4 o4 g6 o6) :
    Calls Tryd.prog 86 #[addrV hi lo (some ⟨g6, o6, none⟩), .string ⟨#[]⟩] w fun e w' => e = .returned (addrV hi lo (some ⟨g6, o6, none⟩)) ∧ Below w.heap.size w w' := by
  have Hz := hide hz
  clear hz
  unfold addrV
  go_enter Tryd.func86, Tryd.ntmps86
  go_wp2_with fail
  generalize hW : (w.alloc (.cells #[.int .u64 (hi : Int), .int .u64 (lo : Int), .pointer (some ⟨g6, o6, none⟩)] 89)).alloc (.cells #[.int .u64 0, .int .u64 0, .pointer none] 89) = W1 at *
  have Hbw : Hid (Below w.heap.size w W1) := hide (by rw [← hW]; exact ((Below.refl _ _).alloc (Nat.le_refl _) _).alloc (by simp) _)
  have hsz : W1.heap.size = w.heap.size + 2 := by rw [← hW]; simp
  have hbk : Blk W1 (w.heap.size + 1) 89 [.int .u64 0, .int .u64 0, .pointer none] := by
    rw [← hW]
    have := Blk.new (w.alloc (.cells #[.int .u64 (hi : Int), .int .u64 (lo : Int), .pointer (some ⟨g6, o6, none⟩)] 89)) 89 [.int .u64 0, .int .u64 0, .pointer none]
    rw [show (w.alloc (.cells #[.int .u64 (hi : Int), .int .u64 (lo : Int), .pointer (some ⟨g6, o6, none⟩)] 89)).heap.size = w.heap.size + 1 by simp] at this
    exact this
  have hbr : Blk W1 w.heap.size 89 [.int .u64 (hi : Int), .int .u64 (lo : Int), .pointer (some ⟨g6, o6, none⟩)] := by
    rw [← hW]
    exact (Blk.new w 89 [.int .u64 (hi : Int), .int .u64 (lo : Int), .pointer (some ⟨g6, o6, none⟩)]).alloc _
  have H6 := hide (is6_any hi lo W1 g4 o4 g6 o6 (Hz.out.below Hbw.out))
  unfold addrV at H6
  have Hbk := hide hbk
  have Hbr := hide hbr
  clear hW hbk hbr
  with_reducible refine H6.out.mono ?_
  rintro e W2 ⟨rfl, hb2⟩
  have hbw2 := Hbw.out.trans (hb2.mono Hbw.out.size)
  have hk := Hbk.out.below hb2
  have hr := Hbr.out.below hb2
  have c0 : W2.cell? ⟨w.heap.size, 0, none⟩ = some (.int .u64 (hi : Int)) := hr.cell 0
  have c1 : W2.cell? ⟨w.heap.size, 1, none⟩ = some (.int .u64 (lo : Int)) := hr.cell 1
  have c2 : W2.cell? ⟨w.heap.size, 2, none⟩ = some (.pointer (some ⟨g6, o6, none⟩)) := hr.cell 2
  have d0 : W2.cell? ⟨w.heap.size + 1, 0, none⟩ = some (.int .u64 0) := hk.cell 0
  have d1 : W2.cell? ⟨w.heap.size + 1, 1, none⟩ = some (.int .u64 0) := hk.cell 1
  have d2 : W2.cell? ⟨w.heap.size + 1, 2, none⟩ = some (.pointer none) := hk.cell 2
  have f0 : ∀ i, W2.frozen? ⟨w.heap.size, i, none⟩ = false := fun i => hr.frozen i
  have f1 : ∀ i, W2.frozen? ⟨w.heap.size + 1, i, none⟩ = false := fun i => hk.frozen i
  have z6 := (Hz.out.below hbw2).z.z6
  have hlt : 4 < w.heap.size := World.block_lt_of_cell? _ _ Hz.out.z.z6
  have hne : ¬ (4 = w.heap.size) := by omega
  have hne1 : ¬ (4 = w.heap.size + 1) := by omega
  have Hbw2 := hide hbw2
  clear hb2 hbw2 hk hr H6
  go_wp2_with fail
  refine bodyPost_ret (v := addrV hi lo (some ⟨g6, o6, none⟩)) (by simp [results, Tryd.results86, addrV, go_sem, *]) rfl ?_
  refine ⟨rfl, ?_⟩
  iterate 4 refine Below.setCell ?_ (by simp) _
  exact Hbw2.out

set_option maxRecDepth 100000 in
set_option maxHeartbeats 3200000 in
theorem addrFrom16_any (x0 x1 x2 x3 x4 x5 x6 x7 y0 y1 y2 y3 y4 y5 y6 y7 : UInt8) (w : World) (g4 o4 g6 o6 : Nat) (hz : ZX w g4 o4 g6 o6) :
    Calls Tryd.prog 63 #[by16 [x0, x1, x2, x3, x4, x5, x6, x7, y0, y1, y2, y3, y4, y5, y6, y7]] w fun e w' => e = .returned (addrV (num8 x0 x1 x2 x3 x4 x5 x6 x7) (num8 y0 y1 y2 y3 y4 y5 y6 y7) (some ⟨g6, o6, none⟩)) ∧ Below w.heap.size w w' := by
  have Hz := hide hz
  clear hz
  unfold by16
  simp only [List.map]
  go_enter Tryd.func63, Tryd.ntmps63
  go_wp2_with fail
  generalize hW : (w.alloc (.cells #[.int .u8 (x0.toNat : Int), .int .u8 (x1.toNat : Int), .int .u8 (x2.toNat : Int), .int .u8 (x3.toNat : Int), .int .u8 (x4.toNat : Int), .int .u8 (x5.toNat : Int), .int .u8 (x6.toNat : Int), .int .u8 (x7.toNat : Int), .int .u8 (y0.toNat : Int), .int .u8 (y1.toNat : Int), .int .u8 (y2.toNat : Int), .int .u8 (y3.toNat : Int), .int .u8 (y4.toNat : Int), .int .u8 (y5.toNat : Int), .int .u8 (y6.toNat : Int), .int .u8 (y7.toNat : Int)] 71)).alloc (.cells #[.int .u64 0, .int .u64 0, .pointer none] 89) = W1 at *
  have Hbw : Hid (Below w.heap.size w W1) := hide (by rw [← hW]; exact ((Below.refl _ _).alloc (Nat.le_refl _) _).alloc (by simp) _)
  have hbk : Blk W1 (w.heap.size + 1) 89 [.int .u64 0, .int .u64 0, .pointer none] := by
    rw [← hW]
    have := Blk.new (w.alloc (.cells #[.int .u8 (x0.toNat : Int), .int .u8 (x1.toNat : Int), .int .u8 (x2.toNat : Int), .int .u8 (x3.toNat : Int), .int .u8 (x4.toNat : Int), .int .u8 (x5.toNat : Int), .int .u8 (x6.toNat : Int), .int .u8 (x7.toNat : Int), .int .u8 (y0.toNat : Int), .int .u8 (y1.toNat : Int), .int .u8 (y2.toNat : Int), .int .u8 (y3.toNat : Int), .int .u8 (y4.toNat : Int), .int .u8 (y5.toNat : Int), .int .u8 (y6.toNat : Int), .int .u8 (y7.toNat : Int)] 71)) 89 [.int .u64 0, .int .u64 0, .pointer none]
    rw [show (w.alloc (.cells #[.int .u8 (x0.toNat : Int), .int .u8 (x1.toNat : Int), .int .u8 (x2.toNat : Int), .int .u8 (x3.toNat : Int), .int .u8 (x4.toNat : Int), .int .u8 (x5.toNat : Int), .int .u8 (x6.toNat : Int), .int .u8 (x7.toNat : Int), .int .u8 (y0.toNat : Int), .int .u8 (y1.toNat : Int), .int .u8 (y2.toNat : Int), .int .u8 (y3.toNat : Int), .int .u8 (y4.toNat : Int), .int .u8 (y5.toNat : Int), .int .u8 (y6.toNat : Int), .int .u8 (y7.toNat : Int)] 71)).heap.size = w.heap.size + 1 by simp] at this
    exact this
  have hbx : Blk W1 w.heap.size 71 ([x0, x1, x2, x3, x4, x5, x6, x7, y0, y1, y2, y3, y4, y5, y6, y7].map fun b => Value.int .u8 (b.toNat : Int)) := by
    rw [← hW]
    exact (Blk.new w 71 ([x0, x1, x2, x3, x4, x5, x6, x7, y0, y1, y2, y3, y4, y5, y6, y7].map fun b => Value.int .u8 (b.toNat : Int))).alloc _
  have H1 := hide (fun (W : World) (hWh : W.heap = W1.heap) => (beU64_any w.heap.size 0 16 x0 x1 x2 x3 x4 x5 x6 x7 W (by omega)
    ((World.cell?_of_block (by rw [hWh])).trans (hbx.cell 0)) ((World.cell?_of_block (by rw [hWh])).trans (hbx.cell 1)) ((World.cell?_of_block (by rw [hWh])).trans (hbx.cell 2)) ((World.cell?_of_block (by rw [hWh])).trans (hbx.cell 3)) ((World.cell?_of_block (by rw [hWh])).trans (hbx.cell 4)) ((World.cell?_of_block (by rw [hWh])).trans (hbx.cell 5)) ((World.cell?_of_block (by rw [hWh])).trans (hbx.cell 6)) ((World.cell?_of_block (by rw [hWh])).trans (hbx.cell 7))))
  have H2 := hide (fun (W : World) (hWh : W.heap = W1.heap) => (beU64_any w.heap.size 8 8 y0 y1 y2 y3 y4 y5 y6 y7 W (by omega)
    ((World.cell?_of_block (by rw [hWh])).trans (hbx.cell 8)) ((World.cell?_of_block (by rw [hWh])).trans (hbx.cell 9)) ((World.cell?_of_block (by rw [hWh])).trans (hbx.cell 10)) ((World.cell?_of_block (by rw [hWh])).trans (hbx.cell 11)) ((World.cell?_of_block (by rw [hWh])).trans (hbx.cell 12)) ((World.cell?_of_block (by rw [hWh])).trans (hbx.cell 13)) ((World.cell?_of_block (by rw [hWh])).trans (hbx.cell 14)) ((World.cell?_of_block (by rw [hWh])).trans (hbx.cell 15))))
  have d0 : W1.cell? ⟨w.heap.size + 1, 0, none⟩ = some (.int .u64 0) := hbk.cell 0
  have d1 : W1.cell? ⟨w.heap.size + 1, 1, none⟩ = some (.int .u64 0) := hbk.cell 1
  have d2 : W1.cell? ⟨w.heap.size + 1, 2, none⟩ = some (.pointer none) := hbk.cell 2
  have f1 : ∀ i, W1.frozen? ⟨w.heap.size + 1, i, none⟩ = false := fun i => hbk.frozen i
  have z6 := (Hz.out.below Hbw.out).z.z6
  clear hW hbk hbx
  go_region_with (first
    | (go_at_call 76; (with_reducible refine (H1.out _ ?_).mono ?_); (exact rfl); rintro e w' ⟨rfl, m1, rfl⟩)
    | (go_at_call 76; (with_reducible refine (H2.out _ ?_).mono ?_); (exact rfl); rintro e w' ⟨rfl, m2, rfl⟩))
  all_goals
    (go_wp2_with fail
     refine bodyPost_ret (v := addrV (num8 x0 x1 x2 x3 x4 x5 x6 x7) (num8 y0 y1 y2 y3 y4 y5 y6 y7) (some ⟨g6, o6, none⟩)) (by simp [results, Tryd.results63, addrV, go_sem, *]) rfl ?_
     refine ⟨rfl, ?_⟩
     iterate 3 refine Below.setCell ?_ (by simp) _
     exact below_drewN Hbw.out _)
end Go.Proofs.YtmfcgglgolajnaaDoor
