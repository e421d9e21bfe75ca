/-
  The contract of netip.parseIPv4.
-/
import Derived.Test.YtmfcgglgolajnaaDoorAs16
import Derived.Test.YtmfcgglgolajnaaDoorZone
namespace Go.Proofs.YtmfcgglgolajnaaDoor
open Go.RowKit
set_option linter.unusedVariables false

/-- What the three handles are. -/
structure ZIs (w : World) (g4 o4 g6 o6 : Nat) : Prop where
  z0 : w.cell? ⟨2, 0, none⟩ = some (.pointer none)
  z4 : w.cell? ⟨3, 0, none⟩ = some (.pointer (some ⟨g4, o4, none⟩))
  z6 : w.cell? ⟨4, 0, none⟩ = some (.pointer (some ⟨g6, o6, none⟩))
  b4 : w.cell? ⟨g4, o4, none⟩ = some (.bool false)
  s4 : w.cell? ⟨g4, o4 + 1, none⟩ = some (.string ⟨#[]⟩)
  b6 : w.cell? ⟨g6, o6, none⟩ = some (.bool true)
  s6 : w.cell? ⟨g6, o6 + 1, none⟩ = some (.string ⟨#[]⟩)
theorem cell_below {w w' : World} {a : Addr} {v : Value} (h : w.cell? a = some v) (hb : Below w.heap.size w w') : w'.cell? a = some v :=
  (World.cell?_of_block (hb.block a.block (World.block_lt_of_cell? _ _ h))).trans h
theorem ZIs.below {w w' : World} {g4 o4 g6 o6 : Nat} (h : ZIs w g4 o4 g6 o6) (hb : Below w.heap.size w w') : ZIs w' g4 o4 g6 o6 :=
  ⟨cell_below h.z0 hb, cell_below h.z4 hb, cell_below h.z6 hb, cell_below h.b4 hb, cell_below h.s4 hb, cell_below h.b6 hb, cell_below h.s6 hb⟩
theorem FW.below {w wr : World} {g : Nat} {t : TypeId} {xs : List Value} {o : Nat} {done : List UInt8} (h : FW w g t xs o done wr) {B : Nat} (hB : B ≤ g) (hw : B ≤ w.heap.size) : Below B w wr :=
  ⟨h.2.2.1, h.2.2.2.1, h.2.2.2.2.1, h.2.1.1, fun k hk => h.2.1.2 k (by omega) (by unfold just; omega)⟩

/-- An address, or an error. -/
def RetAE (w : World) (r : Option Value) (e : Ending) (w' : World) : Prop :=
  ((∃ v, r = some v ∧ e = .returned (.tuple #[v, .nilIface])) ∨ (r = none ∧ ∃ T v, e = .returned (.tuple #[addrV 0 0 none, .iface T v]))) ∧ Below w.heap.size w w'
def addr4 (g4 o4 : Nat) : List UInt8 → Value
  | [a, b, c, d] => addrV 0 (lo4 a b c d) (some ⟨g4, o4, none⟩)
  | _ => .nilIface

set_option maxRecDepth 100000 in
set_option maxHeartbeats 1600000 in
theorem parse4_any (s : List UInt8) (w : World) (g4 o4 g6 o6 : Nat) (hz : ZIs w g4 o4 g6 o6) (hs : s.length ≤ 140737488351232) :
    Calls Tryd.prog 68 #[.string ⟨s.toArray⟩] w (RetAE w ((v4go s 0 0 []).map (addr4 g4 o4))) := by
  have Hv := hide (fun (W : World) (g c : Nat) (t : TypeId) (xs : List Value) (hB : Blk W g t xs) (ho : 0 + 4 ≤ xs.length) (hc : 4 ≤ c) => v4fields_any s 0 s.length g 0 c t xs W hB ho hc (Nat.zero_le _) (Nat.le_refl _) hs s (by simp))
  have Hz := hide hz
  have hlt : 3 < w.heap.size := World.block_lt_of_cell? _ _ hz.z4
  clear hz
  go_enter Tryd.func68, Tryd.ntmps68
  go_wp2_with fail
  generalize hW : (w.alloc (.cells #[.int .u64 0, .int .u64 0, .pointer none] 89)).alloc (.cells #[.int .u8 0, .int .u8 0, .int .u8 0, .int .u8 0] 100) = W1 at *
  have Hbw : Hid (Below w.heap.size w W1) := hide (by rw [← hW]; exact ((Below.refl _ _).alloc (Nat.le_refl _) _).alloc (by simp) _)
  have hsz : W1.heap.size = w.heap.size + 2 := by rw [← hW]; simp
  have hbk : Blk W1 (w.heap.size + 1) 100 [.int .u8 0, .int .u8 0, .int .u8 0, .int .u8 0] := by
    rw [← hW]
    have := Blk.new (w.alloc (.cells #[.int .u64 0, .int .u64 0, .pointer none] 89)) 100 [.int .u8 0, .int .u8 0, .int .u8 0, .int .u8 0]
    rw [show (w.alloc (.cells #[.int .u64 0, .int .u64 0, .pointer none] 89)).heap.size = w.heap.size + 1 by simp] at this
    exact this
  have hbr : Blk W1 w.heap.size 89 [.int .u64 0, .int .u64 0, .pointer none] := by
    rw [← hW]
    exact (Blk.new w 89 [.int .u64 0, .int .u64 0, .pointer none]).alloc _
  have Hc := hide (Hv.out W1 (w.heap.size + 1) 4 100 _ hbk (by simp) (Nat.le_refl _))
  rw [show ((0 : Nat) : Int) = (0 : Int) from rfl] at Hc
  have Hbr := hide hbr
  clear hW hbk hbr Hv
  with_reducible refine Hc.out.mono ?_
  rintro e W2 h2
  rcases h2 with ⟨fs, hfs, hfl, rfl, hf⟩ | ⟨hno, ⟨T, v, rfl⟩, done, hdl, hf⟩
  · have hb2 : Blk W2 w.heap.size 89 [.int .u64 0, .int .u64 0, .pointer none] := Hbr.out.keep hf.2.1 (by unfold just; omega)
    have hbb : Below w.heap.size w W2 := Hbw.out.trans (hf.below (by omega) (by omega))
    have Hbb := hide hbb
    obtain ⟨a, b, c, d, rfl⟩ : ∃ a b c d, fs = [a, b, c, d] := by
      match fs, hfl with
      | [a, b, c, d], _ => exact ⟨a, b, c, d, rfl⟩
    have hb4 : Blk W2 (w.heap.size + 1) 100 [.int .u8 (a.toNat : Int), .int .u8 (b.toNat : Int), .int .u8 (c.toNat : Int), .int .u8 (d.toNat : Int)] := hf.1
    have d0 : W2.cell? ⟨w.heap.size + 1, 0, none⟩ = some (.int .u8 (a.toNat : Int)) := hb4.cell 0
    have d1 : W2.cell? ⟨w.heap.size + 1, 1, none⟩ = some (.int .u8 (b.toNat : Int)) := hb4.cell 1
    have d2 : W2.cell? ⟨w.heap.size + 1, 2, none⟩ = some (.int .u8 (c.toNat : Int)) := hb4.cell 2
    have d3 : W2.cell? ⟨w.heap.size + 1, 3, none⟩ = some (.int .u8 (d.toNat : Int)) := hb4.cell 3
    have Ha := hide (addrFrom4_any a b c d W2 (some ⟨g4, o4, none⟩) (Hz.out.below hbb).z4)
    have Hb2 := hide hb2
    have Hfs := hide hfs
    clear hfs hfl hf hb2 hbb hb4 Hc
    go_wp2_with fail
    with_reducible refine Ha.out.mono ?_
    rintro e W3 ⟨rfl, hb3⟩
    have hb3r := Hb2.out.below hb3
    have e0 : W3.cell? ⟨w.heap.size, 0, none⟩ = some (.int .u64 0) := hb3r.cell 0
    have e1 : W3.cell? ⟨w.heap.size, 1, none⟩ = some (.int .u64 0) := hb3r.cell 1
    have e2 : W3.cell? ⟨w.heap.size, 2, none⟩ = some (.pointer none) := hb3r.cell 2
    have fz : ∀ i, W3.frozen? ⟨w.heap.size, i, none⟩ = false := fun i => hb3r.frozen i
    have Hb3 := hide (Hbb.out.trans (hb3.mono Hbb.out.size))
    clear hb3 hb3r d0 d1 d2 d3 Ha
    unfold addrV
    go_wp2_with fail
    refine bodyPost_ret (v := .tuple #[addrV 0 (lo4 a b c d) (some ⟨g4, o4, none⟩), .nilIface]) (by simp [results, Tryd.results68, addrV, go_sem, *]) rfl ?_
    refine ⟨Or.inl ⟨_, by rw [Hfs.out]; rfl, rfl⟩, ?_⟩
    iterate 3 refine Below.setCell ?_ (by simp) _
    exact Hb3.out
  · have hb2 : Blk W2 w.heap.size 89 [.int .u64 0, .int .u64 0, .pointer none] := Hbr.out.keep hf.2.1 (by unfold just; omega)
    have hbb : Below w.heap.size w W2 := Hbw.out.trans (hf.below (by omega) (by omega))
    have Hbb := hide hbb
    have e0 : W2.cell? ⟨w.heap.size, 0, none⟩ = some (.int .u64 0) := hb2.cell 0
    have e1 : W2.cell? ⟨w.heap.size, 1, none⟩ = some (.int .u64 0) := hb2.cell 1
    have e2 : W2.cell? ⟨w.heap.size, 2, none⟩ = some (.pointer none) := hb2.cell 2
    have fz : ∀ i, W2.frozen? ⟨w.heap.size, i, none⟩ = false := fun i => hb2.frozen i
    have Hno := hide hno
    clear hno hf hb2 hbb Hc
    go_wp2_with fail
    refine bodyPost_ret (v := .tuple #[addrV 0 0 none, .iface T v]) (by simp [results, Tryd.results68, addrV, go_sem, *]) rfl ?_
    refine ⟨Or.inr ⟨by rw [Hno.out]; rfl, T, v, rfl⟩, ?_⟩
    iterate 3 refine Below.setCell ?_ (by simp) _
    exact Hbb.out
end Go.Proofs.YtmfcgglgolajnaaDoor
