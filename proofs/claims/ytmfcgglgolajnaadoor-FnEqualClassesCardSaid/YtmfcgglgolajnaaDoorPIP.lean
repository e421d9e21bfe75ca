/-
  The contracts of net.parseIP and net.ParseIP, given what ParseAddr says (no zone).
-/
import Derived.Test.YtmfcgglgolajnaaDoorPA
namespace Go.Proofs.YtmfcgglgolajnaaDoor
open Go.RowKit
set_option linter.unusedVariables false

/-- The address is one without a zone, its handle laid in w. -/
def NoZone (w : World) (r : Option Value) (rb : Option (List UInt8)) : Prop :=
  (r = none ∧ rb = none) ∨ ∃ hi lo g o b, r = some (addrV hi lo (some ⟨g, o, none⟩)) ∧ rb = some (be8 hi ++ be8 lo) ∧ hi < 18446744073709551616 ∧ lo < 18446744073709551616 ∧ w.cell? ⟨g, o, none⟩ = some (.bool b) ∧ w.cell? ⟨g, o + 1, none⟩ = some (.string ⟨#[]⟩)

def zeros16 : List UInt8 := List.replicate 16 0
theorem be8_length (v : Nat) : (be8 v).length = 8 := rfl

set_option maxRecDepth 100000 in
set_option maxHeartbeats 3200000 in
theorem parseip_any (s : List UInt8) (w : World) (g4 o4 g6 o6 : Nat) (r : Option Value) (rb : Option (List UInt8)) (hz : ZIs w g4 o4 g6 o6) (hr : NoZone w r rb)
    (hpa : ∀ W, Below w.heap.size w W → Calls Tryd.prog 58 #[.string ⟨s.toArray⟩] W (RetAE W r)) :
    Calls Tryd.prog 47 #[.string ⟨s.toArray⟩] w fun e w' => ((∃ bs, rb = some bs ∧ e = .returned (.tuple #[by16 bs, .bool true])) ∨ (rb = none ∧ e = .returned (.tuple #[by16 zeros16, .bool false]))) ∧ Below w.heap.size w w' := by
  have Hz := hide hz
  have Hr := hide hr
  have Hpa := hide hpa
  clear hz hr hpa
  go_enter Tryd.func47, Tryd.ntmps47
  go_wp2_with fail
  generalize hW : w.alloc (.cells #[.int .u8 0, .int .u8 0, .int .u8 0, .int .u8 0, .int .u8 0, .int .u8 0, .int .u8 0, .int .u8 0, .int .u8 0, .int .u8 0, .int .u8 0, .int .u8 0, .int .u8 0, .int .u8 0, .int .u8 0, .int .u8 0] 71) = W1 at *
  have Hbw : Hid (Below w.heap.size w W1) := hide (by rw [← hW]; exact (Below.refl _ _).alloc (Nat.le_refl _) _)
  have hbr : Blk W1 w.heap.size 71 (List.replicate 16 (.int .u8 0)) := by
    rw [← hW]
    exact Blk.new w 71 (List.replicate 16 (.int .u8 0))
  have Hbr := hide hbr
  have Hc := hide (Hpa.out W1 Hbw.out)
  clear hW hbr
  with_reducible refine Hc.out.mono ?_
  rintro e W2 ⟨h2, hb2⟩
  have Hb2 := hide hb2
  have Hbw2 := hide (Hbw.out.trans (hb2.mono Hbw.out.size))
  clear hb2 Hc Hpa
  rcases h2 with ⟨v, hv, rfl⟩ | ⟨hno, T, v, rfl⟩
  · rcases Hr.out with ⟨h1, _⟩ | ⟨hi, lo, g, o, b, h1, hrb, hh, hl, hc1, hc2⟩
    · rw [h1] at hv; cases hv
    · rw [h1] at hv
      injection hv with hv
      subst hv
      have k1 := cell_below hc1 Hbw2.out
      have k2 := cell_below hc2 Hbw2.out
      have k0 := (Hz.out.below Hbw2.out).z0
      have Hzn := hide (fun ob => zone_any hi lo g o b ⟨#[]⟩ (W2.alloc ob) (cell_alloc1 k0 ob) (cell_alloc1 k1 ob) (cell_alloc1 k2 ob))
      obtain ⟨x0, x1, x2, x3, x4, x5, x6, x7, ex, _⟩ := be8_parts hh
      obtain ⟨y0, y1, y2, y3, y4, y5, y6, y7, ey, _⟩ := be8_parts hl
      have Has : Hid (∀ W : World, Calls Tryd.prog 60 #[.agg #[.int .u64 (hi : Int), .int .u64 (lo : Int), .pointer (some ⟨g, o, none⟩)]] W fun e w' => e = .returned (.agg #[.int .u8 (x0.toNat : Int), .int .u8 (x1.toNat : Int), .int .u8 (x2.toNat : Int), .int .u8 (x3.toNat : Int), .int .u8 (x4.toNat : Int), .int .u8 (x5.toNat : Int), .int .u8 (x6.toNat : Int), .int .u8 (x7.toNat : Int), .int .u8 (y0.toNat : Int), .int .u8 (y1.toNat : Int), .int .u8 (y2.toNat : Int), .int .u8 (y3.toNat : Int), .int .u8 (y4.toNat : Int), .int .u8 (y5.toNat : Int), .int .u8 (y6.toNat : Int), .int .u8 (y7.toNat : Int)]) ∧ Below W.heap.size W w') := hide (fun (W : World) => by
        have h := as16_any hi lo (some ⟨g, o, none⟩) W hh hl
        rw [ex, ey] at h
        exact h)
      rw [ex, ey] at hrb
      have Hrb := hide hrb
      clear h1 hrb hc1 hc2 k0 k1 k2 ex ey
      unfold addrV at *
      go_wp2_with fail
      refine (Hzn.out _).mono ?_
      rintro e W3 ⟨rfl, hb3⟩
      have hba := (Blk.new W2 89 [.int .u64 (hi : Int), .int .u64 (lo : Int), .pointer (some ⟨g, o, none⟩)]).below hb3
      have m0 : W3.cell? ⟨W2.heap.size, 0, none⟩ = some (.int .u64 (hi : Int)) := hba.cell 0
      have m1 : W3.cell? ⟨W2.heap.size, 1, none⟩ = some (.int .u64 (lo : Int)) := hba.cell 1
      have m2 : W3.cell? ⟨W2.heap.size, 2, none⟩ = some (.pointer (some ⟨g, o, none⟩)) := hba.cell 2
      have hb23 : Below W2.heap.size W2 W3 := ((Below.refl _ _).alloc (Nat.le_refl _) _).trans (hb3.mono (by simp))
      have Hb23 := hide hb23
      clear hb3 hba hb23 Hzn
      go_wp2_with fail
      with_reducible refine (Has.out W3).mono ?_
      rintro e W4 ⟨rfl, hb4⟩
      have hb14 : Below W1.heap.size W1 W4 := (Hb2.out.trans (Hb23.out.mono Hb2.out.size)).trans (hb4.mono (Nat.le_trans Hb2.out.size Hb23.out.size))
      have hbr4 := Hbr.out.below hb14
      have d0 : W4.cell? ⟨w.heap.size, 0, none⟩ = some (.int .u8 0) := hbr4.cell 0
      have d1 : W4.cell? ⟨w.heap.size, 1, none⟩ = some (.int .u8 0) := hbr4.cell 1
      have d2 : W4.cell? ⟨w.heap.size, 2, none⟩ = some (.int .u8 0) := hbr4.cell 2
      have d3 : W4.cell? ⟨w.heap.size, 3, none⟩ = some (.int .u8 0) := hbr4.cell 3
      have d4 : W4.cell? ⟨w.heap.size, 4, none⟩ = some (.int .u8 0) := hbr4.cell 4
      have d5 : W4.cell? ⟨w.heap.size, 5, none⟩ = some (.int .u8 0) := hbr4.cell 5
      have d6 : W4.cell? ⟨w.heap.size, 6, none⟩ = some (.int .u8 0) := hbr4.cell 6
      have d7 : W4.cell? ⟨w.heap.size, 7, none⟩ = some (.int .u8 0) := hbr4.cell 7
      have d8 : W4.cell? ⟨w.heap.size, 8, none⟩ = some (.int .u8 0) := hbr4.cell 8
      have d9 : W4.cell? ⟨w.heap.size, 9, none⟩ = some (.int .u8 0) := hbr4.cell 9
      have d10 : W4.cell? ⟨w.heap.size, 10, none⟩ = some (.int .u8 0) := hbr4.cell 10
      have d11 : W4.cell? ⟨w.heap.size, 11, none⟩ = some (.int .u8 0) := hbr4.cell 11
      have d12 : W4.cell? ⟨w.heap.size, 12, none⟩ = some (.int .u8 0) := hbr4.cell 12
      have d13 : W4.cell? ⟨w.heap.size, 13, none⟩ = some (.int .u8 0) := hbr4.cell 13
      have d14 : W4.cell? ⟨w.heap.size, 14, none⟩ = some (.int .u8 0) := hbr4.cell 14
      have d15 : W4.cell? ⟨w.heap.size, 15, none⟩ = some (.int .u8 0) := hbr4.cell 15
      have fz : ∀ i, W4.frozen? ⟨w.heap.size, i, none⟩ = false := fun i => hbr4.frozen i
      have Hbw4 := hide (Hbw.out.trans (hb14.mono Hbw.out.size))
      clear hb4 hb14 hbr4 m0 m1 m2
      go_wp2_with fail
      refine bodyPost_ret (v := .tuple #[by16 [x0, x1, x2, x3, x4, x5, x6, x7, y0, y1, y2, y3, y4, y5, y6, y7], .bool true]) (by simp [results, Tryd.results47, by16, go_sem, *]) rfl ?_
      refine ⟨Or.inl ⟨_, Hrb.out, rfl⟩, ?_⟩
      iterate 16 refine Below.setCell ?_ (by simp) _
      exact Hbw4.out
  · have hrn : rb = none := by
      rcases Hr.out with ⟨_, h⟩ | ⟨hi, lo, g, o, b, h1, _⟩
      · exact h
      · rw [h1] at hno; cases hno
    have Hrn := hide hrn
    have hb12 : Below W1.heap.size W1 W2 := Hb2.out
    have hbr4 := Hbr.out.below hb12
    have d0 : ∀ ob, (W2.alloc ob).cell? ⟨w.heap.size, 0, none⟩ = some (.int .u8 0) := fun ob => (hbr4.alloc ob).cell 0
    have d1 : ∀ ob, (W2.alloc ob).cell? ⟨w.heap.size, 1, none⟩ = some (.int .u8 0) := fun ob => (hbr4.alloc ob).cell 1
    have d2 : ∀ ob, (W2.alloc ob).cell? ⟨w.heap.size, 2, none⟩ = some (.int .u8 0) := fun ob => (hbr4.alloc ob).cell 2
    have d3 : ∀ ob, (W2.alloc ob).cell? ⟨w.heap.size, 3, none⟩ = some (.int .u8 0) := fun ob => (hbr4.alloc ob).cell 3
    have d4 : ∀ ob, (W2.alloc ob).cell? ⟨w.heap.size, 4, none⟩ = some (.int .u8 0) := fun ob => (hbr4.alloc ob).cell 4
    have d5 : ∀ ob, (W2.alloc ob).cell? ⟨w.heap.size, 5, none⟩ = some (.int .u8 0) := fun ob => (hbr4.alloc ob).cell 5
    have d6 : ∀ ob, (W2.alloc ob).cell? ⟨w.heap.size, 6, none⟩ = some (.int .u8 0) := fun ob => (hbr4.alloc ob).cell 6
    have d7 : ∀ ob, (W2.alloc ob).cell? ⟨w.heap.size, 7, none⟩ = some (.int .u8 0) := fun ob => (hbr4.alloc ob).cell 7
    have d8 : ∀ ob, (W2.alloc ob).cell? ⟨w.heap.size, 8, none⟩ = some (.int .u8 0) := fun ob => (hbr4.alloc ob).cell 8
    have d9 : ∀ ob, (W2.alloc ob).cell? ⟨w.heap.size, 9, none⟩ = some (.int .u8 0) := fun ob => (hbr4.alloc ob).cell 9
    have d10 : ∀ ob, (W2.alloc ob).cell? ⟨w.heap.size, 10, none⟩ = some (.int .u8 0) := fun ob => (hbr4.alloc ob).cell 10
    have d11 : ∀ ob, (W2.alloc ob).cell? ⟨w.heap.size, 11, none⟩ = some (.int .u8 0) := fun ob => (hbr4.alloc ob).cell 11
    have d12 : ∀ ob, (W2.alloc ob).cell? ⟨w.heap.size, 12, none⟩ = some (.int .u8 0) := fun ob => (hbr4.alloc ob).cell 12
    have d13 : ∀ ob, (W2.alloc ob).cell? ⟨w.heap.size, 13, none⟩ = some (.int .u8 0) := fun ob => (hbr4.alloc ob).cell 13
    have d14 : ∀ ob, (W2.alloc ob).cell? ⟨w.heap.size, 14, none⟩ = some (.int .u8 0) := fun ob => (hbr4.alloc ob).cell 14
    have d15 : ∀ ob, (W2.alloc ob).cell? ⟨w.heap.size, 15, none⟩ = some (.int .u8 0) := fun ob => (hbr4.alloc ob).cell 15
    have fz : ∀ ob i, (W2.alloc ob).frozen? ⟨w.heap.size, i, none⟩ = false := fun ob i => (hbr4.alloc ob).frozen i
    have Hal : Hid (∀ ob, Below w.heap.size w (W2.alloc ob)) := hide (fun ob => Hbw2.out.alloc Hbw2.out.size ob)
    clear hno hrn hb12 hbr4
    unfold addrV
    go_wp2_with fail
    refine bodyPost_ret (v := .tuple #[by16 zeros16, .bool false]) (by simp [results, Tryd.results47, by16, zeros16, go_sem, *]) rfl ?_
    refine ⟨Or.inr ⟨Hrn.out, rfl⟩, ?_⟩
    iterate 16 refine Below.setCell ?_ (by simp) _
    exact Hal.out _

/-- What ParseIP hands back. -/
def RetP (w : World) (rb : Option (List UInt8)) (e : Ending) (w' : World) : Prop :=
  ((∃ bs g, rb = some bs ∧ bs.length = 16 ∧ e = .returned (.slice (some ⟨g, 0, none⟩) 16 16) ∧ RB w' no (some ⟨g, 0, none⟩) 16 16 bs) ∨ (rb = none ∧ e = .returned (.slice none 0 0))) ∧ Below w.heap.size w w'

set_option maxRecDepth 100000 in
set_option maxHeartbeats 3200000 in
theorem parseIP_any (s : List UInt8) (w : World) (rb : Option (List UInt8)) (hlen : ∀ bs, rb = some bs → bs.length = 16)
    (hp : Calls Tryd.prog 47 #[.string ⟨s.toArray⟩] w fun e w' => ((∃ bs, rb = some bs ∧ e = .returned (.tuple #[by16 bs, .bool true])) ∨ (rb = none ∧ e = .returned (.tuple #[by16 zeros16, .bool false]))) ∧ Below w.heap.size w w') :
    Calls Tryd.prog 37 #[.string ⟨s.toArray⟩] w (RetP w rb) := by
  have Hp := hide hp
  have Hlen := hide hlen
  clear hp hlen
  go_enter Tryd.func37, Tryd.ntmps37
  go_wp2_with fail
  with_reducible refine Hp.out.mono ?_
  rintro e W1 ⟨h1, hb1⟩
  have Hb1 := hide hb1
  have Hal : Hid (∀ ob, Below w.heap.size w (W1.alloc ob)) := hide (fun ob => hb1.alloc hb1.size ob)
  clear hb1 Hp
  rcases h1 with ⟨bs, hbs, rfl⟩ | ⟨hno, rfl⟩
  · have hl := Hlen.out bs hbs
    obtain ⟨x0, x1, x2, x3, x4, x5, x6, x7, x8, x9, x10, x11, x12, x13, x14, x15, rfl⟩ : ∃ x0 x1 x2 x3 x4 x5 x6 x7 x8 x9 x10 x11 x12 x13 x14 x15, bs = [x0, x1, x2, x3, x4, x5, x6, x7, x8, x9, x10, x11, x12, x13, x14, x15] := by
      match bs, hl with
      | [x0, x1, x2, x3, x4, x5, x6, x7, x8, x9, x10, x11, x12, x13, x14, x15], _ => exact ⟨x0, x1, x2, x3, x4, x5, x6, x7, x8, x9, x10, x11, x12, x13, x14, x15, rfl⟩
    have Hbs := hide hbs
    have Hrb : Hid (RB (W1.alloc (.cells #[.int .u8 (x0.toNat : Int), .int .u8 (x1.toNat : Int), .int .u8 (x2.toNat : Int), .int .u8 (x3.toNat : Int), .int .u8 (x4.toNat : Int), .int .u8 (x5.toNat : Int), .int .u8 (x6.toNat : Int), .int .u8 (x7.toNat : Int), .int .u8 (x8.toNat : Int), .int .u8 (x9.toNat : Int), .int .u8 (x10.toNat : Int), .int .u8 (x11.toNat : Int), .int .u8 (x12.toNat : Int), .int .u8 (x13.toNat : Int), .int .u8 (x14.toNat : Int), .int .u8 (x15.toNat : Int)] 71)) no (some ⟨W1.heap.size, 0, none⟩) 16 16 [x0, x1, x2, x3, x4, x5, x6, x7, x8, x9, x10, x11, x12, x13, x14, x15]) :=
      hide ((Blk.new W1 71 ([x0, x1, x2, x3, x4, x5, x6, x7, x8, x9, x10, x11, x12, x13, x14, x15].map fun b => Value.int .u8 (b.toNat : Int))).rb (fun h => h) rfl (Nat.le_refl _) (by unfold maxLen; omega))
    clear hbs hl
    unfold by16
    simp only [List.map]
    go_wp2_with fail
    go_ret
    exact ⟨Or.inl ⟨_, _, Hbs.out, rfl, rfl, Hrb.out⟩, Hal.out _⟩
  · have Hno := hide hno
    clear hno
    unfold by16 zeros16
    simp only [List.map, List.replicate]
    go_wp2_with fail
    go_ret
    exact ⟨Or.inr ⟨Hno.out, rfl⟩, Hal.out _⟩
end Go.Proofs.YtmfcgglgolajnaaDoor
