/-
  The walk of FnOneBit.
-/
import Derived.Test.YtmfcgglgolajnaaDoorMH
import Derived.Test.YtmfcgglgolajnaaDoorPAny
import Derived.Test.YtmfcgglgolajnaaDoorChars
import Derived.Test.YtmfcgglgolajnaaDoorPlaceI
import Derived.Test.YtmfcgglgolajnaaDoorOwnB
import Derived.Test.YtmfcgglgolajnaaDoorMB
namespace Go.Proofs.YtmfcgglgolajnaaDoor
open Go.RowKit
set_option linter.unusedVariables false

theorem bit_ne (x : UInt8) {s : Nat} (hs : s < 8) : x ^^^ UInt8.ofNat (2 ^ s) ≠ x := by
  have key : ∀ e : Fin 8, UInt8.ofNat (2 ^ e.val) ≠ 0 := by decide +kernel
  intro h
  have h2 : x ^^^ (x ^^^ UInt8.ofNat (2 ^ s)) = x ^^^ x := by rw [h]
  rw [← UInt8.xor_assoc, UInt8.xor_self, UInt8.zero_xor] at h2
  exact key ⟨s, hs⟩ h2
theorem flip_ne {b : List UInt8} {j s : Nat} {x : UInt8} (hx : b[j]? = some x) (hs : s < 8) : longOf (b.set j (x ^^^ UInt8.ofNat (2 ^ s))) ≠ longOf b := by
  have hj := (List.getElem?_eq_some_iff.1 hx).1
  intro h
  have e : b.set j (x ^^^ UInt8.ofNat (2 ^ s)) = b := by
    unfold longOf at h
    rw [List.length_set] at h
    split at h
    · exact List.append_cancel_left h
    · exact h
  have h1 : (b.set j (x ^^^ UInt8.ofNat (2 ^ s)))[j]? = some (x ^^^ UInt8.ofNat (2 ^ s)) := by rw [List.getElem?_set_self hj]
  rw [e, hx] at h1
  injection h1 with h1
  exact bit_ne x hs h1.symm

set_option maxRecDepth 100000 in
set_option maxHeartbeats 6400000 in
theorem fnOneBit_walk (w : World) (hp : PreIs w) (g4 o4 g6 o6 : Nat) (hz : ZX w g4 o4 g6 o6) (a0 : Option Addr) (n0 c0 : Nat) (b0 : List UInt8) (w0 : RB w no a0 n0 c0 b0) (r0 : c0 ≤ 140737488351232) (k1 : Int) (wf1 : (Lit.int .i64 k1).wf = true) :
    Calls Tryd.prog 3 #[.slice a0 n0 c0, .int .i64 k1] w fun e w' => e = .returned (.bool true) ∧ Below w.heap.size w w' := by
  have W0 := hide w0
  have Hz := hide hz
  have Hp := hide hp
  have k0 := w0.cap
  clear w0 hz hp
  by_cases h4 : n0 = 4
  · subst h4
    have Hp1 := hide (fun W => placeIn_any k1 31 31 rfl (by omega) W)
    have hK := placeN_le k1 31
    generalize placeN k1 31 = K at *
    have Hc := hide (copied_own a0 4 c0 b0 w no W0.out (by omega))
    go_enter Tryd.func3, Tryd.ntmps3
    go_wp2_with fail
    with_reducible refine (Hp1.out _).mono ?_
    rintro e w' ⟨rfl, rfl⟩
    go_wp2_with fail
    with_reducible refine Hc.out.mono ?_
    rintro e w1 ⟨v, rfl, hv, hb⟩
    have hown : OwnB w v 4 b0 w1 := ⟨hv, hb⟩
    obtain ⟨A1, c1, rfl, hc1, hc2⟩ := hown.form
    obtain ⟨g, rfl, hg⟩ := hown.some_ (by omega)
    obtain ⟨g', o', x, e, hx, hcx⟩ := hown.rb.at_ (k := K / 8) (by omega)
    injection e with e; injection e with e1 e2; subst e1 e2
    rw [Nat.zero_add] at hcx
    have i1 : (K : Int) / 8 < 4 := by omega
    have i2 : (0 : Int) ≤ (K : Int) / 8 := by omega
    have i3 : (0 : Int) ≤ (K : Int) % 8 := by omega
    have hfz := hown.1.frozenAt (K / 8)
    have hx3 := lt_256 x
    have Hxor := hide (xor_bit x (K % 8) (by omega))
    have hsl := W0.out.len
    have Hs := hide (hown.set_ hg (K / 8) (x ^^^ UInt8.ofNat (2 ^ (K % 8)))).drew
    have Hol : Hid ((b0.set (K / 8) (x ^^^ UInt8.ofNat (2 ^ (K % 8)))).length = 4) := hide (by rw [List.length_set, hsl])
    have Hne : Hid (longOf (b0.set (K / 8) (x ^^^ UInt8.ofNat (2 ^ (K % 8)))) ≠ longOf b0) := hide (flip_ne hx (by omega))
    generalize hob : b0.set (K / 8) (x ^^^ UInt8.ofNat (2 ^ (K % 8))) = ob at *
    generalize x ^^^ UInt8.ofNat (2 ^ (K % 8)) = y at *
    unfold maxLen at hc2
    clear hv hb hown hx hob Hc hsl
    go_wp2_with fail
    go_region
    rw [Hxor.out]
    go_wp2_with fail
    generalize hW2 : (w1.setCell ⟨g, K / 8, none⟩ (.int .u8 (y.toNat : Int))).drew = W2 at *
    have hbw2 := Hs.out.2
    have Hc2 := hide (copied_own a0 4 c0 b0 W2 no (W0.out.below hbw2) (by omega))
    have Hrb2 := hide Hs.out.rb
    have Hbw2 := hide hbw2
    clear hbw2 hW2 hcx hfz
    go_wp2_with fail
    with_reducible refine Hc2.out.mono ?_
    rintro e W3 ⟨vc, rfl, hcv, hb3⟩
    obtain ⟨A3, c3, rfl, hr3⟩ := RB.of_own hcv
    have hbw3 := Hbw2.out.trans (hb3.mono Hbw2.out.size)
    have Hrb3 := hide (Hrb2.out.below hb3)
    have hal : Below w.heap.size w (W3.alloc (.cells #[.slice (some ⟨g, 0, none⟩) 4 c1] 22)) := hbw3.alloc hbw3.size _
    have He := hide (equalEach_any A3 (some ⟨W3.heap.size, 0, none⟩) 4 c3 1 1 b0 [ob] (W3.alloc (.cells #[.slice (some ⟨g, 0, none⟩) 4 c1] 22)) (hr3.alloc _) (RBB.one 22 Hrb3.out) (by omega) (by intro z hz; simp at hz; subst hz; rw [Hol.out]; omega) (by omega) (Hp.out.below hal))
    have Hal := hide hal
    have Hrb4 := hide (Hrb3.out.alloc (.cells #[.slice (some ⟨g, 0, none⟩) 4 c1] 22))
    clear hcv hb3 hr3 hbw3 hal Hc2 Hrb2
    go_wp2_with fail
    with_reducible refine He.out.mono ?_
    rintro e W4 ⟨A4, c4, rfl, h4, hb4⟩
    rw [show ([ob].map (eqIP b0)).length = 1 from rfl] at h4 ⊢
    obtain ⟨ge, oe, ye, rfl, hye, hce⟩ := h4.at_ (k := 0) (by omega)
    obtain rfl : ye = false := by
      simp at hye
      rw [← hye]
      cases h : eqIP b0 ob with
      | false => rfl
      | true => exact absurd (eqL_iff.1 h).symm Hne.out
    rw [Nat.add_zero] at hce
    have Hrb5 := hide (Hrb4.out.below hb4)
    have hbw4 := Hal.out.trans (hb4.mono Hal.out.size)
    have Hbw4 := hide hbw4
    have Hft := hide (fText_any (some ⟨g, 0, none⟩) 4 c1 ob W4 no g4 o4 g6 o6 (Hz.out.below hbw4) Hrb5.out (by omega))
    have Hce := hide (⟨_, hce⟩ : ∃ u, W4.cell? ⟨ge, oe, none⟩ = u)
    clear h4 hye hb4 hbw4 He Hrb4
    go_wp2_with fail
    with_reducible refine Hft.out.mono ?_
    rintro e W5 ⟨rfl, hb5⟩
    have hbw5 := Hbw4.out.trans (hb5.mono Hbw4.out.size)
    have Hfr := hide (fReadG_any (ipText ob) W5 g4 o4 g6 o6 (Hz.out.below hbw5) (by have := ipText_len ob (by rw [Hol.out]; omega); omega) (ipText_no ob).1)
    rw [show readG (ipText ob) = longOf ob from by unfold readG; rw [read_ipText ob (by rw [Hol.out]; omega)]; rfl] at Hfr
    have Hrb6 := hide (Hrb5.out.below hb5)
    have ce5 := cell_below hce hb5
    have Hbw5 := hide hbw5
    have Htx : Hid ((ipText b0 == ipText ob) = false) := hide (by
      rw [beq_eq_false_iff_ne]
      intro e
      exact Hne.out ((ipText_inj b0 ob (by rw [W0.out.len]; omega) (by rw [Hol.out]; omega)).1 e).symm)
    have Hfb := hide (fun W (hW : Below w.heap.size w W) => fText_any a0 4 c0 b0 W no g4 o4 g6 o6 (Hz.out.below hW) (W0.out.below hW) (by omega))
    have Hfo := hide (fun W (hW : Below w.heap.size w W) (hr : RB W no (some ⟨g, 0, none⟩) 4 c1 ob) => fText_any (some ⟨g, 0, none⟩) 4 c1 ob W no g4 o4 g6 o6 (Hz.out.below hW) hr (by omega))
    have Hll : Hid ((longOf ob).length = 16) := hide (longOf_length (by rw [Hol.out]; omega))
    generalize ipText ob = tx at *
    generalize ipText b0 = tb at *
    clear hb5 hbw5 Hft Hrb5 hce Hce
    go_wp2_with fail
    with_reducible refine Hfr.out.mono ?_
    rintro e W6 ⟨A6, c6, rfl, h6, hb6⟩
    rw [Hll.out] at h6 ⊢
    have hbw6 := Hbw5.out.trans (hb6.mono Hbw5.out.size)
    have ce6 := cell_below ce5 hb6
    have Hf1 := hide (Hfb.out W6 hbw6)
    have H6 := hide h6
    have Hrb7 := hide (Hrb6.out.below hb6)
    have Hbw6 := hide hbw6
    clear h6 hb6 hbw6 ce5 Hfr Hrb6 Hfb
    go_wp2_with fail
    with_reducible refine Hf1.out.mono ?_
    rintro e W7 ⟨rfl, hb7⟩
    have hbw7 := Hbw6.out.trans (hb7.mono Hbw6.out.size)
    have Hf2 := hide (Hfo.out W7 hbw7 (Hrb7.out.below hb7))
    have H67 := hide (H6.out.below hb7)
    have Hrb8 := hide (Hrb7.out.below hb7)
    have Hbw7 := hide hbw7
    clear hb7 hbw7 Hf1 H6 Hrb7 Hfo ce6
    go_wp2_with fail
    with_reducible refine Hf2.out.mono ?_
    rintro e W8 ⟨rfl, hb8⟩
    have hbw8 := Hbw7.out.trans (hb8.mono Hbw7.out.size)
    have htx := Htx.out
    have Hfl := hide (fLong_any (some ⟨g, 0, none⟩) 4 c1 ob W8 no (Hrb8.out.below hb8) (by omega))
    have H68 := hide (H67.out.below hb8)
    have Hbw8 := hide hbw8
    clear hb8 hbw8 Hf2 H67 Hrb8
    go_wp2_with fail
    with_reducible refine Hfl.out.mono ?_
    rintro e W9 ⟨A9, c9, rfl, h9, hb9⟩
    rw [Hll.out] at h9 ⊢
    have Hsm := hide (same_any A6 A9 16 c6 16 c9 (longOf ob) (longOf ob) W9 no no (H68.out.below hb9) h9.free)
    rw [show eqL (longOf ob) (longOf ob) = true from eqL_iff.2 rfl] at Hsm
    have Hbw9 := hide (Hbw8.out.trans (hb9.mono Hbw8.out.size))
    clear h9 hb9 H68 Hfl
    go_wp2_with fail
    with_reducible refine Hsm.out.mono ?_
    rintro e W10 ⟨rfl, q, rfl⟩
    go_wp2_with fail
    go_ret
    exact ⟨rfl, below_drewN Hbw9.out q⟩
  · by_cases h16 : n0 = 16
    · subst h16
      have Hp1 := hide (fun W => placeIn_any k1 127 127 rfl (by omega) W)
      have hK := placeN_le k1 127
      generalize placeN k1 127 = K at *
      have Hc := hide (copied_own a0 16 c0 b0 w no W0.out (by omega))
      go_enter Tryd.func3, Tryd.ntmps3
      go_wp2_with fail
      with_reducible refine (Hp1.out _).mono ?_
      rintro e w' ⟨rfl, rfl⟩
      go_wp2_with fail
      with_reducible refine Hc.out.mono ?_
      rintro e w1 ⟨v, rfl, hv, hb⟩
      have hown : OwnB w v 16 b0 w1 := ⟨hv, hb⟩
      obtain ⟨A1, c1, rfl, hc1, hc2⟩ := hown.form
      obtain ⟨g, rfl, hg⟩ := hown.some_ (by omega)
      obtain ⟨g', o', x, e, hx, hcx⟩ := hown.rb.at_ (k := K / 8) (by omega)
      injection e with e; injection e with e1 e2; subst e1 e2
      rw [Nat.zero_add] at hcx
      have i1 : (K : Int) / 8 < 16 := by omega
      have i2 : (0 : Int) ≤ (K : Int) / 8 := by omega
      have i3 : (0 : Int) ≤ (K : Int) % 8 := by omega
      have hfz := hown.1.frozenAt (K / 8)
      have hx3 := lt_256 x
      have Hxor := hide (xor_bit x (K % 8) (by omega))
      have hsl := W0.out.len
      have Hs := hide (hown.set_ hg (K / 8) (x ^^^ UInt8.ofNat (2 ^ (K % 8)))).drew
      have Hol : Hid ((b0.set (K / 8) (x ^^^ UInt8.ofNat (2 ^ (K % 8)))).length = 16) := hide (by rw [List.length_set, hsl])
      have Hne : Hid (longOf (b0.set (K / 8) (x ^^^ UInt8.ofNat (2 ^ (K % 8)))) ≠ longOf b0) := hide (flip_ne hx (by omega))
      generalize hob : b0.set (K / 8) (x ^^^ UInt8.ofNat (2 ^ (K % 8))) = ob at *
      generalize x ^^^ UInt8.ofNat (2 ^ (K % 8)) = y at *
      unfold maxLen at hc2
      clear hv hb hown hx hob Hc hsl
      go_wp2_with fail
      go_region
      rw [Hxor.out]
      go_wp2_with fail
      generalize hW2 : (w1.setCell ⟨g, K / 8, none⟩ (.int .u8 (y.toNat : Int))).drew = W2 at *
      have hbw2 := Hs.out.2
      have Hc2 := hide (copied_own a0 16 c0 b0 W2 no (W0.out.below hbw2) (by omega))
      have Hrb2 := hide Hs.out.rb
      have Hbw2 := hide hbw2
      clear hbw2 hW2 hcx hfz
      go_wp2_with fail
      with_reducible refine Hc2.out.mono ?_
      rintro e W3 ⟨vc, rfl, hcv, hb3⟩
      obtain ⟨A3, c3, rfl, hr3⟩ := RB.of_own hcv
      have hbw3 := Hbw2.out.trans (hb3.mono Hbw2.out.size)
      have Hrb3 := hide (Hrb2.out.below hb3)
      have hal : Below w.heap.size w (W3.alloc (.cells #[.slice (some ⟨g, 0, none⟩) 16 c1] 22)) := hbw3.alloc hbw3.size _
      have He := hide (equalEach_any A3 (some ⟨W3.heap.size, 0, none⟩) 16 c3 1 1 b0 [ob] (W3.alloc (.cells #[.slice (some ⟨g, 0, none⟩) 16 c1] 22)) (hr3.alloc _) (RBB.one 22 Hrb3.out) (by omega) (by intro z hz; simp at hz; subst hz; rw [Hol.out]; omega) (by omega) (Hp.out.below hal))
      have Hal := hide hal
      have Hrb4 := hide (Hrb3.out.alloc (.cells #[.slice (some ⟨g, 0, none⟩) 16 c1] 22))
      clear hcv hb3 hr3 hbw3 hal Hc2 Hrb2
      go_wp2_with fail
      with_reducible refine He.out.mono ?_
      rintro e W4 ⟨A4, c4, rfl, h4, hb4⟩
      rw [show ([ob].map (eqIP b0)).length = 1 from rfl] at h4 ⊢
      obtain ⟨ge, oe, ye, rfl, hye, hce⟩ := h4.at_ (k := 0) (by omega)
      obtain rfl : ye = false := by
        simp at hye
        rw [← hye]
        cases h : eqIP b0 ob with
        | false => rfl
        | true => exact absurd (eqL_iff.1 h).symm Hne.out
      rw [Nat.add_zero] at hce
      have Hrb5 := hide (Hrb4.out.below hb4)
      have hbw4 := Hal.out.trans (hb4.mono Hal.out.size)
      have Hbw4 := hide hbw4
      have Hft := hide (fText_any (some ⟨g, 0, none⟩) 16 c1 ob W4 no g4 o4 g6 o6 (Hz.out.below hbw4) Hrb5.out (by omega))
      have Hce := hide (⟨_, hce⟩ : ∃ u, W4.cell? ⟨ge, oe, none⟩ = u)
      clear h4 hye hb4 hbw4 He Hrb4
      go_wp2_with fail
      with_reducible refine Hft.out.mono ?_
      rintro e W5 ⟨rfl, hb5⟩
      have hbw5 := Hbw4.out.trans (hb5.mono Hbw4.out.size)
      have Hfr := hide (fReadG_any (ipText ob) W5 g4 o4 g6 o6 (Hz.out.below hbw5) (by have := ipText_len ob (by rw [Hol.out]; omega); omega) (ipText_no ob).1)
      rw [show readG (ipText ob) = longOf ob from by unfold readG; rw [read_ipText ob (by rw [Hol.out]; omega)]; rfl] at Hfr
      have Hrb6 := hide (Hrb5.out.below hb5)
      have ce5 := cell_below hce hb5
      have Hbw5 := hide hbw5
      have Htx : Hid ((ipText b0 == ipText ob) = false) := hide (by
        rw [beq_eq_false_iff_ne]
        intro e
        exact Hne.out ((ipText_inj b0 ob (by rw [W0.out.len]; omega) (by rw [Hol.out]; omega)).1 e).symm)
      have Hfb := hide (fun W (hW : Below w.heap.size w W) => fText_any a0 16 c0 b0 W no g4 o4 g6 o6 (Hz.out.below hW) (W0.out.below hW) (by omega))
      have Hfo := hide (fun W (hW : Below w.heap.size w W) (hr : RB W no (some ⟨g, 0, none⟩) 16 c1 ob) => fText_any (some ⟨g, 0, none⟩) 16 c1 ob W no g4 o4 g6 o6 (Hz.out.below hW) hr (by omega))
      have Hll : Hid ((longOf ob).length = 16) := hide (longOf_length (by rw [Hol.out]; omega))
      generalize ipText ob = tx at *
      generalize ipText b0 = tb at *
      clear hb5 hbw5 Hft Hrb5 hce Hce
      go_wp2_with fail
      with_reducible refine Hfr.out.mono ?_
      rintro e W6 ⟨A6, c6, rfl, h6, hb6⟩
      rw [Hll.out] at h6 ⊢
      have hbw6 := Hbw5.out.trans (hb6.mono Hbw5.out.size)
      have ce6 := cell_below ce5 hb6
      have Hf1 := hide (Hfb.out W6 hbw6)
      have H6 := hide h6
      have Hrb7 := hide (Hrb6.out.below hb6)
      have Hbw6 := hide hbw6
      clear h6 hb6 hbw6 ce5 Hfr Hrb6 Hfb
      go_wp2_with fail
      with_reducible refine Hf1.out.mono ?_
      rintro e W7 ⟨rfl, hb7⟩
      have hbw7 := Hbw6.out.trans (hb7.mono Hbw6.out.size)
      have Hf2 := hide (Hfo.out W7 hbw7 (Hrb7.out.below hb7))
      have H67 := hide (H6.out.below hb7)
      have Hrb8 := hide (Hrb7.out.below hb7)
      have Hbw7 := hide hbw7
      clear hb7 hbw7 Hf1 H6 Hrb7 Hfo ce6
      go_wp2_with fail
      with_reducible refine Hf2.out.mono ?_
      rintro e W8 ⟨rfl, hb8⟩
      have hbw8 := Hbw7.out.trans (hb8.mono Hbw7.out.size)
      have htx := Htx.out
      have Hfl := hide (fLong_any (some ⟨g, 0, none⟩) 16 c1 ob W8 no (Hrb8.out.below hb8) (by omega))
      have H68 := hide (H67.out.below hb8)
      have Hbw8 := hide hbw8
      clear hb8 hbw8 Hf2 H67 Hrb8
      go_wp2_with fail
      with_reducible refine Hfl.out.mono ?_
      rintro e W9 ⟨A9, c9, rfl, h9, hb9⟩
      rw [Hll.out] at h9 ⊢
      have Hsm := hide (same_any A6 A9 16 c6 16 c9 (longOf ob) (longOf ob) W9 no no (H68.out.below hb9) h9.free)
      rw [show eqL (longOf ob) (longOf ob) = true from eqL_iff.2 rfl] at Hsm
      have Hbw9 := hide (Hbw8.out.trans (hb9.mono Hbw8.out.size))
      clear h9 hb9 H68 Hfl
      go_wp2_with fail
      with_reducible refine Hsm.out.mono ?_
      rintro e W10 ⟨rfl, q, rfl⟩
      go_wp2_with fail
      go_ret
      exact ⟨rfl, below_drewN Hbw9.out q⟩
    · have t1 : ((n0 : Int) != 4) = true := by simp; omega
      have t2 : ((n0 : Int) != 16) = true := by simp; omega
      go_enter Tryd.func3, Tryd.ntmps3
      go_wp2_with fail
      go_ret
      exact ⟨rfl, Below.refl _ _⟩
end Go.Proofs.YtmfcgglgolajnaaDoor
