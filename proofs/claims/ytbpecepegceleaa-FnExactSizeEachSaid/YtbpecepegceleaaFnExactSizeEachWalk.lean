/-
  The walk of FnExactSizeEach.
-/
import Derived.Test.YtbpecepegceleaaExState
namespace Go.Proofs.Ytbpecepegceleaa
open Go.RowKit
set_option linter.unusedVariables false

theorem len_le_sumTo {bss : List (List UInt8)} {N : Nat} (hl : bss.length = N) {b : List UInt8} (hb : b ∈ bss) : b.length ≤ sumTo bss N := by
  obtain ⟨j, hj⟩ := List.getElem?_of_mem hb
  have hjl := (List.getElem?_eq_some_iff.1 hj).1
  have h1 := sumTo_succ hj
  have h2 := sumTo_le bss (show j + 1 ≤ N by omega)
  omega
theorem onesEach_length (bss : List (List UInt8)) : (onesEach bss).length = bss.length := by unfold onesEach; simp
theorem bitsEach_length (bss : List (List UInt8)) : (bitsEach bss).length = bss.length := by unfold bitsEach; simp

set_option maxRecDepth 100000 in
set_option maxHeartbeats 6400000 in
theorem fnExactSizeEach_walk (w : World) (a0 : Option Addr) (n0 c0 : Nat) (b0 : List (List UInt8)) (w0 : RBB w no a0 n0 c0 b0) (r0 : c0 * 24 ≤ 140737488351232) (y0 : ∀ b ∈ b0, b.length ≤ 140737488351232) :
    Calls Try.prog 4 #[.slice a0 n0 c0] w fun e w' => e = .returned (.bool true) ∧ Below w.heap.size w w' := by
  have Hz := hide (szByteSS_any a0 n0 c0 1048576 b0 w w0 (Nat.le_refl _))
  rw [show ((1048576 : Nat) : Int) = (1048576 : Int) from rfl] at Hz
  have W0 := hide w0
  have Hl0 := hide w0.len
  clear w0 y0
  go_enter Try.func4, Try.ntmps4
  go_wp2_with fail
  with_reducible refine Hz.out.mono ?_
  rintro e w' ⟨hz, rfl⟩
  rcases hz with rfl | ⟨r, rfl, hr, hsum⟩
  · go_wp2_with fail
    go_ret
    exact ⟨rfl, Below.refl _ _⟩
  have hr0 : ¬ ((r : Int) < 0) := by omega
  have hN : n0 ≤ 1048576 := by omega
  have hall : ∀ b ∈ b0, b.length ≤ 1048576 := fun b hb => by have := len_le_sumTo Hl0.out hb; omega
  have Hall := hide hall
  have Hsum := hide hsum
  have Hlo : Hid ((onesEach b0).length = n0) := hide (by rw [onesEach_length]; exact Hl0.out)
  have Hlb : Hid ((bitsEach b0).length = n0) := hide (by rw [bitsEach_length]; exact Hl0.out)
  have Heo : Hid (eqL (onesEach b0) (onesEach b0) = true) := hide (eqL_iff.2 rfl)
  have Heb : Hid (eqL (bitsEach b0) (bitsEach b0) = true) := hide (eqL_iff.2 rfl)
  have Hess : Hid (eqL b0 b0 = true) := hide (eqL_iff.2 rfl)
  have Ht1 := hide (toByteSS_any a0 n0 c0 b0 w W0.out hN hall)
  clear hsum hall Hz
  go_wp2_with fail
  -- w0, w1 := spec.SizeEach(toByteSS(a))
  with_reducible refine Ht1.out.mono ?_
  rintro e u1 ⟨rfl, gs1, hg1, ht1⟩
  have Hb1 := hide ht1.below
  have Hs1 := hide (specSizeEach_any _ n0 n0 b0 u1 no (ht1.rbb hg1 Hl0.out hN Hall.out) hN Hall.out)
  clear ht1 hg1
  go_wp2_with fail
  with_reducible refine Hs1.out.mono ?_
  rintro e u2 ⟨v0, v1, rfl, h2⟩
  have h21 := h2.1
  have h22 := h2.2.1
  rw [Hlo.out] at h21
  rw [Hlb.out] at h22
  obtain ⟨P0, d0, rfl, hp0⟩ := RI.of_own h21
  obtain ⟨P1, d1, rfl, hp1⟩ := RI.of_own h22
  have HP0 := hide hp0
  have HP1 := hide hp1
  have hbw : Below w.heap.size w u2 := Hb1.out.trans (h2.2.2.2.mono Hb1.out.size)
  have Hbw := hide hbw
  have Ht2 := hide (toByteSS_any a0 n0 c0 b0 u2 (W0.out.below hbw) hN Hall.out)
  clear h2 h21 h22 hp0 hp1 hbw Ht1 Hs1
  go_wp2_with fail
  -- x0 := toByteSS(a)
  with_reducible refine Ht2.out.mono ?_
  rintro e u3 ⟨rfl, gs, hg, ht⟩
  have HT := hide ht
  have Hg := hide hg
  have Hx0 := hide (ht.rbb hg Hl0.out hN Hall.out)
  have Hs3 := hide (sizeEach_any _ n0 n0 b0 u3 no Hx0.out (by omega) (fun b hb => by have := Hall.out b hb; omega))
  clear ht hg Ht2
  go_wp2_with fail
  -- g0, g1 := impl.SizeEach(x0)
  with_reducible refine Hs3.out.mono ?_
  rintro e u4 ⟨v0, v1, rfl, h4⟩
  have h41 := h4.1
  have h42 := h4.2.1
  rw [Hlo.out] at h41
  rw [Hlb.out] at h42
  obtain ⟨G0, f0, rfl, _⟩ := RI.of_own h41
  obtain ⟨G1, f1, rfl, _⟩ := RI.of_own h42
  have hst : St u2 u3 (.slice G0 n0 f0) (.slice G1 n0 f1) (onesEach b0) (bitsEach b0) u4 :=
    ⟨HT.out.below.trans (h4.2.2.2.mono HT.out.below.size), ⟨h4.1, h4.2.1, h4.2.2.1⟩, HT.out.below.size, h4.2.2.2.size⟩
  have Hst := hide hst
  have Hb34 := hide h4.2.2.2
  have He := hide (fun (W : World) (hW : St u2 u3 (.slice G0 n0 f0) (.slice G1 n0 f1) (onesEach b0) (bitsEach b0) W) => eqIntS_any G0 P0 n0 f0 n0 d0 _ _ W no no (hW.ri1 Hlo.out) (HP0.out.below hW.bel))
  have He2 := hide (fun (W : World) (hW : St u2 u3 (.slice G0 n0 f0) (.slice G1 n0 f1) (onesEach b0) (bitsEach b0) W) => eqIntS_any G1 P1 n0 f1 n0 d1 _ _ W no no (hW.ri2 Hlb.out) (HP1.out.below hW.bel))
  rw [Heo.out] at He
  rw [Heb.out] at He2
  clear h4 h41 h42 hst Hs3
  go_wp2_with fail
  -- eqIntS(g0, w0), eqIntS(g1, w1)
  have HBu4 := Hb34
  with_reducible refine (He.out _ Hst.out).mono ?_
  rintro e u5 ⟨rfl, q, hq⟩
  have Hst5 : Hid (St u2 u3 (.slice G0 n0 f0) (.slice G1 n0 f1) (onesEach b0) (bitsEach b0) u5) := hide (hq ▸ Hst.out.drewN q)
  have HBu5 : Hid (Below u3.heap.size u3 u5) := hide (hq ▸ below_drewN HBu4.out q)
  clear hq
  go_wp2_with fail
  with_reducible refine (He2.out _ Hst5.out).mono ?_
  rintro e u6 ⟨rfl, q, hq⟩
  have Hst6 : Hid (St u2 u3 (.slice G0 n0 f0) (.slice G1 n0 f1) (onesEach b0) (bitsEach b0) u6) := hide (hq ▸ Hst5.out.drewN q)
  have HBu6 : Hid (Below u3.heap.size u3 u6) := hide (hq ▸ below_drewN HBu5.out q)
  clear hq
  go_wp2_with fail
  -- eqByteSS(x0, toByteSS(a))
  have hbw6 : Below w.heap.size w u6 := Hbw.out.trans (Hst6.out.bel.mono Hbw.out.size)
  have Ht6 := hide (toByteSS_any a0 n0 c0 b0 u6 (W0.out.below hbw6) hN Hall.out)
  clear hbw6
  with_reducible refine Ht6.out.mono ?_
  rintro e u7 ⟨rfl, gs7, hg7, ht7⟩
  have HB7 : Hid (Below u3.heap.size u3 u7) := hide (HBu6.out.trans (ht7.below.mono HBu6.out.size))
  have Hst7 := hide (Hst6.out.below ht7.below)
  have Hc7 := hide (eqByteSS_any _ _ n0 n0 n0 n0 b0 b0 u7 no no (Hx0.out.below HB7.out) (ht7.rbb hg7 Hl0.out hN Hall.out))
  rw [Hess.out] at Hc7
  clear ht7 hg7 Ht6
  go_wp2_with fail
  with_reducible refine Hc7.out.mono ?_
  rintro e u8 ⟨rfl, q, hq⟩
  have Hst8 : Hid (St u2 u3 (.slice G0 n0 f0) (.slice G1 n0 f1) (onesEach b0) (bitsEach b0) u8) := hide (hq ▸ Hst7.out.drewN q)
  have HB8 : Hid (Below u3.heap.size u3 u8) := hide (hq ▸ below_drewN HB7.out q)
  have Hm8 := hide (markByteSS_any u2.heap.size n0 1 b0 gs u8 (HT.out.row.below HB8.out) Hg.out Hl0.out (fun k g b h1 h2 => (HT.out.wr k g b h1 h2).below HB8.out) HT.out.notin hN (by have := Hsum.out; omega))
  rw [show ((1 : Nat) : Int) = (1 : Int) from rfl] at Hm8
  have hge : ¬ (((1 + sumTo b0 n0 : Nat) : Int) < 0) := by omega
  generalize 1 + sumTo b0 n0 = ms at *
  clear hq Hc7
  go_wp2_with fail
  -- markByteSS
  with_reducible refine Hm8.out.mono ?_
  rintro e u9 ⟨rfl, hm⟩
  have Hst9 := hide (Hst8.out.marked hm HT.out.inside)
  clear hm Hm8
  go_wp2_with fail

  with_reducible refine (He.out _ Hst9.out).mono ?_
  rintro e u10 ⟨rfl, q, hq⟩
  have Hst10 : Hid (St u2 u3 (.slice G0 n0 f0) (.slice G1 n0 f1) (onesEach b0) (bitsEach b0) u10) := hide (hq ▸ Hst9.out.drewN q)
  clear hq
  go_wp2_with fail
  with_reducible refine (He2.out _ Hst10.out).mono ?_
  rintro e u11 ⟨rfl, q, hq⟩
  have Hst11 : Hid (St u2 u3 (.slice G0 n0 f0) (.slice G1 n0 f1) (onesEach b0) (bitsEach b0) u11) := hide (hq ▸ Hst10.out.drewN q)
  clear hq
  go_wp2_with fail
  -- markIntS(g0), markIntS(g1)
  have Hm11 := hide (by
    have h := Hst11.out.rows.1
    rw [Hlo.out] at h
    exact markIntS_any G0 u3.heap.size n0 f0 1 _ u11 h (by omega) (by omega))
  rw [show ((1 : Nat) : Int) = (1 : Int) from rfl] at Hm11
  have hmn : 1 + n0 ≤ 1048577 := by omega
  have hmn2 : 1 + n0 + n0 ≤ 2097153 := by omega
  generalize hms : 1 + n0 = mn at *
  have Hms := hide hms
  clear hms
  with_reducible refine Hm11.out.mono ?_
  rintro e u12 ⟨rfl, hm⟩
  have Hst12 := hide (Hst11.out.mark1 Hlo.out hm)
  have Hm12 := hide (by
    have h := Hst12.out.rows.2.1
    rw [Hlb.out] at h
    exact markIntS_any G1 u3.heap.size n0 f1 mn _ u12 h (by omega) (by omega))
  clear hm Hm11
  generalize hmt : mn + n0 = mt at *
  have Hmt := hide hmt
  clear hmt
  go_wp2_with fail
  with_reducible refine Hm12.out.mono ?_
  rintro e u13 ⟨rfl, hm⟩
  have Hst13 := hide (Hst12.out.mark2 Hlb.out hm)
  clear hm Hm12
  have Hh1 : Hid (∀ W : World, St u2 u3 (.slice G0 n0 f0) (.slice G1 n0 f1) (marks 1 n0) (marks mn n0) W → Calls Try.prog 16 #[.slice G0 n0 f0, .int .i64 1] W fun e w' => e = .returned (.int .i64 (mn : Int)) ∧ ∃ q', w' = W.drewN q') :=
    hide (fun W hW => by have := heldIntS_any G0 n0 f0 1 W no (hW.ri1 (marks_length _ _)) (by omega) (by omega); rw [Hms.out] at this; exact this)
  have Hh2 : Hid (∀ W : World, St u2 u3 (.slice G0 n0 f0) (.slice G1 n0 f1) (marks 1 n0) (marks mn n0) W → Calls Try.prog 16 #[.slice G1 n0 f1, .int .i64 (mn : Int)] W fun e w' => e = .returned (.int .i64 (mt : Int)) ∧ ∃ q', w' = W.drewN q') :=
    hide (fun W hW => by have := heldIntS_any G1 n0 f1 mn W no (hW.ri2 (marks_length _ _)) (by omega) (by omega); rw [Hmt.out] at this; exact this)
  have hmn0 : ¬ ((mn : Int) < 0) := by omega
  have hmt0 : ¬ ((mt : Int) < 0) := by omega
  have hmtt : ((mt : Int) != (mt : Int)) = false := by simp
  clear hmn hmn2
  go_wp2_with fail
  with_reducible refine (Hh1.out _ Hst13.out).mono ?_
  rintro e u14 ⟨rfl, q, hq⟩
  have Hst14 : Hid (St u2 u3 (.slice G0 n0 f0) (.slice G1 n0 f1) (marks 1 n0) (marks mn n0) u14) := hide (hq ▸ Hst13.out.drewN q)
  clear hq
  go_wp2_with fail
  with_reducible refine (Hh2.out _ Hst14.out).mono ?_
  rintro e u15 ⟨rfl, q, hq⟩
  have Hst15 : Hid (St u2 u3 (.slice G0 n0 f0) (.slice G1 n0 f1) (marks 1 n0) (marks mn n0) u15) := hide (hq ▸ Hst14.out.drewN q)
  clear hq
  go_wp2_with fail
  -- h0, h1 := impl.SizeEach(toByteSS(a))
  have hbw15 : Below w.heap.size w u15 := Hbw.out.trans (Hst15.out.bel.mono Hbw.out.size)
  have Ht15 := hide (toByteSS_any a0 n0 c0 b0 u15 (W0.out.below hbw15) hN Hall.out)
  clear hbw15
  with_reducible refine Ht15.out.mono ?_
  rintro e u16 ⟨rfl, gs16, hg16, ht16⟩
  have Hst16 := hide (Hst15.out.below ht16.below)
  have Hs16 := hide (sizeEach_any _ n0 n0 b0 u16 no (ht16.rbb hg16 Hl0.out hN Hall.out) (by omega) (fun b hb => by have := Hall.out b hb; omega))
  clear ht16 hg16 Ht15
  go_wp2_with fail
  with_reducible refine Hs16.out.mono ?_
  rintro e u17 ⟨v0, v1, rfl, h17⟩
  have Hst17 := hide (Hst16.out.below h17.2.2.2)
  have h171 := h17.1
  have h172 := h17.2.1
  rw [Hlo.out] at h171
  rw [Hlb.out] at h172
  obtain ⟨J0, j0, rfl, hj0⟩ := RI.of_own h171
  obtain ⟨J1, j1, rfl, hj1⟩ := RI.of_own h172
  have HJ1 := hide hj1
  have He17 := hide (eqIntS_any J0 P0 n0 j0 n0 d0 _ _ u17 no no hj0 (HP0.out.below Hst17.out.bel))
  rw [Heo.out] at He17
  clear h17 h171 h172 hj0 hj1 Hs16
  go_wp2_with fail
  with_reducible refine He17.out.mono ?_
  rintro e u18 ⟨rfl, q, hq⟩
  have Hst18 : Hid (St u2 u3 (.slice G0 n0 f0) (.slice G1 n0 f1) (marks 1 n0) (marks mn n0) u18) := hide (hq ▸ Hst17.out.drewN q)
  have He18 := hide (eqIntS_any J1 P1 n0 j1 n0 d1 _ _ u18 no no (hq ▸ HJ1.out.drewN q) (HP1.out.below Hst18.out.bel))
  rw [Heb.out] at He18
  clear hq He17
  go_wp2_with fail
  with_reducible refine He18.out.mono ?_
  rintro e u19 ⟨rfl, q, hq⟩
  have Hst19 : Hid (St u2 u3 (.slice G0 n0 f0) (.slice G1 n0 f1) (marks 1 n0) (marks mn n0) u19) := hide (hq ▸ Hst18.out.drewN q)
  clear hq He18
  go_wp2_with fail
  with_reducible refine (Hh1.out _ Hst19.out).mono ?_
  rintro e u20 ⟨rfl, q, hq⟩
  have Hst20 : Hid (St u2 u3 (.slice G0 n0 f0) (.slice G1 n0 f1) (marks 1 n0) (marks mn n0) u20) := hide (hq ▸ Hst19.out.drewN q)
  clear hq
  go_wp2_with fail
  with_reducible refine (Hh2.out _ Hst20.out).mono ?_
  rintro e u21 ⟨rfl, q, hq⟩
  have Hst21 : Hid (St u2 u3 (.slice G0 n0 f0) (.slice G1 n0 f1) (marks 1 n0) (marks mn n0) u21) := hide (hq ▸ Hst20.out.drewN q)
  clear hq
  go_wp2_with fail
  go_ret
  exact ⟨rfl, Hbw.out.trans (Hst21.out.bel.mono Hbw.out.size)⟩
end Go.Proofs.Ytbpecepegceleaa
