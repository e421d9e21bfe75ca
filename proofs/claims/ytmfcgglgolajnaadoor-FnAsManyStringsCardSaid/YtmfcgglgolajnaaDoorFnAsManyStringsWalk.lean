/-
  The walk of FnAsManyStrings.
-/
import Derived.Test.YtmfcgglgolajnaaDoorMH
import Derived.Test.YtmfcgglgolajnaaDoorMG
import Derived.Test.YtmfcgglgolajnaaDoorMText
import Derived.Test.YtmfcgglgolajnaaDoorMB
namespace Go.Proofs.YtmfcgglgolajnaaDoor
open Go.RowKit
set_option linter.unusedVariables false

theorem to16L_longS {b : List UInt8} (h : b.length = 4 ∨ b.length = 16) : to16L b = longOf b := by
  unfold to16L longOf
  rcases h with h | h
  · rw [if_pos h, if_pos h]
  · rw [if_neg (show ¬ b.length = 4 by omega), if_pos h, if_neg (show ¬ b.length = 4 by omega)]
theorem textS_ne {b d : List UInt8} (hb : b.length = 4 ∨ b.length = 16) (hd : d.length = 4 ∨ d.length = 16) (h : eqL (longOf b) (longOf d) = false) : (ipText b == ipText d) = false := by
  rw [beq_eq_false_iff_ne]
  intro e
  rw [ipText_inj b d hb hd] at e
  rw [eqL_iff.2 e] at h
  cases h
theorem textS_eq {b d : List UInt8} (hb : b.length = 4 ∨ b.length = 16) (hd : d.length = 4 ∨ d.length = 16) (h : eqL (longOf b) (longOf d) = true) : ipText b = ipText d := (ipText_inj b d hb hd).2 (eqL_iff.1 h)

set_option maxRecDepth 100000 in
set_option maxHeartbeats 3200000 in
theorem fnAsManyStrings_walk (w : World) (hp : PreIs w) (g4 o4 g6 o6 : Nat) (hz : ZX w g4 o4 g6 o6) (a0 : Option Addr) (n0 c0 : Nat) (b0 : List (List UInt8)) (w0 : RBB w no a0 n0 c0 b0) (r0 : c0 * 24 ≤ 140737488351232) (l0 : ∀ b ∈ b0, b.length ≤ 140737488351232) :
    Calls Tryd.prog 7 #[.slice a0 n0 c0] w fun e w' => e = .returned (.bool true) ∧ Below w.heap.size w w' := by
  have k0 := w0.cap
  have Hz := hide hz
  have Hp := hide hp
  have Hf := hide (fAddresses_any a0 n0 c0 b0 w w0 (by omega))
  have Hall : Hid (∀ b ∈ fAddrL b0, b.length = 4 ∨ b.length = 16) := hide (fun b hb => fAddrL_mem hb)
  have hle : (fAddrL b0).length ≤ n0 := by
    have := fAddrL_le b0 n0
    rwa [List.take_of_length_le (by rw [w0.len]; omega)] at this
  generalize fAddrL b0 = al at *
  clear w0 hp hz l0
  go_enter Tryd.func7, Tryd.ntmps7
  go_wp2_with fail
  with_reducible refine Hf.out.mono ?_
  rintro e wa ⟨A1, d1, rfl, h1, hb1⟩
  have hz1 := Hz.out.below hb1
  have Hs := hide (stringEach_any A1 al.length d1 al wa g4 o4 g6 o6 hz1 h1.free (by omega) Hall.out)
  have H1 := hide h1.free
  have Hb1 := hide hb1
  clear h1 hb1 hz1 Hf
  go_wp2_with fail
  with_reducible refine Hs.out.mono ?_
  rintro e wb ⟨A2, d2, rfl, h2, hb2⟩
  have hl2 : (al.map ipText).length = al.length := List.length_map _
  rw [hl2] at h2 ⊢
  have hbw2 := Hb1.out.trans (hb2.mono Hb1.out.size)
  have H1b := hide (H1.out.below hb2)
  have Hm := hide (marshalEach_any A1 al.length d1 al wb g4 o4 g6 o6 (Hz.out.below hbw2) (H1.out.below hb2) (by omega) Hall.out)
  have H2 := hide h2.free
  have Hbw2 := hide hbw2
  clear h2 hb2 hbw2 Hs H1 hl2
  go_wp2_with fail
  with_reducible refine Hm.out.mono ?_
  rintro e wc ⟨A5, d5, A6, d6, rfl, h5, h6, hb5⟩
  have hbwc := Hbw2.out.trans (hb5.mono Hbw2.out.size)
  have Ht := hide (to16Each_any A1 al.length d1 al wc no (H1b.out.below hb5) (fun b hb => by have := Hall.out b hb; omega) (by omega) (Hp.out.below hbwc))
  have H2c := hide (H2.out.below hb5)
  have H5 := hide h5.free
  have H6 := hide h6.free
  have Hbwc := hide hbwc
  clear h5 h6 hb5 hbwc Hm H1b H2
  go_wp2_with fail
  with_reducible refine Ht.out.mono ?_
  rintro e wd ⟨A3, d3, rfl, h3, hb3⟩
  have hl3 : (to16Ls al).length = al.length := by unfold to16Ls; exact List.length_map _
  rw [hl3] at h3 ⊢
  have HX := hide (H2c.out.below hb3)
  have HM := hide (H5.out.below hb3)
  have HY := hide (H6.out.below hb3)
  have HL := hide h3.free
  have Hbwd := hide (Hbwc.out.trans (hb3.mono Hbwc.out.size))
  have hne : ((al.length : Int) != (al.length : Int)) = false := by simp
  clear h3 hb3 Ht H2c H5 H6 hl3
  go_wp2_with fail
  go_loopw [8, 9, 10, 55] (fun f1 f2 f3 i wr => ∃ k m : Nat, k ≤ al.length ∧ m ≤ k ∧ f1 = .int .i64 (m : Int) ∧ f2 = .int .i64 (m : Int) ∧ f3 = .int .i64 (m : Int) ∧ i = .int .i64 (k : Int) ∧ Below wd.heap.size wd wr) (fun _ _ _ i _ => al.length - (intOf i).toNat)
  case atStart => exact ⟨0, 0, Nat.zero_le _, Nat.le_refl _, rfl, rfl, rfl, rfl, Below.refl _ _⟩
  case round =>
    obtain ⟨i, m, hi, hmi, rfl, rfl, rfl, rfl, hbi⟩ := hrel
    have Hbi := hide hbi
    obtain ⟨wo, rfl⟩ : ∃ wo : World, wo = wr := ⟨_, rfl⟩
    clear hbi
    by_cases hlti : i < al.length
    · obtain ⟨bi, hbi⟩ : ∃ b, al[i]? = some b := ⟨_, List.getElem?_eq_getElem hlti⟩
      have Hbi2 := hide hbi
      have hbim := Hall.out bi (List.mem_of_getElem? hbi)
      have Hbim := hide hbim
      have i2 : (0 : Int) ≤ i := by omega
      have i4 : (i : Int) < al.length := by omega
      clear hbi hbim
      go_wp2_with fail
      go_loopw [12, 13, 14, 59] (fun o1 o2 o3 i' wx => ∃ (k : Nat) (b : Bool), k ≤ i ∧ o1 = .bool b ∧ o2 = .bool b ∧ o3 = .bool b ∧ i' = .int .i64 (k : Int) ∧ Below wo.heap.size wo wx) (fun _ _ _ i' _ => i - (intOf i').toNat)
      case atStart => exact ⟨0, true, Nat.zero_le _, rfl, rfl, rfl, rfl, Below.refl _ _⟩
      case round =>
        obtain ⟨k, b, hk', rfl, rfl, rfl, rfl, hbk⟩ := hrel
        have Hbk := hide hbk
        have hbf : Below wd.heap.size wd wr := Hbi.out.trans (hbk.mono Hbi.out.size)
        have Hbf := hide hbf
        clear hbk hbf
        by_cases hltk : k < i
        · have hltk2 : k < al.length := by omega
          have i1 : (0 : Int) ≤ k := by omega
          have i3 : (k : Int) < al.length := by omega
          have i5 : (k : Int) < i := by omega
          cases b with
          | false =>
            go_wp2_with fail
            go_quiet (fail)
            go_wp2_with fail
            go_quiet (fail)
            go_wp2_with fail
            go_quiet (fail)
            go_wp2_with fail
            go_roundw
            case rel => exact ⟨k + 1, false, by omega, rfl, rfl, rfl, by go_num, below_drewN Hbk.out _⟩
            case measure => simp [intOf]; omega
          | true =>
            have hbf := Hbf.out
            obtain ⟨bk, hbk2⟩ : ∃ b, al[k]? = some b := ⟨_, List.getElem?_eq_getElem hltk2⟩
            have hbkm := Hall.out bk (List.mem_of_getElem? hbk2)
            obtain ⟨gx, ox, ti, rfl, hti, hcti⟩ := (HX.out.below hbf).at_ hlti
            obtain ⟨gx', ox', tk, hA, htk, hctk⟩ := (HX.out.below hbf).at_ hltk2
            injection hA with hA; injection hA with e1 e2; subst e1 e2
            obtain rfl : ti = ipText bi := by rw [List.getElem?_map, Hbi2.out] at hti; injection hti with hti; exact hti.symm
            obtain rfl : tk = ipText bk := by rw [List.getElem?_map, hbk2] at htk; injection htk with htk; exact htk.symm
            obtain ⟨gy, oy, si, rfl, hsi, hcsi⟩ := (HM.out.below hbf).at_ hlti
            obtain ⟨gy', oy', sk, hA, hsk, hcsk⟩ := (HM.out.below hbf).at_ hltk2
            injection hA with hA; injection hA with e1 e2; subst e1 e2
            obtain rfl : si = ipText bi := by unfold mTxt at hsi; rw [List.getElem?_map, Hbi2.out] at hsi; injection hsi with hsi; exact hsi.symm
            obtain rfl : sk = ipText bk := by unfold mTxt at hsk; rw [List.getElem?_map, hbk2] at hsk; injection hsk with hsk; exact hsk.symm
            obtain ⟨gl, ol, P1, p1, q1, li, rfl, hli, hcli, hrli⟩ := (HL.out.below hbf).at_ hlti
            obtain ⟨gl', ol', P2, p2, q2, lk, hA, hlk, hclk, hrlk⟩ := (HL.out.below hbf).at_ hltk2
            injection hA with hA; injection hA with e1 e2; subst e1 e2
            obtain rfl : li = longOf bi := by unfold to16Ls at hli; rw [List.getElem?_map, Hbi2.out] at hli; injection hli with hli; rw [← hli, to16L_longS Hbim.out]
            obtain rfl : lk = longOf bk := by unfold to16Ls at hlk; rw [List.getElem?_map, hbk2] at hlk; injection hlk with hlk; rw [← hlk, to16L_longS hbkm]
            cases hx : eqL (longOf bk) (longOf bi) with
            | true =>
              have Hx := hide hx
              have htt := textS_eq hbkm Hbim.out hx
              rw [htt] at hctk hcsk
              generalize ipText bi = tt at *
              clear htt
              have Hri := hide hrli
              have Hrk := hide hrlk
              clear hx hti htk hsi hsk hli hlk hrli hrlk hbkm hbk2 hbf
              go_wp2_with fail
              go_quiet (fail)
              go_wp2_with fail
              have csi := (World.cell?_of_block (w := wr) (w' := wr.drewN nq) rfl).trans hcsi
              have csk := (World.cell?_of_block (w := wr) (w' := wr.drewN nq) rfl).trans hcsk
              have cli := (World.cell?_of_block (w := wr) (w' := wr.drewN nq) rfl).trans hcli
              have clk := (World.cell?_of_block (w := wr) (w' := wr.drewN nq) rfl).trans hclk
              have Hri1 := hide (Hri.out.drewN nq)
              have Hrk1 := hide (Hrk.out.drewN nq)
              have Hbz := hide (below_drewN Hbk.out nq)
              clear hcti hctk hcsi hcsk hcli hclk Hri Hrk
              generalize wr.drewN nq = wz at *
              go_quiet (fail)
              go_wp2_with fail
              have dli := (World.cell?_of_block (w := wz) (w' := wz.drewN nq) rfl).trans cli
              have dlk := (World.cell?_of_block (w := wz) (w' := wz.drewN nq) rfl).trans clk
              have Hri2 := hide (Hri1.out.drewN nq)
              have Hrk2 := hide (Hrk1.out.drewN nq)
              have Hby := hide (below_drewN Hbz.out nq)
              clear csi csk cli clk Hri1 Hrk1
              generalize wz.drewN nq = wy at *
              have Hsm := hide (fun n => same_any P2 P1 p2 q2 p1 q1 (longOf bk) (longOf bi) (wy.drewN n) no no (Hrk2.out.drewN n) (Hri2.out.drewN n))
              rw [Hx.out] at Hsm
              go_quiet ((go_at_call 16; exact Calls.quiet_of (Hsm.out _)))
              go_wp2_with fail
              go_roundw
              case rel => exact ⟨k + 1, false, by omega, rfl, rfl, rfl, by go_num, below_drewN Hby.out _⟩
              case measure => simp [intOf]; omega
            | false =>
              have Hx := hide hx
              have htt := textS_ne hbkm Hbim.out hx
              generalize ipText bi = tt at *
              generalize ipText bk = tk at *
              have Hri := hide hrli
              have Hrk := hide hrlk
              clear hx hti htk hsi hsk hli hlk hrli hrlk hbkm hbk2 hbf
              go_wp2_with fail
              go_quiet (fail)
              go_wp2_with fail
              have csi := (World.cell?_of_block (w := wr) (w' := wr.drewN nq) rfl).trans hcsi
              have csk := (World.cell?_of_block (w := wr) (w' := wr.drewN nq) rfl).trans hcsk
              have cli := (World.cell?_of_block (w := wr) (w' := wr.drewN nq) rfl).trans hcli
              have clk := (World.cell?_of_block (w := wr) (w' := wr.drewN nq) rfl).trans hclk
              have Hri1 := hide (Hri.out.drewN nq)
              have Hrk1 := hide (Hrk.out.drewN nq)
              have Hbz := hide (below_drewN Hbk.out nq)
              clear hcti hctk hcsi hcsk hcli hclk Hri Hrk
              generalize wr.drewN nq = wz at *
              go_quiet (fail)
              go_wp2_with fail
              have dli := (World.cell?_of_block (w := wz) (w' := wz.drewN nq) rfl).trans cli
              have dlk := (World.cell?_of_block (w := wz) (w' := wz.drewN nq) rfl).trans clk
              have Hri2 := hide (Hri1.out.drewN nq)
              have Hrk2 := hide (Hrk1.out.drewN nq)
              have Hby := hide (below_drewN Hbz.out nq)
              clear csi csk cli clk Hri1 Hrk1
              generalize wz.drewN nq = wy at *
              have Hsm := hide (fun n => same_any P2 P1 p2 q2 p1 q1 (longOf bk) (longOf bi) (wy.drewN n) no no (Hrk2.out.drewN n) (Hri2.out.drewN n))
              rw [Hx.out] at Hsm
              go_quiet ((go_at_call 16; exact Calls.quiet_of (Hsm.out _)))
              go_wp2_with fail
              go_roundw
              case rel => exact ⟨k + 1, true, by omega, rfl, rfl, rfl, by go_num, below_drewN Hby.out _⟩
              case measure => simp [intOf]; omega
        · obtain rfl : k = i := by omega
          obtain ⟨gz, oz, y, rfl, hy, hcy⟩ := (HY.out.below Hbf.out).at_ hlti
          obtain rfl : y = true := by unfold mYes at hy; rw [List.getElem?_map, Hbi2.out] at hy; injection hy with hy; exact hy.symm
          clear hy
          cases b with
          | false =>
            go_wp2_with fail
            go_roundw
            case rel => exact ⟨k + 1, m, by omega, by omega, rfl, rfl, rfl, by go_num, Hbf.out⟩
            case measure => simp [intOf]; omega
          | true =>
            go_wp2_with fail
            go_roundw
            case rel => exact ⟨k + 1, m + 1, by omega, by omega, by go_num, by go_num, by go_num, by go_num, Hbf.out⟩
            case measure => simp [intOf]; omega
    · go_wp2_with fail
      go_ret
      exact ⟨rfl, Hbwd.out.trans (Hbi.out.mono Hbwd.out.size)⟩
end Go.Proofs.YtmfcgglgolajnaaDoor
