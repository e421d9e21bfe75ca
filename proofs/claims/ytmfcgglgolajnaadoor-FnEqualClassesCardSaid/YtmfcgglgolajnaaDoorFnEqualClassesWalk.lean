/-
  The walk of FnEqualClasses.
-/
import Derived.Test.YtmfcgglgolajnaaDoorFAddr
import Derived.Test.YtmfcgglgolajnaaDoorSEach
import Derived.Test.YtmfcgglgolajnaaDoorIPI
import Derived.Test.YtmfcgglgolajnaaDoorTo16Each
import Derived.Test.YtmfcgglgolajnaaDoorSameYes
import Derived.Test.YtmfcgglgolajnaaDoorSame
import Derived.Test.YtmfcgglgolajnaaDoorBools
namespace Go.Proofs.YtmfcgglgolajnaaDoor
open Go.RowKit
set_option linter.unusedVariables false

theorem bools_info : (Tryd.prog.info? 25).map (fun i => (i.zero, i.size, i.bytes)) = some (some (.slice none 0 0), 1, 24) := by kernel_rfl
/-- The rows so far. -/
def eqRows (al : List (List UInt8)) (k : Nat) : List (List Bool) := (al.take k).map fun b => al.map (eqIP b)
theorem eqRows_length {al : List (List UInt8)} {k : Nat} (hk : k ≤ al.length) : (eqRows al k).length = k := by unfold eqRows; rw [List.length_map, List.length_take]; omega
theorem eqRows_snoc {al : List (List UInt8)} {k : Nat} {b : List UInt8} (h : al[k]? = some b) : eqRows al (k + 1) = eqRows al k ++ [al.map (eqIP b)] := by unfold eqRows; rw [take_snoc h]; simp
theorem eqRows_at {al : List (List UInt8)} {i : Nat} {b : List UInt8} {ys : List Bool} (hb : al[i]? = some b) (h : (eqRows al al.length)[i]? = some ys) : ys = al.map (eqIP b) := by
  unfold eqRows at h
  rw [List.take_length, List.getElem?_map, hb] at h
  injection h with h
  exact h.symm
theorem eqIP_refl (b : List UInt8) : eqIP b b = true := eqL_iff.2 rfl
theorem eqIP_symm (b d : List UInt8) : eqIP b d = eqIP d b := eqL_symm _ _
theorem eqIP_iff (b d : List UInt8) : eqIP b d = true ↔ longOf b = longOf d := eqL_iff
theorem eqIP_rows {al : List (List UInt8)} {b d : List UInt8} (hd : d ∈ al) (hb : b ∈ al) : eqIP b d = true → eqL (al.map (eqIP b)) (al.map (eqIP d)) = true := by
  intro h
  rw [eqIP_iff] at h
  refine eqL_iff.2 (List.map_congr_left fun x _ => ?_)
  unfold eqIP; rw [h]
theorem to16L_long {b : List UInt8} (h : b.length = 4 ∨ b.length = 16) : to16L b = longOf b := by
  unfold to16L longOf
  rcases h with h | h
  · rw [if_pos h, if_pos h]
  · rw [if_neg (show ¬ b.length = 4 by omega), if_pos h, if_neg (show ¬ b.length = 4 by omega)]
theorem text_ne {b d : List UInt8} (hb : b.length = 4 ∨ b.length = 16) (hd : d.length = 4 ∨ d.length = 16) (h : eqIP b d = false) : (ipText b == ipText d) = false := by
  rw [beq_eq_false_iff_ne]
  intro e
  rw [ipText_inj b d hb hd] at e
  rw [(eqIP_iff b d).2 e] at h
  cases h

set_option maxRecDepth 100000 in
set_option maxHeartbeats 3200000 in
theorem fnEqualClasses_walk (w : World) (hp : PreIs w) (g4 o4 g6 o6 : Nat) (hz : ZX w g4 o4 g6 o6) (a0 : Option Addr) (n0 c0 : Nat) (b0 : List (List UInt8)) (w0 : RBB w no a0 n0 c0 b0) (r0 : c0 * 24 ≤ 140737488351232) (l0 : ∀ b ∈ b0, b.length ≤ 140737488351232) :
    Calls Tryd.prog 6 #[.slice a0 n0 c0] w fun e w' => e = .returned (.bool true) ∧ Below w.heap.size w w' := by
  obtain ⟨i0, hinf, hz0, hz1, hz2⟩ := info_parts bools_info
  have k0 := w0.cap
  have Hz := hide hz
  have Hp := hide hp
  have Hf := hide (fAddresses_any a0 n0 c0 b0 w w0 (by omega))
  have Hall : Hid (∀ b ∈ fAddrL b0, b.length = 4 ∨ b.length = 16) := hide (fun b hb => fAddrL_mem hb)
  have hle : (fAddrL b0).length ≤ n0 := by
    have := fAddrL_le b0 n0
    rwa [List.take_of_length_le (by rw [w0.len]; omega)] at this
  generalize fAddrL b0 = al at *
  clear w0 hp hz l0
  go_enter Tryd.func6, Tryd.ntmps6
  go_wp2_with fail
  with_reducible refine Hf.out.mono ?_
  rintro e wa ⟨A1, d1, rfl, h1, hb1⟩
  have hz1 := Hz.out.below hb1
  have Hs := hide (stringEach_any A1 al.length d1 al wa g4 o4 g6 o6 hz1 h1.free (by omega) Hall.out)
  have H1 := hide h1.free
  have Hb1 := hide hb1
  clear h1 hb1 hz1 Hf
  go_wp2_with fail
  with_reducible refine Hs.out.mono ?_
  rintro e wb ⟨A2, d2, rfl, h2, hb2⟩
  have hl2 : (al.map ipText).length = al.length := List.length_map _
  rw [hl2] at h2 ⊢
  have hbw2 := Hb1.out.trans (hb2.mono Hb1.out.size)
  have H1b := hide (H1.out.below hb2)
  have Ht := hide (to16Each_any A1 al.length d1 al wb no (H1.out.below hb2) (fun b hb => by have := Hall.out b hb; omega) (by omega) (Hp.out.below hbw2))
  have H2 := hide h2.free
  have Hbw2 := hide hbw2
  clear h2 hb2 hbw2 Hs H1 hl2
  go_wp2_with fail
  with_reducible refine Ht.out.mono ?_
  rintro e wd ⟨A3, d3, rfl, h3, hb3⟩
  have hl3 : (to16Ls al).length = al.length := by unfold to16Ls; exact List.length_map _
  rw [hl3] at h3 ⊢
  have hbwd := Hbw2.out.trans (hb3.mono Hbw2.out.size)
  have HG := hide (H1b.out.below hb3)
  have HX := hide (H2.out.below hb3)
  have HL := hide h3.free
  have Hbwd := hide hbwd
  have Hpd := hide (Hp.out.below hbwd)
  have Hst := hide (MadeL.start wd)
  have hne : ((al.length : Int) != (al.length : Int)) = false := by simp
  clear h3 hb3 hbwd Ht H1b H2 hl3
  go_wp2_with fail
  go_loopw [6, 33] (fun v i wr => ∃ k : Nat, k ≤ al.length ∧ i = .int .i64 k ∧ MadeL wd (eqRows al k) v wr) (fun _ i _ => al.length - (intOf i).toNat)
  case atStart => exact ⟨0, Nat.zero_le _, rfl, Hst.out⟩
  case round =>
    obtain ⟨k, hk, rfl, hr⟩ := hrel
    have Hr := hide hr
    by_cases hlt : k < al.length
    · obtain ⟨xs, hr1, hr2, hr3⟩ := hr
      obtain ⟨g, o, B, m, f, b, rfl, hbk, hc, hb⟩ := (HG.out.below hr3).at_ hlt
      have hmem := Hall.out b (List.mem_of_getElem? hbk)
      have hm : m = 4 ∨ m = 16 := by rw [← hb.len]; exact hmem
      have Hm := hide hm
      have Hc := hide (copied_own B m f b wr no hb (by omega))
      have Hbk := hide hbk
      have Hr1 := hide hr1
      have Hr2 := hide hr2
      have Hr3 := hide hr3
      have Hown := hide (fun g hg => (hr1.lt g hg).2)
      have hsz := hr3.size
      have Hkl := hide (eqRows_length hk)
      clear hb hmem hbk hr1 hr2 hr3 hm Hr
      go_wp2_with fail
      with_reducible refine Hc.out.mono ?_
      rintro e v1 ⟨vc, rfl, hcv, hb1⟩
      obtain ⟨Ac, cc, rfl, hrc⟩ := RB.of_own hcv
      have hbv := Hr3.out.trans (hb1.mono Hr3.out.size)
      have He := hide (equalEach_new Ac _ m cc al.length d1 b al v1 hrc (HG.out.below hbv) Hm.out Hall.out (by omega) (Hpd.out.below hbv))
      have Hb1 := hide hb1
      clear hcv hb1 hrc hbv Hc
      go_wp2_with fail
      with_reducible refine He.out.mono ?_
      rintro e v2 ⟨A2, d2, rfl, h2, hb2⟩
      have hlen : (al.map (eqIP b)).length = al.length := List.length_map _
      rw [hlen] at h2 ⊢
      have hb12 := Hb1.out.trans (hb2.mono Hb1.out.size)
      have hsz2 := hb12.size
      have h1' := own_below Hr1.out hb12
      have h2' := Hr2.out.keep (Kept.of_below hb12 _)
      have h3' := Hr3.out.trans (hb12.mono Hr3.out.size)
      have hrb : RL v2 (rowOf u6) A2 al.length d2 (al.map (eqIP b)) := h2.sub fun g _ hg => by have := Hown.out g hg; have := Hb1.out.size; omega
      have Ho := hide (h1'.alloc (.cells #[.slice A2 al.length d2] 25))
      have HfM := hide (fun v' w' => MadeL.step (v' := v') (w' := w') h1' h2' h3' hrb)
      rw [Hkl.out] at Ho HfM
      clear h1' h2' h3' hrb h2 hb2 hlen hb12 He
      go_wp2_with (at_builtin; refine wpList_append_rd _ rfl (.tmp 46) (.tmp 48) _ rfl wd.heap.size 25 i0 _ 24 Tryd.underlying45 hinf hz0 hz1 hz2 rfl _ k _ rfl Ho.out no (some ⟨v2.heap.size, 0, none⟩) 1 1 [.slice A2 al.length d2] rfl ?p1 ?p2 ?p3 ?p4 ?p5 ?_)
      case p1 => exact Rd.one v2 _ _ no (fun h => h)
      case p2 => first | rfl | (intro u hu; simp at hu; subst hu; rfl)
      case p3 => unfold maxLen; omega
      case p4 => omega
      case p5 => first | omega | (simp; omega)
      intro v' w2 q1 q2 q3
      have Hs := hide (HfM.out v' w2 q1 q2 q3)
      rw [← eqRows_snoc Hbk.out] at Hs
      clear q1 q2 q3
      go_wp2_with fail
      go_roundw
      case rel => exact ⟨k + 1, by omega, by go_num, Hs.out⟩
      case measure => simp [intOf]; omega
    · obtain rfl : k = al.length := by omega
      obtain ⟨xs, hr1, hr2, hr3⟩ := hr
      rw [eqRows_length (Nat.le_refl _)] at hr1
      obtain ⟨A4, d4, rfl, hF⟩ := RLL.of_own hr1 hr2.free
      have HF := hide hF
      have Hr3 := hide hr3
      clear hr1 hr2 hr3 hF Hr
      obtain ⟨wf, rfl⟩ : ∃ wf : World, wf = wr := ⟨_, rfl⟩
      have HXf := hide (HX.out.below Hr3.out)
      have HLf := hide (HL.out.below Hr3.out)
      have Hbwf : Hid (Below w.heap.size w wf) := hide (Hbwd.out.trans (Hr3.out.mono Hbwd.out.size))
      go_wp2_with fail
      go_loopw [53] (fun i wx => ∃ k : Nat, k ≤ al.length ∧ i = .int .i64 k ∧ Below wf.heap.size wf wx) (fun i _ => al.length - (intOf i).toNat)
      case atStart => exact ⟨0, Nat.zero_le _, rfl, Below.refl _ _⟩
      case round =>
        obtain ⟨i, hi', rfl, hbi⟩ := hrel
        have Hbi := hide hbi
        obtain ⟨wo, rfl⟩ : ∃ wo : World, wo = wr := ⟨_, rfl⟩
        clear hbi
        by_cases hlti : i < al.length
        · obtain ⟨bi, hbi⟩ : ∃ b, al[i]? = some b := ⟨_, List.getElem?_eq_getElem hlti⟩
          obtain ⟨gF, oF, B, m, f, yi, rfl, hyi, hci, hri⟩ := (HF.out.below Hbi.out).at_ hlti
          have eyi := eqRows_at hbi hyi
          have hm : m = al.length := by rw [← hri.len, eyi, List.length_map]
          subst hm
          obtain ⟨gi, oi, x, rfl, hx, hcx⟩ := hri.at_ hlti
          have hx1 : x = true := by
            rw [eyi, List.getElem?_map, hbi] at hx
            injection hx with hx
            rw [← hx]; exact eqIP_refl bi
          subst hx1
          have i2 : (0 : Int) ≤ i := by omega
          have i4 : (i : Int) < al.length := by omega
          have Hbi2 := hide hbi
          clear hbi hyi hri eyi hx
          go_wp2_with fail
          go_loopw [66] (fun i wx => ∃ k : Nat, k ≤ al.length ∧ i = .int .i64 k ∧ Below wo.heap.size wo wx) (fun i _ => al.length - (intOf i).toNat)
          case atStart => exact ⟨0, Nat.zero_le _, rfl, Below.refl _ _⟩
          case round =>
            obtain ⟨k, hk', rfl, hbk⟩ := hrel
            have Hbk := hide hbk
            clear hci hcx
            by_cases hltk : k < al.length
            · have hbf : Below wf.heap.size wf wr := Hbi.out.trans (hbk.mono Hbi.out.size)
              have hF := HF.out.below hbf
              obtain ⟨g', o', B1, m1, f1, yi, hA, hyi, hci, hri⟩ := hF.at_ hlti
              injection hA with hA; injection hA with e1 e2; subst e1 e2
              obtain ⟨g', o', B2, m2, f2, yk, hA, hyk, hck, hrk⟩ := hF.at_ hltk
              injection hA with hA; injection hA with e1 e2; subst e1 e2
              obtain ⟨bk, hbk2⟩ : ∃ b, al[k]? = some b := ⟨_, List.getElem?_eq_getElem hltk⟩
              have eyi := eqRows_at Hbi2.out hyi
              have eyk := eqRows_at hbk2 hyk
              have hm : m1 = al.length := by rw [← hri.len, eyi, List.length_map]
              have hm' : m2 = al.length := by rw [← hrk.len, eyk, List.length_map]
              subst hm hm'
              have hbim := Hall.out bi (List.mem_of_getElem? Hbi2.out)
              have hbkm := Hall.out bk (List.mem_of_getElem? hbk2)
              have hsy := fun q n => sameYes_any B1 B2 al.length f1 al.length f2 yi yk ((wr.drewN q).drewN n) no no ((hri.drewN q).drewN n) ((hrk.drewN q).drewN n)
              obtain ⟨gi1, oi1, x, rfl, hx, hcx⟩ := hri.at_ hltk
              obtain ⟨gk1, ok1, y, rfl, hy, hcy⟩ := hrk.at_ hlti
              have ex : x = eqIP bi bk := by
                rw [eyi, List.getElem?_map, hbk2] at hx
                injection hx with hx
                exact hx.symm
              have ey : y = x := by
                rw [eyk, List.getElem?_map, Hbi2.out] at hy
                injection hy with hy
                rw [← hy, ex, eqIP_symm]
              obtain ⟨gx, ox, ti, rfl, hti, hcti⟩ := (HXf.out.below hbf).at_ hlti
              obtain ⟨gx', ox', tk, hA, htk, hctk⟩ := (HXf.out.below hbf).at_ hltk
              injection hA with hA; injection hA with e1 e2; subst e1 e2
              obtain rfl : ti = ipText bi := by rw [List.getElem?_map, Hbi2.out] at hti; injection hti with hti; exact hti.symm
              obtain rfl : tk = ipText bk := by rw [List.getElem?_map, hbk2] at htk; injection htk with htk; exact htk.symm
              obtain ⟨gl, ol, P1, p1, q1, li, rfl, hli, hcli, hrli⟩ := (HLf.out.below hbf).at_ hlti
              obtain ⟨gl', ol', P2, p2, q2, lk, hA, hlk, hclk, hrlk⟩ := (HLf.out.below hbf).at_ hltk
              injection hA with hA; injection hA with e1 e2; subst e1 e2
              obtain rfl : li = longOf bi := by unfold to16Ls at hli; rw [List.getElem?_map, Hbi2.out] at hli; injection hli with hli; rw [← hli, to16L_long hbim]
              obtain rfl : lk = longOf bk := by unfold to16Ls at hlk; rw [List.getElem?_map, hbk2] at hlk; injection hlk with hlk; rw [← hlk, to16L_long hbkm]
              have hsm := fun n => same_any P1 P2 p1 q1 p2 q2 (longOf bi) (longOf bk) (wr.drewN n) no no (hrli.drewN n) (hrlk.drewN n)
              rw [show eqL (longOf bi) (longOf bk) = x from ex.symm] at hsm
              have Hsm := hide hsm
              have hes : x = true → eqL yi yk = true := fun h => by rw [eyi, eyk]; exact eqIP_rows (List.mem_of_getElem? hbk2) (List.mem_of_getElem? Hbi2.out) (by rw [← ex]; exact h)
              have htx : (x = true → ipText bi = ipText bk) ∧ (x = false → (ipText bi == ipText bk) = false) := ⟨fun h => (ipText_inj bi bk hbim hbkm).2 ((eqIP_iff bi bk).1 (by rw [← ex]; exact h)), fun h => text_ne hbim hbkm (by rw [← ex]; exact h)⟩
              subst ey
              have i1 : (0 : Int) ≤ k := by omega
              have i3 : (k : Int) < al.length := by omega
              have Hes := hide hes
              have Hsy := hide hsy
              have Htx := hide htx
              clear hF hyi hri hyk hrk hbk2 eyi eyk hsy hx hy ex hbk hes htx hsm hti htk hli hlk hrli hrlk hbim hbkm hbf
              cases y with
              | true =>
                have hse := Hsy.out
                rw [Hes.out rfl] at hse
                have Hse := hide hse
                have htt := Htx.out.1 rfl
                rw [htt] at hcti
                generalize ipText bk = tt at *
                clear hse htt Hsy Htx
                go_wp2_with fail
                go_quiet ((go_at_call 16; exact Calls.quiet_of (Hsm.out _)))
                go_wp2_with fail
                have Hs3 := hide (fun n => Hse.out nq n)
                have Hbz := hide (below_drewN Hbk.out nq)
                have zi := (World.cell?_of_block (w := wr) (w' := wr.drewN nq) rfl).trans hci
                have zk := (World.cell?_of_block (w := wr) (w' := wr.drewN nq) rfl).trans hck
                have zx := (World.cell?_of_block (w := wr) (w' := wr.drewN nq) rfl).trans hcx
                clear Hse hci hck hcx hcy hcti hctk hcli hclk Hsm
                generalize wr.drewN nq = wz at *
                go_quiet ((go_at_call 27; exact Calls.quiet_of (Hs3.out _)))
                go_wp2_with fail
                go_roundw
                case rel => exact ⟨k + 1, by omega, by go_num, below_drewN Hbz.out _⟩
                case measure => simp [intOf]; omega
              | false =>
                have htt := Htx.out.2 rfl
                generalize ipText bk = tt at *
                generalize ipText bi = ti at *
                clear Hsy Htx
                go_wp2_with fail
                go_quiet ((go_at_call 16; exact Calls.quiet_of (Hsm.out _)))
                go_wp2_with fail
                go_quiet (fail)
                go_wp2_with fail
                go_roundw
                case rel => exact ⟨k + 1, by omega, by go_num, by first | exact below_drewN Hbk.out _ | exact below_drewN (below_drewN Hbk.out _) _⟩
                case measure => simp [intOf]; omega
            · clear hbk
              go_wp2_with fail
              go_roundw
              case rel => exact ⟨i + 1, by omega, by go_num, Hbi.out.trans (Hbk.out.mono Hbi.out.size)⟩
              case measure => simp [intOf]; omega
        · go_wp2_with fail
          go_ret
          exact ⟨rfl, Hbwf.out.trans (Hbi.out.mono Hbwf.out.size)⟩
end Go.Proofs.YtmfcgglgolajnaaDoor
