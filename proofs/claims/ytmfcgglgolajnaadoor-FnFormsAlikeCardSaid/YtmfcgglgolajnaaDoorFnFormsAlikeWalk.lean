/-
  The walk of FnFormsAlike.
-/
import Derived.Test.YtmfcgglgolajnaaDoorMH
import Derived.Test.YtmfcgglgolajnaaDoorMG
import Derived.Test.YtmfcgglgolajnaaDoorMText
import Derived.Test.YtmfcgglgolajnaaDoorMB
namespace Go.Proofs.YtmfcgglgolajnaaDoor
open Go.RowKit
set_option linter.unusedVariables false

/-- Another form of the same address. -/
def Like (o b : List UInt8) : Prop := (o.length = 4 ∨ o.length = 16) ∧ longOf o = longOf b
theorem like_self {b : List UInt8} (h : b.length = 4 ∨ b.length = 16) : Like b b := ⟨h, rfl⟩
theorem like_long {b : List UInt8} (h : b.length = 4 ∨ b.length = 16) : Like (to16L b) b := by
  have e : to16L b = longOf b := by
    unfold to16L longOf
    rcases h with h | h
    · rw [if_pos h, if_pos h]
    · rw [if_neg (show ¬ b.length = 4 by omega), if_pos h, if_neg (show ¬ b.length = 4 by omega)]
  have hl := longOf_length h
  refine ⟨Or.inr (by rw [e]; exact hl), ?_⟩
  rw [e]
  show (if (longOf b).length = 4 then pre12 ++ longOf b else longOf b) = longOf b
  rw [if_neg (by omega)]
theorem like_short {b : List UInt8} (h : b.length = 4 ∨ b.length = 16) (h4 : (to4L b).length = 4) : Like (to4L b) b := by
  refine ⟨Or.inl h4, ?_⟩
  rcases h with h | h
  · unfold to4L; rw [if_pos h]
  · by_cases hm : mapd b = true
    · have e : to4L b = b.drop 12 := by unfold to4L; rw [if_neg (by omega), if_pos ⟨h, hm⟩]
      rw [e] at h4 ⊢
      have e2 : longOf b = b := by unfold longOf; rw [if_neg (by omega)]
      rw [e2]
      show (if (b.drop 12).length = 4 then pre12 ++ b.drop 12 else b.drop 12) = b
      rw [if_pos h4]
      match b, h, hm with
      | [x0, x1, x2, x3, x4, x5, x6, x7, x8, x9, x10, x11, x12, x13, x14, x15], _, hm => exact (mapd_is _ _ _ _ _ _ _ _ _ _ _ _ _ _ _ _ hm).symm
    · exfalso
      unfold to4L at h4
      rw [if_neg (by omega), if_neg (by simp [hm])] at h4
      simp at h4
theorem Like.text {o b : List UInt8} (h : Like o b) (hb : b.length = 4 ∨ b.length = 16) : ipText o = ipText b := (ipText_inj o b h.1 hb).2 h.2
theorem Like.eq {o b : List UInt8} (h : Like o b) : eqIP b o = true := eqL_iff.2 h.2.symm

/-- The list so far: as many, each of them another form. -/
def OthOk (al oth : List (List UInt8)) (k : Nat) : Prop := oth.length = k ∧ ∀ (j : Nat) (o b : List UInt8), oth[j]? = some o → al[j]? = some b → Like o b
theorem OthOk.nil (al : List (List UInt8)) : OthOk al [] 0 := ⟨rfl, fun j o b h => by simp at h⟩
theorem OthOk.snoc {al oth : List (List UInt8)} {k : Nat} {o b : List UInt8} (h : OthOk al oth k) (hb : al[k]? = some b) (hl : Like o b) : OthOk al (oth ++ [o]) (k + 1) := by
  refine ⟨by rw [List.length_append, h.1]; rfl, fun j o' b' ho hb' => ?_⟩
  by_cases hj : j < oth.length
  · rw [List.getElem?_append_left hj] at ho
    exact h.2 j o' b' ho hb'
  · have hj' : j = k := by
      have := (List.getElem?_eq_some_iff.1 ho).1
      have := h.1
      simp at *; omega
    subst hj'
    rw [← h.1] at ho
    simp at ho
    rw [hb] at hb'
    injection hb' with hb'
    subst ho hb'
    exact hl
theorem OthOk.texts {al oth : List (List UInt8)} (h : OthOk al oth al.length) (hall : ∀ b ∈ al, b.length = 4 ∨ b.length = 16) : oth.map ipText = al.map ipText := by
  refine List.ext_getElem (by rw [List.length_map, List.length_map, h.1]) fun j h1 h2 => ?_
  rw [List.length_map] at h1 h2
  rw [List.getElem_map, List.getElem_map]
  exact (h.2 j _ _ (List.getElem?_eq_getElem h1) (List.getElem?_eq_getElem h2)).text (hall _ (List.getElem_mem h2))
theorem OthOk.all {al oth : List (List UInt8)} (h : OthOk al oth al.length) : ∀ o ∈ oth, o.length = 4 ∨ o.length = 16 := fun o ho => by
  obtain ⟨j, hj, e⟩ := List.mem_iff_getElem.1 ho
  have hj2 : j < al.length := by rw [← h.1]; exact hj
  exact (h.2 j o _ (by rw [List.getElem?_eq_getElem hj, e]) (List.getElem?_eq_getElem hj2)).1
theorem OthOk.yes {al oth : List (List UInt8)} (h : OthOk al oth al.length) : mYes oth = mYes al := by
  unfold mYes
  refine List.ext_getElem (by rw [List.length_map, List.length_map, h.1]) fun j h1 h2 => by rw [List.getElem_map, List.getElem_map]

set_option maxRecDepth 100000 in
set_option maxHeartbeats 6400000 in
theorem fnFormsAlike_walk (w : World) (hp : PreIs w) (g4 o4 g6 o6 : Nat) (hz : ZX w g4 o4 g6 o6) (a0 : Option Addr) (n0 c0 : Nat) (b0 : List (List UInt8)) (w0 : RBB w no a0 n0 c0 b0) (r0 : c0 * 24 ≤ 140737488351232) (l0 : ∀ b ∈ b0, b.length ≤ 140737488351232) (a1 : Option Addr) (n1 c1 : Nat) (b1 : List Bool) (w1 : RL w no a1 n1 c1 b1) (r1 : c1 ≤ 140737488351232) :
    Calls Tryd.prog 8 #[.slice a0 n0 c0, .slice a1 n1 c1] w fun e w' => e = .returned (.bool true) ∧ Below w.heap.size w w' := by
  obtain ⟨i0, hinf, hz0, hz1, hz2⟩ := info_parts bytes_info
  have k0 := w0.cap
  have k1 := w1.cap
  have Hz := hide hz
  have Hp := hide hp
  have HT := hide w1
  have Hf := hide (fAddresses_any a0 n0 c0 b0 w w0 (by omega))
  have Hall : Hid (∀ b ∈ fAddrL b0, b.length = 4 ∨ b.length = 16) := hide (fun b hb => fAddrL_mem hb)
  have hle : (fAddrL b0).length ≤ n0 := by
    have := fAddrL_le b0 n0
    rwa [List.take_of_length_le (by rw [w0.len]; omega)] at this
  generalize fAddrL b0 = al at *
  clear w0 hp hz l0 w1
  go_enter Tryd.func8, Tryd.ntmps8
  go_wp2_with fail
  with_reducible refine Hf.out.mono ?_
  rintro e wa ⟨A1, d1, rfl, h1, hb1⟩
  have Hs := hide (to4Each_any A1 al.length d1 al wa no h1.free (fun b hb => by have := Hall.out b hb; omega) (by omega) (Hp.out.below hb1))
  have H1 := hide h1.free
  have Hb1 := hide hb1
  clear h1 hb1 Hf
  go_wp2_with fail
  with_reducible refine Hs.out.mono ?_
  rintro e wb ⟨A2, d2, rfl, h2, hb2⟩
  have hl2 : (to4Ls al).length = al.length := by unfold to4Ls; exact List.length_map _
  rw [hl2] at h2 ⊢
  have hbw2 := Hb1.out.trans (hb2.mono Hb1.out.size)
  have H1b := hide (H1.out.below hb2)
  have Ht := hide (to16Each_any A1 al.length d1 al wb no (H1.out.below hb2) (fun b hb => by have := Hall.out b hb; omega) (by omega) (Hp.out.below hbw2))
  have H2 := hide h2.free
  have Hbw2 := hide hbw2
  clear h2 hb2 hbw2 Hs H1 hl2
  go_wp2_with fail
  with_reducible refine Ht.out.mono ?_
  rintro e wd ⟨A3, d3, rfl, h3, hb3⟩
  have hl3 : (to16Ls al).length = al.length := by unfold to16Ls; exact List.length_map _
  rw [hl3] at h3 ⊢
  have hbwd := Hbw2.out.trans (hb3.mono Hbw2.out.size)
  have HG := hide (H1b.out.below hb3)
  have HS := hide (H2.out.below hb3)
  have HL := hide h3.free
  have Hbwd := hide hbwd
  have HTd := hide (HT.out.below hbwd)
  have Hst := hide (Made.start (fun g => g < wd.heap.size) wd)
  have hne : ((al.length : Int) != (al.length : Int)) = false := by simp
  clear h3 hb3 hbwd Ht H1b H2 hl3 HT
  go_wp2_with fail
  go_loopw [8, 39] (fun v i wr => ∃ (k : Nat) (oth : List (List UInt8)), k ≤ al.length ∧ i = .int .i64 (k : Int) ∧ OthOk al oth k ∧ Made (fun g => g < wd.heap.size) wd oth v wr) (fun _ i _ => al.length - (intOf i).toNat)
  case atStart => exact ⟨0, [], Nat.zero_le _, rfl, OthOk.nil _, Hst.out⟩
  case round =>
    obtain ⟨k, oth, hk, rfl, hok, hr⟩ := hrel
    have Hok := hide hok
    have Hr := hide hr
    by_cases hlt : k < al.length
    · obtain ⟨xs, h1, h2, h3⟩ := hr
      obtain ⟨g, o, B, mb, f, b, rfl, hbk, hc, hb⟩ := (HG.out.below h3).at_ hlt
      have hbm := Hall.out b (List.mem_of_getElem? hbk)
      obtain ⟨gs, os, Bs, ms, fs, bs, rfl, hbs, hcs, hrs⟩ := (HS.out.below h3).at_ hlt
      obtain ⟨gl, ol, Bl, ml, fl, bl, rfl, hbl, hcl, hrl⟩ := (HL.out.below h3).at_ hlt
      obtain rfl : bs = to4L b := by unfold to4Ls at hbs; rw [List.getElem?_map, hbk] at hbs; injection hbs with hbs; exact hbs.symm
      obtain rfl : bl = to16L b := by unfold to16Ls at hbl; rw [List.getElem?_map, hbk] at hbl; injection hbl with hbl; exact hbl.symm
      have hms : ms ≤ 16 := by rw [← hrs.len]; exact to4L_le b
      have hml : ml ≤ 16 := by rw [← hrl.len]; exact to16L_le b
      have hmb : mb ≤ 16 := by have := hb.len; omega
      have Hms := hide hrs.len
      have hol := hok.1
      rw [hol] at h1
      have Hol := hide hol
      have Hbk := hide hbk
      have Hbm := hide hbm
      have H1 := hide h1
      have H2 := hide h2
      have H3 := hide h3
      have Hc1 := hide (copied_own B mb f b wr no hb (by omega))
      have Hc2 := hide (copied_own Bs ms fs _ wr no hrs (by omega))
      have Hc3 := hide (copied_own Bl ml fl _ wr no hrl (by omega))
      have hsz := h3.size
      have Hown : Hid (∀ g, (g < wd.heap.size ∨ rowOf u8 g) → g < wr.heap.size) := hide (fun g hg => hg.elim (fun h => by omega) (fun h => (h1.lt g h).2))
      have i1 : (0 : Int) ≤ k := by omega
      have i2 : (k : Int) < al.length := by omega
      clear hb hbk h1 h2 h3 hbs hbl hrs hrl hok hbm Hr hol
      by_cases ht : n1 ≤ k
      · have t1 : (n1 : Int) ≤ (k : Int) := by omega
        have Hlk := hide (like_self Hbm.out)
        clear Hc2 Hc3 ht
        go_wp2_with fail
        with_reducible refine Hc1.out.mono ?_
        rintro e w1 ⟨vc, rfl, hcv, hcb⟩
        obtain ⟨Ac, cc, rfl, hrb⟩ := RB.of_own_av (av := fun g => g < wd.heap.size ∨ rowOf u8 g) hcv Hown.out
        have h1' := own_below H1.out hcb
        have h2' := H2.out.keep (Kept.of_below hcb _)
        have h3' := H3.out.trans (hcb.mono H3.out.size)
        have hsz1 := hcb.size
        have Ho := hide (h1'.alloc (.cells #[.slice Ac mb cc] 22))
        rw [← Hol.out] at h1'
        have Hf := hide (fun v' w' => Made.step (v' := v') (w' := w') h1' h2' h3' hrb)
        rw [Hol.out] at Hf
        clear h1' h2' h3' hrb hcv hcb
        go_wp2_with (at_builtin; refine wpList_append_rd _ rfl (.tmp 57) (.tmp 60) _ rfl wd.heap.size 22 i0 _ 24 Tryd.underlying27 hinf hz0 hz1 hz2 rfl _ k _ rfl Ho.out no (some ⟨w1.heap.size, 0, none⟩) 1 1 [.slice Ac mb cc] rfl ?p1 ?p2 ?p3 ?p4 ?p5 ?_)
        case p1 => exact Rd.one w1 _ _ no (fun h => h)
        case p2 => intro u hu; simp at hu; subst hu; rfl
        case p3 => unfold maxLen; omega
        case p4 => omega
        case p5 => simp; omega
        intro v' w2 q1 q2 q3
        have Hs := hide (Hf.out v' w2 q1 q2 q3)
        clear q1 q2 q3
        go_wp2_with fail
        go_roundw
        case rel => exact ⟨k + 1, _, by omega, by go_num, Hok.out.snoc Hbk.out Hlk.out, Hs.out⟩
        case measure => simp [intOf]; omega
      · have t1 : ¬ ((n1 : Int) ≤ (k : Int)) := by omega
        obtain ⟨gt, ot, y, rfl, hy, hcy⟩ := (HTd.out.below H3.out).at_ (k := k) (by omega)
        have t2 : (k : Int) < n1 := by omega
        clear hy Hc1 ht
        by_cases hcase : y = true ∧ ms = 4
        · obtain ⟨rfl, rfl⟩ := hcase
          have Hlk := hide (like_short Hbm.out Hms.out)
          clear Hc3
          go_wp2_with fail
          with_reducible refine Hc2.out.mono ?_
          rintro e w1 ⟨vc, rfl, hcv, hcb⟩
          obtain ⟨Ac, cc, rfl, hrb⟩ := RB.of_own_av (av := fun g => g < wd.heap.size ∨ rowOf u8 g) hcv Hown.out
          have h1' := own_below H1.out hcb
          have h2' := H2.out.keep (Kept.of_below hcb _)
          have h3' := H3.out.trans (hcb.mono H3.out.size)
          have hsz1 := hcb.size
          have Ho := hide (h1'.alloc (.cells #[.slice Ac 4 cc] 22))
          rw [← Hol.out] at h1'
          have Hf := hide (fun v' w' => Made.step (v' := v') (w' := w') h1' h2' h3' hrb)
          rw [Hol.out] at Hf
          clear h1' h2' h3' hrb hcv hcb
          go_wp2_with (at_builtin; refine wpList_append_rd _ rfl (.tmp 75) (.tmp 81) _ rfl wd.heap.size 22 i0 _ 24 Tryd.underlying27 hinf hz0 hz1 hz2 rfl _ k _ rfl Ho.out no (some ⟨w1.heap.size, 0, none⟩) 1 1 [.slice Ac 4 cc] rfl ?p1 ?p2 ?p3 ?p4 ?p5 ?_)
          case p1 => exact Rd.one w1 _ _ no (fun h => h)
          case p2 => intro u hu; simp at hu; subst hu; rfl
          case p3 => unfold maxLen; omega
          case p4 => omega
          case p5 => simp; omega
          intro v' w2 q1 q2 q3
          have Hs := hide (Hf.out v' w2 q1 q2 q3)
          clear q1 q2 q3
          go_wp2_with fail
          go_roundw
          case rel => exact ⟨k + 1, _, by omega, by go_num, Hok.out.snoc Hbk.out Hlk.out, Hs.out⟩
          case measure => simp [intOf]; omega
        · have hcase2 : y = false ∨ y = true ∧ ((ms : Int) == 4) = false := by
            cases y with
            | false => exact Or.inl rfl
            | true => exact Or.inr ⟨rfl, by rw [beq_eq_false_iff_ne]; intro e; exact hcase ⟨rfl, by omega⟩⟩
          have Hlk := hide (like_long Hbm.out)
          clear Hc2 hcase
          rcases hcase2 with rfl | ⟨rfl, t3⟩
          all_goals
            go_wp2_with fail
            with_reducible refine Hc3.out.mono ?_
            rintro e w1 ⟨vc, rfl, hcv, hcb⟩
            obtain ⟨Ac, cc, rfl, hrb⟩ := RB.of_own_av (av := fun g => g < wd.heap.size ∨ rowOf u8 g) hcv Hown.out
            have h1' := own_below H1.out hcb
            have h2' := H2.out.keep (Kept.of_below hcb _)
            have h3' := H3.out.trans (hcb.mono H3.out.size)
            have hsz1 := hcb.size
            have Ho := hide (h1'.alloc (.cells #[.slice Ac ml cc] 22))
            rw [← Hol.out] at h1'
            have Hf := hide (fun v' w' => Made.step (v' := v') (w' := w') h1' h2' h3' hrb)
            rw [Hol.out] at Hf
            clear h1' h2' h3' hrb hcv hcb
            go_wp2_with (at_builtin; refine wpList_append_rd _ rfl (.tmp 44) (.tmp 50) _ rfl wd.heap.size 22 i0 _ 24 Tryd.underlying27 hinf hz0 hz1 hz2 rfl _ k _ rfl Ho.out no (some ⟨w1.heap.size, 0, none⟩) 1 1 [.slice Ac ml cc] rfl ?p1 ?p2 ?p3 ?p4 ?p5 ?_)
            case p1 => exact Rd.one w1 _ _ no (fun h => h)
            case p2 => intro u hu; simp at hu; subst hu; rfl
            case p3 => unfold maxLen; omega
            case p4 => omega
            case p5 => simp; omega
            intro v' w2 q1 q2 q3
            have Hs := hide (Hf.out v' w2 q1 q2 q3)
            clear q1 q2 q3
            go_wp2_with fail
            go_roundw
            case rel => exact ⟨k + 1, _, by omega, by go_num, Hok.out.snoc Hbk.out Hlk.out, Hs.out⟩
            case measure => simp [intOf]; omega
    · obtain rfl : k = al.length := by omega
      obtain ⟨xs, h1, h2, h3⟩ := hr
      rw [hok.1] at h1
      obtain ⟨A4, d4, rfl, hF⟩ := RBB.of_own h1 h2.free
      have Hoall := hide hok.all
      have Htx := hide (hok.texts Hall.out)
      have Hys := hide hok.yes
      obtain ⟨wf, rfl⟩ : ∃ wf : World, wf = wr := ⟨_, rfl⟩
      have HF := hide hF
      have HGf := hide (HG.out.below h3)
      have Hbwf := hide (Hbwd.out.trans (h3.mono Hbwd.out.size))
      have Hm1 := hide (marshalEach_any A1 al.length d1 al wf g4 o4 g6 o6 (Hz.out.below Hbwf.out) HGf.out (by omega) Hall.out)
      clear h1 h2 h3 hF hok Hr HG HS HL HTd
      go_wp2_with fail
      with_reducible refine Hm1.out.mono ?_
      rintro e wg ⟨T1, e1, Y1, f1, rfl, ht1, hy1, hbg⟩
      have hbwg := Hbwf.out.trans (hbg.mono Hbwf.out.size)
      have Hm2 := hide (marshalEach_any A4 al.length d4 oth wg g4 o4 g6 o6 (Hz.out.below hbwg) (HF.out.below hbg) (by omega) Hoall.out)
      have HFg := hide (HF.out.below hbg)
      have HGg := hide (HGf.out.below hbg)
      have HT1 := hide ht1.free
      have HY1 := hide hy1.free
      have Hbwg := hide hbwg
      clear ht1 hy1 hbg hbwg Hm1 HF HGf
      go_wp2_with fail
      with_reducible refine Hm2.out.mono ?_
      rintro e wh ⟨T2, e2, Y2, f2, rfl, ht2, hy2, hbh⟩
      have hbwh := Hbwg.out.trans (hbh.mono Hbwg.out.size)
      have HFh := hide (HFg.out.below hbh)
      have HGh := hide (HGg.out.below hbh)
      have HT1h := hide (HT1.out.below hbh)
      have HY1h := hide (HY1.out.below hbh)
      have HT2 := hide ht2.free
      have HY2 := hide hy2.free
      have Hs1 := hide (stringEach_any A1 al.length d1 al wh g4 o4 g6 o6 (Hz.out.below hbwh) HGh.out (by omega) Hall.out)
      have Hbwh := hide hbwh
      clear ht2 hy2 hbh hbwh Hm2 HFg HGg HT1 HY1
      go_wp2_with fail
      with_reducible refine Hs1.out.mono ?_
      rintro e wi ⟨S1, s1, rfl, hs1, hbi⟩
      have hl4 : (al.map ipText).length = al.length := List.length_map _
      rw [hl4] at hs1 ⊢
      have hbwi := Hbwh.out.trans (hbi.mono Hbwh.out.size)
      have HFi := hide (HFh.out.below hbi)
      have HGi := hide (HGh.out.below hbi)
      have HT1i := hide (HT1h.out.below hbi)
      have HY1i := hide (HY1h.out.below hbi)
      have HT2i := hide (HT2.out.below hbi)
      have HY2i := hide (HY2.out.below hbi)
      have HS1 := hide hs1.free
      have Hs2 := hide (stringEach_any A4 al.length d4 oth wi g4 o4 g6 o6 (Hz.out.below hbwi) HFi.out (by omega) Hoall.out)
      rw [Htx.out] at Hs2
      have Hbwi := hide hbwi
      clear hs1 hbi hbwi hl4 Hs1 HFh HGh HT1h HY1h HT2 HY2
      go_wp2_with fail
      with_reducible refine Hs2.out.mono ?_
      rintro e wj ⟨S2, s2, rfl, hs2, hbj⟩
      have hl4 : (al.map ipText).length = al.length := List.length_map _
      rw [hl4] at hs2 ⊢
      have hbwj := Hbwi.out.trans (hbj.mono Hbwi.out.size)
      have HFj := hide (HFi.out.below hbj)
      have HGj := hide (HGi.out.below hbj)
      have Hq1 := hide (sameTexts_eq S1 S2 al.length s1 al.length s2 _ wj no no (HS1.out.below hbj) hs2.free)
      have ht2' := HT2i.out.below hbj
      unfold mTxt at ht2'
      rw [Htx.out] at ht2'
      have Hq2 := hide (fun q => sameTexts_eq T1 T2 al.length e1 al.length e2 _ (wj.drewN q) no no ((HT1i.out.below hbj).drewN q) (ht2'.drewN q))
      have hy2' := HY2i.out.below hbj
      rw [Hys.out] at hy2'
      have Hq3 := hide (fun q => sameYes_any Y1 Y2 al.length f1 al.length f2 _ _ (wj.drewN q) no no ((HY1i.out.below hbj).drewN q) (hy2'.drewN q))
      rw [show eqL (mYes al) (mYes al) = true from eqL_iff.2 rfl] at Hq3
      have Hbwj := hide hbwj
      clear hs2 hbj hbwj hl4 ht2' hy2' Hs2 HFi HGi HT1i HT2i HY1i HY2i HS1
      go_wp2_with fail
      with_reducible refine Hq1.out.mono ?_
      rintro e wx ⟨rfl, q, rfl⟩
      go_wp2_with fail
      with_reducible refine (Hq2.out q).mono ?_
      rintro e wx ⟨rfl, q', rfl⟩
      rw [World.drewN_drewN]
      go_wp2_with fail
      with_reducible refine (Hq3.out (q + q')).mono ?_
      rintro e wx ⟨rfl, q'', rfl⟩
      rw [World.drewN_drewN]
      obtain ⟨wy, hwy⟩ : ∃ wy, wy = wj.drewN (q + q' + q'') := ⟨_, rfl⟩
      have HFy : Hid (RBB wy no A4 al.length d4 oth) := hide (by rw [hwy]; exact HFj.out.drewN _)
      have HGy : Hid (RBB wy no A1 al.length d1 al) := hide (by rw [hwy]; exact HGj.out.drewN _)
      have Hbwy : Hid (Below w.heap.size w wy) := hide (by rw [hwy]; exact below_drewN Hbwj.out _)
      rw [← hwy]
      clear hwy Hq1 Hq2 Hq3 HFj HGj Hbwj
      go_wp2_with fail
      go_loopw [121] (fun i wx => ∃ k : Nat, k ≤ al.length ∧ i = .int .i64 (k : Int) ∧ Below wy.heap.size wy wx) (fun i _ => al.length - (intOf i).toNat)
      case atStart => exact ⟨0, Nat.zero_le _, rfl, Below.refl _ _⟩
      case round =>
        obtain ⟨k, hk', rfl, hbk⟩ := hrel
        have Hbk := hide hbk
        clear hbk
        by_cases hltk : k < al.length
        · obtain ⟨gg, og, B, mb, f, b, rfl, hbk2, hcb, hrb⟩ := (HGy.out.below Hbk.out).at_ hltk
          obtain ⟨gf, of, B2, m2, f2', o, rfl, hok2, hco, hro⟩ := (HFy.out.below Hbk.out).at_ hltk
          have hbm := Hall.out b (List.mem_of_getElem? hbk2)
          have hom := Hoall.out o (List.mem_of_getElem? hok2)
          have hmb : mb = 4 ∨ mb = 16 := by rw [← hrb.len]; exact hbm
          have hm2 : m2 = 4 ∨ m2 = 16 := by rw [← hro.len]; exact hom
          have hlk := Hok.out.2 k o b hok2 hbk2
          have hpw := Hp.out.below (Hbwy.out.trans (Hbk.out.mono Hbwy.out.size))
          have Hc1 := hide (fun (W : World) (hW : Below wr.heap.size wr W) => (copied_own B mb f b W no (hrb.below hW) (by omega)).mono (fun e w' (h : ∃ v, e = .returned v ∧ w'.ownsRow W.heap.size 5 1 v mb (b.map fun x => .int .u8 (x.toNat : Int)) ∧ Below W.heap.size W w') => show ∃ A1 c1, e = .returned (.slice A1 mb c1) ∧ RB w' no A1 mb c1 b ∧ Below wr.heap.size wr w' from by
            obtain ⟨v, rfl, h2, h3⟩ := h
            obtain ⟨A1, c1, rfl, h4⟩ := RB.of_own h2
            exact ⟨A1, c1, rfl, h4, hW.trans (h3.mono hW.size)⟩))
          have Hc2 := hide (fun (W : World) (A1 : Option Addr) (c1 : Nat) (hW : Below wr.heap.size wr W) (h1 : RB W no A1 mb c1 b) => (copied_own B2 m2 f2' o W no (hro.below hW) (by omega)).mono (fun e w' (h : ∃ v, e = .returned v ∧ w'.ownsRow W.heap.size 5 1 v m2 (o.map fun x => .int .u8 (x.toNat : Int)) ∧ Below W.heap.size W w') => show ∃ A2 c2, e = .returned (.slice A2 m2 c2) ∧ RB w' no A2 m2 c2 o ∧ RB w' no A1 mb c1 b ∧ Below wr.heap.size wr w' from by
            obtain ⟨v, rfl, h2, h3⟩ := h
            obtain ⟨A2, c2, rfl, h4⟩ := RB.of_own h2
            exact ⟨A2, c2, rfl, h4, h1.below h3, hW.trans (h3.mono hW.size)⟩))
          have He := hide (fun (V : World) (A1 A2 : Option Addr) (c1 c2 : Nat) (hV : Below wr.heap.size wr V) (h2 : RB V no A2 m2 c2 o) (h1 : RB V no A1 mb c1 b) =>
            (equalEach_any A1 (some ⟨V.heap.size, 0, none⟩) mb c1 1 1 b [o] (V.alloc (.cells #[.slice A2 m2 c2] 22)) (h1.alloc _) (RBB.one 22 h2) hmb (by intro x hx; simp at hx; subst hx; exact hom) (by omega) (hpw.below (hV.alloc hV.size _))).mono (fun e w' (h : RetL (V.alloc (.cells #[.slice A2 m2 c2] 22)) ([o].map (eqIP b)) e w') => show ∃ g' o' c', e = .returned (.slice (some ⟨g', o', none⟩) 1 c') ∧ w'.cell? ⟨g', o', none⟩ = some (.bool true) ∧ Below wr.heap.size wr w' from by
              obtain ⟨A', c', rfl, h3, h4⟩ := h
              obtain ⟨g', o', x, rfl, hx, hcx⟩ := h3.at_ (k := 0) (by simp)
              have hx1 : x = true := by simp [hlk.eq] at hx; exact hx
              subst hx1
              have hV2 := hV.alloc hV.size (.cells #[.slice A2 m2 c2] 22)
              exact ⟨g', o', c', rfl, hcx, hV2.trans (h4.mono hV2.size)⟩))
          have Hk := hide (fun (W : World) (hW : Below wr.heap.size wr W) => show Below wr.heap.size wr W ∧ W.cell? ⟨gf, of + k, none⟩ = some (.slice B2 m2 f2') from ⟨hW, cell_below hco hW⟩)
          have Hal := hide (fun (W : World) (o : Obj) (hW : Below wr.heap.size wr W) => hW.alloc hW.size o)
          have hd0 : Below wr.heap.size wr wr.drew := (Below.refl _ _).drew
          have i1 : (0 : Int) ≤ k := by omega
          have i2 : (k : Int) < al.length := by omega
          clear hrb hro hbk2 hok2 hbm hom hmb hm2 hlk hpw
          go_wp2_with fail
          go_region_held3 (fun W => Below wr.heap.size wr W ∧ W.cell? ⟨gf, of + k, none⟩ = some (.slice B2 m2 f2')) (first | exact Hk.out _ (by assumption) | exact Hk.out _ (Hal.out _ _ (by assumption)))
            (first
              | (go_at_call 12; with_reducible refine (Hc1.out _ ?_).mono ?_; (assumption); rintro e v1 ⟨A1', c1', rfl, hr1, hb1'⟩)
              | (go_at_call 12; go_must (with_reducible refine (Hc2.out _ _ _ hb1' hr1).mono ?_); rintro e v2 ⟨A2', c2', rfl, hr2, hr1', hb2'⟩)
              | (go_at_call 13; go_must (with_reducible refine (He.out _ _ _ _ _ hb2' hr2 hr1').mono ?_); rintro e v3 ⟨g', o', c', rfl, hcx, hb3'⟩))
          go_wp2_with fail
          go_roundw
          case rel => exact ⟨k + 1, by omega, by go_num, Hbk.out.trans (hb3'.mono Hbk.out.size)⟩
          case measure => simp [intOf]; omega
        · go_wp2_with fail
          go_ret
          exact ⟨rfl, Hbwy.out.trans (Hbk.out.mono Hbwy.out.size)⟩
end Go.Proofs.YtmfcgglgolajnaaDoor
