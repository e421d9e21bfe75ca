/-
  The walk of FnSameNets.
-/
import Derived.Test.YtknajppjgdhbfaaConEach
import Derived.Test.YtknajppjgdhbfaaAlike
import Derived.Test.YtknajppjgdhbfaaBools
namespace Go.Proofs.Ytknajppjgdhbfaa
open Go.RowKit
set_option linter.unusedVariables false

theorem bools_info : (Try.prog.info? 25).map (fun i => (i.zero, i.size, i.bytes)) = some (some (.slice none 0 0), 1, 24) := by kernel_rfl

def netRows (al : List (List UInt8)) (ms : List UInt8) (k : Nat) : List (List Bool) := (al.take k).map fun b => al.map (inNet b ms)
theorem netRows_snoc {al : List (List UInt8)} {ms b : List UInt8} {k : Nat} (h : al[k]? = some b) : netRows al ms (k + 1) = netRows al ms k ++ [al.map (inNet b ms)] := by
  unfold netRows; rw [take_snoc h]; simp
theorem netRows_length {al : List (List UInt8)} {ms : List UInt8} {k : Nat} (h : k ≤ al.length) : (netRows al ms k).length = k := by
  unfold netRows; simp; omega
theorem netRows_at {al : List (List UInt8)} {ms b : List UInt8} {i : Nat} {ys : List Bool} (hb : al[i]? = some b) (hy : (netRows al ms al.length)[i]? = some ys) : ys = al.map (inNet b ms) := by
  unfold netRows at hy
  rw [List.take_of_length_le (Nat.le_refl _), List.getElem?_map, hb] at hy
  injection hy with hy
  exact hy.symm

set_option maxHeartbeats 3200000 in
theorem fnSameNets_walk (w : World) (a0 : Option Addr) (n0 c0 : Nat) (b0 : List (List UInt8)) (w0 : RBB w none a0 n0 c0 b0) (r0 : c0 * 24 ≤ 140737488351232) (l0 : ∀ b ∈ b0, b.length ≤ 140737488351232)
    (a1 : Option Addr) (n1 c1 : Nat) (b1 : List UInt8) (w1 : RB w none a1 n1 c1 b1) (r1 : c1 ≤ 140737488351232) :
    Calls Try.prog 6 #[.slice a0 n0 c0, .slice a1 n1 c1] w fun e w' => e = .returned (.bool true) ∧ Below w.heap.size w w' := by
  obtain ⟨i0, hi, hz0, hz1, hz2⟩ := info_parts bools_info
  have W0 := hide w0
  have W1 := hide w1
  have k0 := w0.cap
  have k1 := w1.cap
  have Hcall := hide (alike_any a0 n0 c0 n1 b0 w w0 (by omega) l0)
  clear w0 w1 l0
  go_enter Try.func6, Try.ntmps6
  go_wp2_with fail
  with_reducible refine Hcall.out.mono ?_
  rintro e v1 ⟨A1, d1, rfl, h1, hb1⟩
  have hall : ∀ b ∈ alikeL b0 n1, b.length = n1 ∧ (n1 = 4 ∨ n1 = 16) ∧ mapd b = false := fun b hb => alikeL_mem hb
  have hle : (alikeL b0 n1).length ≤ n0 := by
    have := List.length_filter_le (goodA n1) b0
    have h3 := W0.out.len
    unfold alikeL; omega
  generalize alikeL b0 n1 = al at *
  have Hall := hide hall
  have Hb1 := hide hb1
  have H1 := hide h1
  clear hall hb1 h1 Hcall
  have Hst : Hid (MadeL v1 [] (.slice none 0 0) v1) := hide ⟨[], World.ownsRow_nil v1 _ _ _, EachL.nil, Below.refl _ _⟩
  go_wp2_with fail
  go_loopw [6, 18] (fun v i wr => ∃ k : Nat, k ≤ al.length ∧ i = .int .i64 k ∧ MadeL v1 (netRows al b1 k) v wr) (fun _ i _ => al.length - (intOf i).toNat)
  case atStart => exact ⟨0, Nat.zero_le _, rfl, Hst.out⟩
  case round =>
    obtain ⟨k, hk, rfl, hr⟩ := hrel
    have Hr := hide hr
    by_cases hlt : k < al.length
    · obtain ⟨xs, hr1, hr2, hr3⟩ := hr
      obtain ⟨g, o, B, m, f, b, rfl, hbk, hc, hb⟩ := (H1.out.below hr3).at_ hlt
      have hmem := Hall.out b (List.mem_of_getElem? hbk)
      obtain rfl : m = n1 := by rw [← hb.len]; exact hmem.1
      have hbw : Below w.heap.size w wr := Hb1.out.trans (hr3.mono Hb1.out.size)
      have Hcall := hide (containsEach_new B a1 _ m f c1 al.length d1 b b1 al wr hb (W1.out.below hbw) (H1.out.below hr3) hmem.2.1 hmem.2.2 (fun b hb => ⟨(Hall.out b hb).1, (Hall.out b hb).2.2⟩) (by omega))
      have Hbk := hide hbk
      have Hr1 := hide hr1
      have Hr2 := hide hr2
      have Hr3 := hide hr3
      have Hown := hide (fun g hg => (hr1.lt g hg).2)
      have hsz := hr3.size
      have hkl := netRows_length (ms := b1) hk
      have Hkl := hide hkl
      clear hb hmem hbk hr1 hr2 hr3 hbw hkl
      go_wp2_with fail
      with_reducible refine Hcall.out.mono ?_
      rintro e v2 ⟨A2, d2, rfl, h2, hb2⟩
      have hlen : (al.map (inNet b b1)).length = al.length := List.length_map _
      rw [hlen] at h2 ⊢
      obtain ⟨g2, o2, x, rfl, hx, hcx⟩ := (h2 none (by simp)).at_ hlt
      have hx1 : x = true := by
        rw [List.getElem?_map, Hbk.out] at hx
        injection hx with hx
        rw [← hx]; exact inNet_refl b b1
      subst hx1
      have hne : ((al.length : Int) != (al.length : Int)) = false := by simp
      have i1 : (0 : Int) ≤ k := by omega
      have hsz2 := hb2.size
      have h1' := own_below Hr1.out hb2
      have h2' := Hr2.out.keep (Kept.of_below hb2 _)
      have h3' := Hr3.out.trans (hb2.mono Hr3.out.size)
      have hrb := h2 _ Hown.out
      have Ho := hide (h1'.alloc (.cells #[.slice (some ⟨g2, o2, none⟩) al.length d2] 25))
      have Hf := hide (fun v' w' => MadeL.step (v' := v') (w' := w') h1' h2' h3' hrb)
      rw [Hkl.out] at Ho Hf
      clear h1' h2' h3' hrb h2 hb2 hlen hx
      go_wp2_with (at_builtin; refine wpList_append_rd _ rfl (.tmp 39) (.tmp 41) _ rfl v1.heap.size 25 i0 _ 24 Try.underlying32 hi hz0 hz1 hz2 rfl _ k _ rfl Ho.out none (some ⟨v2.heap.size, 0, none⟩) 1 1 [.slice (some ⟨g2, o2, none⟩) al.length d2] rfl ?_ ?_ ?_ ?_ ?_ ?_)
      · exact Rd.one v2 _ _ none (by simp)
      · intro u hu; simp at hu; subst hu; rfl
      · unfold maxLen; omega
      · omega
      · simp; omega
      intro v' w2 h1 h2 h3
      have Hs := hide (Hf.out v' w2 h1 h2 h3)
      rw [← netRows_snoc Hbk.out] at Hs
      clear h1 h2 h3
      go_wp2_with fail
      go_roundw
      case rel => exact ⟨k + 1, by omega, by go_num, Hs.out⟩
      case measure => simp [intOf]; omega
    · obtain rfl : k = al.length := by omega
      obtain ⟨xs, hr1, hr2, hr3⟩ := hr
      rw [netRows_length (Nat.le_refl _)] at hr1
      obtain ⟨A3, d3, rfl, hF⟩ := RLL.of_own hr1 hr2.free
      have HF := hide hF
      have Hr3 := hide hr3
      have hsz := hr3.size
      clear hr1 hr2 hr3 hF Hr
      obtain ⟨wf, rfl⟩ : ∃ wf : World, wf = wr := ⟨_, rfl⟩
      go_wp2_with fail
      go_loopw [46] (fun i wx => ∃ k : Nat, k ≤ al.length ∧ i = .int .i64 k ∧ Below wf.heap.size wf wx) (fun i _ => al.length - (intOf i).toNat)
      case atStart => exact ⟨0, Nat.zero_le _, rfl, Below.refl _ _⟩
      case round =>
        obtain ⟨i, hi', rfl, hbi⟩ := hrel
        have Hbi := hide hbi
        obtain ⟨wo, rfl⟩ : ∃ wo : World, wo = wr := ⟨_, rfl⟩
        clear hbi
        by_cases hlti : i < al.length
        · go_wp2_with fail
          go_loopw [51] (fun i wx => ∃ k : Nat, k ≤ al.length ∧ i = .int .i64 k ∧ Below wo.heap.size wo wx) (fun i _ => al.length - (intOf i).toNat)
          case atStart => exact ⟨0, Nat.zero_le _, rfl, Below.refl _ _⟩
          case round =>
            obtain ⟨k, hk', rfl, hbk⟩ := hrel
            have Hbk := hide hbk
            by_cases hltk : k < al.length
            · have hF := (HF.out.below Hbi.out).below hbk
              obtain ⟨g, o, B, m, f, yi, rfl, hyi, hci, hri⟩ := hF.at_ hlti
              obtain ⟨g', o', B', m', f', yk, hA, hyk, hck, hrk⟩ := hF.at_ hltk
              injection hA with hA; injection hA with e1 e2; subst e1 e2
              obtain ⟨bi, hbi⟩ : ∃ b, al[i]? = some b := ⟨_, List.getElem?_eq_getElem hlti⟩
              obtain ⟨bk, hbk2⟩ : ∃ b, al[k]? = some b := ⟨_, List.getElem?_eq_getElem hltk⟩
              have eyi := netRows_at hbi hyi
              have eyk := netRows_at hbk2 hyk
              have hm : m = al.length := by rw [← hri.len, eyi, List.length_map]
              have hm' : m' = al.length := by rw [← hrk.len, eyk, List.length_map]
              subst hm hm'
              have hsame := fun n => sameYes_any B B' al.length f al.length f' yi yk (wr.drewN n) none none (hri.drewN n) (hrk.drewN n)
              obtain ⟨gi, oi, x, rfl, hx, hcx⟩ := hri.at_ hltk
              obtain ⟨gk, ok, y, rfl, hy, hcy⟩ := hrk.at_ hlti
              have ex : x = inNet bi b1 bk := by
                rw [eyi, List.getElem?_map, hbk2] at hx
                injection hx with hx
                exact hx.symm
              have ey : y = x := by
                rw [eyk, List.getElem?_map, hbi] at hy
                injection hy with hy
                rw [← hy, ex, inNet_symm]
              have es : eqL yi yk = x := by rw [eyi, eyk, inNet_rows (List.mem_of_getElem? hbk2), ex]
              rw [es] at hsame
              have Hsame := hide hsame
              subst ey
              have i1 : (0 : Int) ≤ k := by omega
              have i2 : (0 : Int) ≤ i := by omega
              have i3 : (k : Int) < al.length := by omega
              have i4 : (i : Int) < al.length := by omega
              clear hF hyi hri hyk hrk hbi hbk2 eyi eyk hsame hx hy ex es hbk
              cases y
              all_goals
                go_wp2_with fail
                go_quiet ((go_at_call 14; exact Calls.quiet_of (Hsame.out _)))
                go_wp2_with fail
                go_roundw
                case rel => exact ⟨k + 1, by omega, by go_num, below_drewN Hbk.out _⟩
                case measure => simp [intOf]; omega
            · clear hbk
              go_wp2_with fail
              go_roundw
              case rel => exact ⟨i + 1, by omega, by go_num, Hbi.out.trans (Hbk.out.mono Hbi.out.size)⟩
              case measure => simp [intOf]; omega
        · go_wp2_with fail
          go_ret
          exact ⟨rfl, (Hb1.out.trans (Hr3.out.mono Hb1.out.size)).trans (Hbi.out.mono (Nat.le_trans Hb1.out.size Hr3.out.size))⟩
end Go.Proofs.Ytknajppjgdhbfaa
