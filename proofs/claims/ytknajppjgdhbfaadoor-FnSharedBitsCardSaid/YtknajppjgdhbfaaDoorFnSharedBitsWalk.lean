/-
  The walk of FnSharedBits.
-/
import Derived.Test.YtknajppjgdhbfaaDoorShares
import Derived.Test.YtknajppjgdhbfaaDoorCopied
import Derived.Test.YtknajppjgdhbfaaDoorSame
import Derived.OpenShut
import Derived.RegionTactic
import Derived.Deep.DeepCutAuto
namespace Go.Proofs.YtknajppjgdhbfaaDoor
open Go.RowKit
set_option linter.unusedVariables false

theorem byteOfWf {z : Int} (h : (Lit.int .u8 z).wf = true) : ∃ x : UInt8, z = (x.toNat : Int) := by
  have hb := bounds_u8 h
  refine ⟨UInt8.ofNat z.toNat, ?_⟩
  rw [UInt8.toNat_ofNat']
  omega

set_option maxRecDepth 100000 in
set_option maxHeartbeats 6400000 in
theorem fnSharedBits_walk (w : World) (a0 : Option Addr) (n0 c0 : Nat) (b0 : List UInt8) (w0 : RB w no a0 n0 c0 b0) (r0 : c0 ≤ 140737488351232)
    (a1 : Option Addr) (n1 c1 : Nat) (b1 : List UInt8) (w1 : RB w no a1 n1 c1 b1) (r1 : c1 ≤ 140737488351232) (a2 : Int) (w2 : (Lit.int .u8 a2).wf = true) :
    Calls Tryd.prog 3 #[.slice a0 n0 c0, .slice a1 n1 c1, .int .u8 a2] w fun e w' => e = .returned (.bool true) ∧ Below w.heap.size w w' := by
  obtain ⟨i0, hi, hz0, hz1, hz2⟩ := info_parts bytes_info
  obtain ⟨j0, hj, hy0, hy1, hy2⟩ := info_parts byte_info
  obtain ⟨x2, rfl⟩ := byteOfWf w2
  by_cases hn : n0 = 4 ∨ n0 = 16
  rotate_left
  · have t1 : ((n0 : Int) != 4) = true := by rw [bne_iff_ne]; omega
    have t2 : ((n0 : Int) != 16) = true := by rw [bne_iff_ne]; omega
    go_enter Tryd.func3, Tryd.ntmps3
    go_wp2_with fail
    go_ret
    exact ⟨rfl, Below.refl _ _⟩
  have W0 := hide w0
  have W1 := hide w1
  have Hn := hide hn
  have k1 := w1.cap
  have hn16 : n0 ≤ 16 := by omega
  have hn0 : 0 < n0 := by omega
  have hx1 := lt_256 x2
  have hx2 : (0 : Int) ≤ (x2.toNat : Int) := by omega
  obtain ⟨N, hN, hN1, hN5⟩ : ∃ N : Nat, 1 + (x2.toNat : Int) % 5 = (N : Int) ∧ 1 ≤ N ∧ N ≤ 5 := ⟨1 + x2.toNat % 5, by omega, by omega, by omega⟩
  have hcase : ((n0 : Int) != 4) = false ∨ ((n0 : Int) != 4) = true ∧ ((n0 : Int) != 16) = false := by rcases hn with rfl | rfl <;> simp
  have hmk1 := fun W => run_make1 (P := Tryd.prog) 22 5 j0 (.int .u8 0) Tryd.underlying22 hj hy0 hy1 rfl n0 (by rw [hy2]; omega) (by omega) W
  have Hst := hide (Sh.start w n0)
  clear w0 w1 hn w2
  go_enter Tryd.func3, Tryd.ntmps3
  go_upto_region 1 with (fail)
  go_cut [23] (fun s23 wx => s23 = .bool false ∧ w = wx)
  case first =>
    rcases hcase with t1 | ⟨t1, t2⟩
    · go_wp2_with fail
      go_meet
      case rel => exact ⟨rfl, rfl⟩
    · go_wp2_with fail
      go_meet
      case rel => exact ⟨rfl, rfl⟩
  case rest =>
    obtain ⟨rfl, rfl⟩ := hcut
    clear hcase
    go_wp2_with fail
    go_loopw [8, 29] (fun v i wr => ∃ (k : Nat) (gs : List Nat), k ≤ N ∧ i = .int .i64 k ∧ Sh w n0 (List.replicate k (List.replicate n0 0)) v gs wr) (fun _ i _ => N - (intOf i).toNat)
    case atStart => exact ⟨0, [], Nat.zero_le _, rfl, Hst.out⟩
    case round =>
      obtain ⟨k, gs, hk, rfl, hr⟩ := hrel
      have Hr := hide hr
      by_cases hlt : k < N
      · have h1 := hr.row
        rw [List.length_replicate] at h1
        have Ho := hide (fun u => (h1.alloc (.cells (timesOf n0 (.int .u8 0)).toArray 5)).alloc (.cells #[u] 22))
        have hsz := hr.below.size
        have Hs : Hid (∀ v' w', _ → _ → _ → Sh w n0 (List.replicate k (List.replicate n0 0) ++ [List.replicate n0 0]) v' (gs ++ [wr.heap.size]) w') := hide fun v' w' q1 q2 q3 => hr.snoc (v' := v') (w' := w') q1 q2 q3
        clear hr h1
        generalize hrow : rowv n0 gs = rv at *
        go_wp2_with (at_builtin; refine wpList_append_rd _ rfl (.tmp 31) (.tmp 35) _ rfl w.heap.size 22 i0 _ 24 Tryd.underlying23 hi hz0 hz1 hz2 rfl _ k _ rfl (Ho.out _) no (some ⟨wr.heap.size + 1, 0, none⟩) 1 1 [.slice (some ⟨wr.heap.size, 0, none⟩) n0 n0] rfl ?_ ?_ ?_ ?_ ?_ ?_)
        · have h := Rd.one (wr.alloc (.cells (timesOf n0 (.int .u8 0)).toArray 5)) (.slice (some ⟨wr.heap.size, 0, none⟩) n0 n0) 22 no (fun h => h)
          rw [show (wr.alloc (.cells (timesOf n0 (.int .u8 0)).toArray 5)).heap.size = wr.heap.size + 1 by simp] at h
          exact h
        · intro u hu; simp at hu; subst hu; rfl
        · unfold maxLen; omega
        · omega
        · simp; omega
        intro v' w2 h1 h2 h3
        have Hs2 := hide (Hs.out v' w2 (by rw [List.length_replicate]; exact h1) h2 (by simpa using h3))
        rw [← List.replicate_succ'] at Hs2
        clear h1 h2 h3
        go_wp2_with fail
        go_roundw
        case rel => exact ⟨k + 1, _, by omega, by go_num, Hs2.out⟩
        case measure => simp [intOf]; omega
      · obtain rfl : k = N := by omega
        obtain ⟨gv, d, rfl, hgv⟩ : ∃ gv d, u8 = .slice (some ⟨gv, 0, none⟩) k d ∧ w.heap.size ≤ gv := by
          have h := hr.row
          rw [List.length_replicate] at h
          rcases h.2 with ⟨_, h''⟩ | ⟨g', cap', cur, h', h'', _⟩
          · omega
          · exact ⟨g', cap', h', h''⟩
        have hcap : k ≤ d ∧ d ≤ maxLen := by
          have h := hr.row
          rw [List.length_replicate] at h
          obtain ⟨A, c, e, q1, q2, _⟩ := Rd.of_own h
          injection e with _ _ e
          subst e
          exact ⟨q1, q2⟩
        have Hst2 : Hid (ShL w n0 k (ownerOf b1 k) gv d gs 0 wr) := hide ⟨_, hr, ShB.zero _ _ _, by simp, fun m hm => by rw [(List.mem_replicate.1 hm).2]; simp⟩
        obtain ⟨wo, rfl⟩ : ∃ wo : World, wo = wr := ⟨_, rfl⟩
        clear hr Hr
        go_wp2_with fail
        go_loopw [41] (fun i wr => ∃ K : Nat, K ≤ 8 * n0 ∧ i = .int .i64 K ∧ ShL w n0 k (ownerOf b1 k) gv d gs K wr) (fun i _ => 8 * n0 - (intOf i).toNat)
        case atStart => exact ⟨0, Nat.zero_le _, rfl, Hst2.out⟩
        case round =>
          obtain ⟨K, hK, rfl, hr⟩ := hrel
          have Hr := hide hr
          have hbw : Below w.heap.size w wr := hr.choose_spec.1.below
          by_cases hlt : K < 8 * n0
          · have hown := ownerOf_lt b1 K (show 0 < k by omega)
            obtain ⟨g, c, hc1, hc2, hfz, hs⟩ := hr.step hlt hown
            have Hs := hide hs
            have i1 : (K : Int) / 8 < n0 := by omega
            have i2 : (0 : Int) ≤ (K : Int) / 8 := by omega
            have i3 : (0 : Int) ≤ 7 - (K : Int) % 8 := by omega
            have i6 : (K : Int) < 8 * (n0 : Int) := by omega
            have hc3 := lt_256 c
            have Hor := hide (or_bit c (7 - K % 8) (by omega))
            by_cases hl1 : K < n1
            · obtain ⟨g1, o1, y, rfl, hy, hcy⟩ := (W1.out.below hbw).at_ hl1
              rw [ownerOf_some hy] at hown hc1
              have hy1 := lt_256 y
              have hy3 : (0 : Int) ≤ (y.toNat : Int) := by omega
              have hii : (y.toNat : Int) % (k : Int) = ((y.toNat % k : Nat) : Int) := by omega
              generalize y.toNat % k = ii at *
              have i4 : (0 : Int) ≤ ii := by omega
              have i5 : (ii : Int) < k := by omega
              clear hr hs hbw hy
              go_wp2_with fail
              rw [hii]
              go_region
              rw [Hor.out]
              go_wp2_with fail
              go_roundw
              case rel => exact ⟨K + 1, by omega, by go_num, Hs.out⟩
              case measure => simp [intOf]; omega
            · rw [ownerOf_none (by rw [W1.out.len]; omega)] at hown hc1
              have i5 : (0 : Int) < k := by omega
              clear hr hs hbw
              go_wp2_with fail
              go_region
              rw [Hor.out]
              go_wp2_with fail
              go_roundw
              case rel => exact ⟨K + 1, by omega, by go_num, Hs.out⟩
              case measure => simp [intOf]; omega
          · obtain rfl : K = 8 * n0 := by omega
            have i6 : ¬ ((8 * (n0 : Int)) < 8 * (n0 : Int)) := by omega
            obtain ⟨wx, rfl⟩ : ∃ wx : World, wx = wr := ⟨_, rfl⟩
            obtain ⟨L, hSh, hB, hLl, hml⟩ := hr
            have HL := hide (hSh.rbb hLl hml (by unfold maxLen; omega))
            have HB := hide hB
            have Hml := hide hml
            have Hbw := hide hbw
            have Hst3 := hide (AccR.start wx (ownerOf b1 k) b0 n0)
            clear hSh hB hml hbw Hr Hst Hst2
            go_wp2_with fail
            clear hmk1
            go_loopw [75] (fun i wr => ∃ j : Nat, j ≤ k ∧ i = .int .i64 j ∧ AccR wx (ownerOf b1 k) b0 n0 j wr) (fun i _ => k - (intOf i).toNat)
            case atStart => exact ⟨0, Nat.zero_le _, rfl, Hst3.out⟩
            case round =>
              obtain ⟨j, hj', rfl, hr⟩ := hrel
              have Hr := hide hr
              obtain ⟨acc, ha1, ha2, ha3, ha4⟩ := hr
              have hbw2 : Below w.heap.size w wr := Hbw.out.trans (ha4.mono Hbw.out.size)
              by_cases hltj : j < k
              · obtain ⟨g1, o1, M, mb, q, m, hA, hmj, hc1, hm⟩ := (HL.out.below ha4).at_ hltj
                cases hA
                obtain rfl : mb = n0 := by rw [← hm.len]; exact Hml.out m (List.mem_of_getElem? hmj)
                rw [Nat.zero_add] at hc1
                have Hc1 := hide (copied_own a0 mb c0 b0 wr no (W0.out.below hbw2) (by omega))
                have Hmj := hide hmj
                have Hm := hide hm
                have H1 := hide ha1
                have H2 := hide ha2
                have H3 := hide ha3
                have H4 := hide ha4
                have i1 : (0 : Int) ≤ j := by omega
                have i2 : (j : Int) < k := by omega
                clear hmj hm ha1 ha2 ha3 ha4 hbw2 Hr
                go_wp2_with fail
                with_reducible refine Hc1.out.mono ?_
                rintro e v3 ⟨v, rfl, h3, hb3⟩
                obtain ⟨A3, d3, rfl, h3'⟩ := RB.of_own h3
                have Hc2 := hide (maskEach_any (some ⟨v3.heap.size, 0, none⟩) M 1 1 mb q [b0] m _ no no (RBB.one 22 h3') ((Hm.out.below hb3).alloc _) Hn.out (by intro b hb; simp at hb; subst hb; exact W0.out.len) (by omega))
                have H1 := hide (H1.out.below hb3)
                have H4 := hide (H4.out.trans (hb3.mono H4.out.size))
                clear h3 hb3 h3'
                go_wp2_with fail
                with_reducible refine Hc2.out.mono ?_
                rintro e v4 ⟨A4, d4, rfl, h4, hb4⟩
                have e1 : (maskedL [b0] m).length = 1 := rfl
                rw [e1] at h4 ⊢
                have hg0 : wx.heap.size < v3.heap.size := by have := H1.out.lt; exact this
                have h4' : RBB v4 (just wx.heap.size) A4 1 d4 (maskedL [b0] m) := h4.sub fun g _ h => by unfold just at h; subst h; simp; omega
                have hb4' : Below v3.heap.size v3 v4 := ((Below.refl _ _).alloc (Nat.le_refl _) _).trans (hb4.mono (by simp))
                have H1 := hide (H1.out.below hb4')
                have H4 := hide (H4.out.trans (hb4'.mono H4.out.size))
                have Hleft := hide h4'
                obtain ⟨g4, o4, D, dn, dc, b4, rfl, hb4e, hc4, hD⟩ := h4'.at_ (k := 0) (by omega)
                obtain rfl : masked b0 m = b4 := by injection hb4e
                have hlf : (masked b0 m).length = mb := masked_length W0.out.len Hm.out.len
                obtain rfl : dn = mb := by rw [← hD.len]; exact hlf
                rw [Nat.add_zero] at hc4
                have Hlf := hide hlf
                have Hgz := hide hg0
                clear h4 hb4 h4' hb4' hD hb4e hlf hg0 e1 hc1
                go_wp2_with fail
                clear hc4
                go_loopw [98] (fun i wr => ∃ p : Nat, p ≤ dn ∧ i = .int .i64 p ∧ Blk wr wx.heap.size 5 (bsv (joinTo (· ||| ·) acc (masked b0 m) p)) ∧ RBB wr (just wx.heap.size) (some ⟨g4, o4, none⟩) 1 d4 (maskedL [b0] m) ∧ Below wx.heap.size wx wr) (fun i _ => dn - (intOf i).toNat)
                case atStart => exact ⟨0, Nat.zero_le _, rfl, by rw [joinTo_zero]; exact H1.out, Hleft.out, H4.out⟩
                case round =>
                  obtain ⟨p, hp, rfl, hr1, hr2, hr3⟩ := hrel
                  have R1 := hide hr1
                  have R2 := hide hr2
                  have R3 := hide hr3
                  by_cases hltp : p < dn
                  · obtain ⟨g5, o5, D, dn', dc', b5, e5, hb5e, hc5, hD⟩ := hr2.at_ (k := 0) (by omega)
                    cases e5
                    obtain rfl : masked b0 m = b5 := by injection hb5e
                    obtain rfl : dn' = dn := by rw [← hD.len]; exact Hlf.out
                    rw [Nat.add_zero] at hc5
                    obtain ⟨gd, od, z, rfl, hz, hcd⟩ := hD.at_ hltp
                    obtain ⟨c, hc⟩ : ∃ c, acc[p]? = some c := ⟨_, List.getElem?_eq_getElem (by rw [H3.out]; exact hltp)⟩
                    have hcx : wr.cell? ⟨wx.heap.size, p, none⟩ = some (.int .u8 (c.toNat : Int)) := by
                      rw [hr1.cell]
                      unfold bsv
                      rw [List.getElem?_map, joinTo_at (by rw [H3.out, Hlf.out]) (by rw [H3.out]; exact hltp), hc]
                      rfl
                    have hfz : wr.frozen? ⟨wx.heap.size, p, none⟩ = false := hr1.frozen p
                    have hand : bits .and .u8 (c.toNat : Int) (z.toNat : Int) = 0 := by
                      rw [u8_and_nat _ _ c.toNat_lt z.toNat_lt, ← UInt8.toNat_and, H2.out.apart' HB.out Hmj.out hltp hc hz]
                      rfl
                    have hor := u8_or_nat _ _ c.toNat_lt z.toNat_lt
                    have i3 : (0 : Int) ≤ p := by omega
                    have i4 : (p : Int) < dn' := by omega
                    have Hk : Hid (∀ q : Nat, Kept (just wx.heap.size) wr ((wr.drewN q).setCell ⟨wx.heap.size, p, none⟩ (.int .u8 ((c.toNat ||| z.toNat : Nat) : Int))).drew) := hide fun q => (Kept.drewN _ wr q).trans Kept.setCell
                    have Hs := hide (fun q : Nat => ((R1.out.drewN q).set_ p (.int .u8 ((c ||| z).toNat : Int))).drew)
                    have e2 : (bsv (joinTo (· ||| ·) acc (masked b0 m) p)).set p (.int .u8 ((c ||| z).toNat : Int)) = bsv (joinTo (· ||| ·) acc (masked b0 m) (p + 1)) := by
                      unfold bsv
                      rw [← joinTo_set (by rw [H3.out, Hlf.out]) hc hz, List.map_set]
                    rw [e2, UInt8.toNat_or] at Hs
                    clear hr1 hr2 hr3 hD hz hc e2 hb5e
                    go_wp2_with fail
                    go_quiet (fail)
                    go_wp2_with fail
                    have hc5' : (wr.drewN nq).cell? ⟨g4, o4, none⟩ = some (.slice (some ⟨gd, od, none⟩) dn' dc') := hc5
                    have hcd' : (wr.drewN nq).cell? ⟨gd, od + p, none⟩ = some (.int .u8 (z.toNat : Int)) := hcd
                    have hcx' : (wr.drewN nq).cell? ⟨wx.heap.size, p, none⟩ = some (.int .u8 (c.toNat : Int)) := hcx
                    have hfz' : (wr.drewN nq).frozen? ⟨wx.heap.size, p, none⟩ = false := hfz
                    have Hs2 := hide (Hs.out nq)
                    have Hk2 := hide (Hk.out nq)
                    have Hb2 : Hid (Below wx.heap.size wx ((wr.drewN nq).setCell ⟨wx.heap.size, p, none⟩ (.int .u8 ((c.toNat ||| z.toNat : Nat) : Int))).drew) := hide (((below_drewN R3.out nq).setCell (Nat.le_refl _) _).drew)
                    clear Hs Hk
                    generalize hww : wr.drewN nq = ww at *
                    clear hc5 hcd hcx hfz hww hand
                    go_region
                    go_wp2_with fail
                    go_roundw
                    case rel => exact ⟨p + 1, by omega, by go_num, Hs2.out, R2.out.keep Hk2.out, Hb2.out⟩
                    case measure => simp [intOf]; omega
                  · obtain rfl : p = dn := by omega
                    have Hs : Hid (AccR wx (ownerOf b1 k) b0 p (j + 1) wr) := hide ⟨_, hr1, by
                      have h := H2.out.step HB.out Hmj.out W0.out.len
                      rw [← joinTo_end (f := (· ||| ·)) (xs := acc) (ys := masked b0 m) (by rw [H3.out, Hlf.out]), H3.out] at h
                      exact h, by rw [joinTo_length (by rw [H3.out, Hlf.out]) (by rw [H3.out]; exact Nat.le_refl _), H3.out], hr3⟩
                    clear hr1 hr2 hr3
                    go_wp2_with fail
                    go_roundw
                    case rel => exact ⟨j + 1, by omega, by go_num, Hs.out⟩
                    case measure => simp [intOf]; omega
              · obtain rfl : j = k := by omega
                obtain rfl : acc = b0 := ha2.all (fun q => ownerOf_lt b1 q (by omega)) (by rw [ha3, W0.out.len])
                have hall : RB wr no (some ⟨wx.heap.size, 0, none⟩) n0 n0 acc := ha1.rb (fun h => h) ha3 (Nat.le_refl _) (by unfold maxLen; omega)
                have Hs1 := hide (same_any (some ⟨wx.heap.size, 0, none⟩) a0 n0 n0 n0 c0 _ _ wr no no hall (W0.out.below hbw2))
                have hee : eqL acc acc = true := eqL_iff.2 rfl
                rw [hee] at Hs1
                have Hbw2 := hide hbw2
                clear ha1 ha2 ha3 ha4 hall hbw2
                go_wp2_with fail
                with_reducible refine Hs1.out.mono ?_
                rintro e v7 ⟨rfl, q1, rfl⟩
                go_wp2_with fail
                go_ret
                exact ⟨rfl, below_drewN Hbw2.out q1⟩
end Go.Proofs.YtknajppjgdhbfaaDoor
