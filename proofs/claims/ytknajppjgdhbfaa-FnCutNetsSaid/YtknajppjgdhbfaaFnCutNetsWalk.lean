/-
  The walk of FnCutNets.
-/
import Derived.Test.YtknajppjgdhbfaaHolding
import Derived.Test.YtknajppjgdhbfaaNums
import Derived.Test.YtknajppjgdhbfaaCutL
import Derived.Test.YtknajppjgdhbfaaTwo
import Derived.Test.YtknajppjgdhbfaaMapped
import Derived.Deep.CutRange
import Derived.Deep.DeepCutAuto
namespace Go.Proofs.Ytknajppjgdhbfaa
open Go.RowKit
set_option linter.unusedVariables false

theorem or_bit_new {c : UInt8} {s : Nat} (hs : s < 8) (hb : c.toNat.testBit s = false) : bits .or .u8 (c.toNat : Int) ((2 : Int) ^ s % 256) = ((c ^^^ UInt8.ofNat (2 ^ s)).toNat : Int) := by
  have e : (2 : Int) ^ s % 256 = (((UInt8.ofNat (2 ^ s)).toNat : Nat) : Int) := by
    have : ∀ t : Fin 8, (2 : Int) ^ t.val % 256 = (((UInt8.ofNat (2 ^ t.val)).toNat : Nat) : Int) := by decide
    exact this ⟨s, hs⟩
  rw [e, or_u8, UInt8.toNat_or, two_pow_u8 hs, or_xor hs hb]

/-- The parts and their ones, as they lie. -/
def CutM (w : World) (n : Nat) (adr : List UInt8) (f0 : Nat) (vO vN : Value) (wr : World) : Prop := ∃ (al : List (List UInt8)) (os : List Int), CutR n adr f0 al os ∧ Nums w al os vN vO no wr

/-- One number and its ones in new cells. -/
theorem Nums.one {w v1 v2 : World} {A : Option Addr} {n c f0 : Nat} {ab : List UInt8} (hb : Below w.heap.size w v1) (h2 : OwnB (v1.alloc (.cells #[.int .i64 (f0 : Int)] 3)) (.slice A n c) n ab v2) :
    Nums w [ab] [(f0 : Int)] (.slice (some ⟨v2.heap.size, 0, none⟩) 1 1) (.slice (some ⟨v1.heap.size, 0, none⟩) 1 1) no (v2.alloc (.cells #[.slice A n c] 22)) := by
  have hsz := hb.size
  have hsz2 := h2.2.size
  simp at hsz2
  have hl1 : (v1.alloc (.cells #[.int .i64 (f0 : Int)] 3)).ownsRow w.heap.size 3 1 (.slice (some ⟨v1.heap.size, 0, none⟩) 1 1) 1 ([(f0 : Int)].map (Value.int .i64)) :=
    World.ownsRow_lit v1 #[.int .i64 (f0 : Int)] 1 (by omega) (by unfold maxLen; omega) rfl
  have hl2 : (v2.alloc (.cells #[.slice A n c] 22)).ownsRow w.heap.size 22 1 (.slice (some ⟨v2.heap.size, 0, none⟩) 1 1) 1 [.slice A n c] :=
    World.ownsRow_lit v2 #[.slice A n c] 1 (by omega) (by unfold maxLen; omega) rfl
  have hl3 := (own_below hl1 h2.2).alloc (.cells #[.slice A n c] 22)
  have hl4 := h2.1.alloc (.cells #[.slice A n c] 22)
  have hb2 : Below w.heap.size w v2 := (hb.alloc hsz _).trans (h2.2.mono (by simp; omega))
  refine ⟨⟨[.slice A n c], hl2, by simp, fun j b hj => ?_⟩, hl3, hb2.alloc (by have := hb2.size; omega) _⟩
  rcases j with _ | j
  · simp at hj
    subst hj
    refine ⟨A, n, c, rfl, own_rb_av hl4 fun g hg => ?_⟩
    rcases hg with hg | hg | hg
    · exact hg.elim
    · exact apart_row hl4 hl2 (by decide) hg
    · exact apart_row hl4 hl3 (by decide) hg
  · simp at hj

set_option maxRecDepth 100000 in
set_option maxHeartbeats 6400000 in
theorem fnCutNets_walk (w : World) (a0 : Option Addr) (n0 c0 : Nat) (b0 : List UInt8) (w0 : RB w no a0 n0 c0 b0) (r0 : c0 ≤ 140737488351232) (a1 : Int) (w1 : (Lit.int .u8 a1).wf = true)
    (a2 : Option Addr) (n2 c2 : Nat) (b2 : List UInt8) (w2 : RB w no a2 n2 c2 b2) (r2 : c2 ≤ 140737488351232)
    (a3 : Option Addr) (n3 c3 : Nat) (b3 : List UInt8) (w3 : RB w no a3 n3 c3 b3) (r3 : c3 ≤ 140737488351232) :
    Calls Try.prog 8 #[.slice a0 n0 c0, .int .u8 a1, .slice a2 n2 c2, .slice a3 n3 c3] w fun e w' => e = .returned (.bool true) ∧ Below w.heap.size w w' := by
  obtain ⟨x1, rfl⟩ := byte_of_wf w1
  obtain ⟨i0, hi, hz0, hz1, hz2⟩ := info_parts bytes_info
  obtain ⟨j0, hj, hy0, hy1, hy2⟩ := info_parts int_info
  have W0 := hide w0
  have W2 := hide w2
  have W3 := hide w3
  have k0 := w0.cap
  have k2 := w2.cap
  have k3 := w3.cap
  have Hcall := hide (alike_any _ 2 2 n0 [b0, b3] _ (RBB.two 22 w0 w3) (by omega) (by intro b hb; simp at hb; rcases hb with rfl | rfl; (rw [w0.len]; omega); (rw [w3.len]; omega)))
  clear w0 w1 w2 w3
  go_enter Try.func8, Try.ntmps8
  go_wp2_with fail
  with_reducible refine Hcall.out.mono ?_
  rintro e v1 ⟨A1, d1, rfl, h1, hb1⟩
  have hb1' : Below w.heap.size w v1 := ((Below.refl _ _).alloc (Nat.le_refl _) _).trans (hb1.mono (by simp))
  have Hb1 := hide hb1'
  have htwo := alikeL_two b0 b3 n0
  generalize alikeL [b0, b3] n0 = al2 at *
  clear hb1 Hcall h1 hb1'
  rcases htwo with ⟨hg0, hg1, hl2⟩ | hl2
  rotate_left
  · have hne : ((al2.length : Int) != 2) = true := by rw [bne_iff_ne]; omega
    go_wp2_with fail
    go_ret
    exact ⟨rfl, Hb1.out⟩
  obtain ⟨_, hn, hm0⟩ := goodA_out hg0
  obtain ⟨hlb1, _, hm1⟩ := goodA_out hg1
  obtain rfl : n3 = n0 := by rw [← W3.out.len]; exact hlb1
  have Hn := hide hn
  have hn16 : n3 ≤ 16 := by omega
  have hn4 : 4 ≤ n3 := by omega
  have Hm0 := hide hm0
  have Hm1 := hide hm1
  have hx1 := lt_256 x1
  have hff : (x1.toNat : Int) % (8 * (n3 : Int) + 1) = ((x1.toNat % (8 * n3 + 1) : Nat) : Int) := by simp
  have Hff := hide hff
  have hf0 : x1.toNat % (8 * n3 + 1) ≤ 8 * n3 := by have := Nat.mod_lt x1.toNat (show 0 < 8 * n3 + 1 by omega); omega
  generalize x1.toNat % (8 * n3 + 1) = f0 at *
  have Hcut := hide (CutR.start W0.out.len hf0)
  have Hfill := hide (filled_own a0 n3 c0 f0 false b0 (v1.alloc (.cells #[.int .i64 (f0 : Int)] 3)) ((W0.out.below Hb1.out).alloc _) hn16 (by omega))
  rw [hl2]
  clear hn hm0 hm1 hg0 hg1 hl2 hlb1 hff
  have hd : (8 * (n3 : Int) + 1) ≠ 0 := by omega
  have hx0 : (0 : Int) ≤ (x1.toNat : Int) := by omega
  go_wp2_with fail
  rw [Hff.out]
  with_reducible refine Hfill.out.mono ?_
  rintro e v2 ⟨vF, rfl, hF⟩
  obtain ⟨AF, cF, rfl, _, _⟩ := hF.form
  have Hst : Hid (CutM w n3 b0 f0 (.slice (some ⟨v1.heap.size, 0, none⟩) 1 1) (.slice (some ⟨v2.heap.size, 0, none⟩) 1 1) (v2.alloc (.cells #[.slice AF n3 cF] 22))) := hide ⟨_, _, Hcut.out, Nums.one Hb1.out hF⟩
  clear hF Hfill Hcut
  go_wp2_with fail
  go_loopw [10, 11, 44] (fun vO vN i wr => ∃ k : Nat, k ≤ n2 ∧ i = .int .i64 k ∧ CutM w n3 b0 f0 vO vN wr) (fun _ _ i _ => n2 - (intOf i).toNat)
  case atStart => exact ⟨0, Nat.zero_le _, rfl, Hst.out⟩
  case round =>
    obtain ⟨k, hk, rfl, al, os, hR, hN⟩ := hrel
    have HR := hide hR
    have HN := hide hN
    have hfew := hR.few hn16
    have hpos : 0 < al.length := (List.getElem?_eq_some_iff.1 hR.first).1
    obtain ⟨N, hNl⟩ : ∃ N : Nat, N = al.length := ⟨_, rfl⟩
    have HNl : Hid (al.length = N) := hide hNl.symm
    have HOl : Hid (os.length = N) := hide (by rw [hR.len, hNl])
    rw [← hNl] at hfew hpos
    clear hNl
    obtain ⟨AN, dN, AO, dO, rfl, rfl⟩ := hN.form HNl.out HOl.out
    by_cases hlt : k < n2
    · obtain ⟨g2, o2, y, rfl, hy, hcy⟩ := (W2.out.below hN.bel).at_ hlt
      have hyl := lt_256 y
      have hyz : (0 : Int) ≤ (y.toNat : Int) := by omega
      have hkk : (y.toNat : Int) % (N : Int) = ((y.toNat % N : Nat) : Int) := by simp
      have Hkk := hide hkk
      have hkl : y.toNat % N < N := Nat.mod_lt _ hpos
      have hk256 : y.toNat % N < 256 := Nat.lt_of_le_of_lt (Nat.mod_le _ _) y.toNat_lt
      generalize y.toNat % N = kk at *
      obtain ⟨go, oo, z, e1, hzk, hcz⟩ := (hN.ri HOl.out).at_ hkl
      obtain ⟨rfl, rfl⟩ : AO = some ⟨go, 0, none⟩ ∧ oo = 0 := by
        rcases hN.ones.2 with ⟨h, _⟩ | ⟨g', cap', cur', h, _⟩
        · injection h with h _ _; rw [h] at e1; cases e1
        · injection h with h _ _; rw [h] at e1; injection e1 with e1; injection e1 with e1 e2; subst e1 e2; exact ⟨h, rfl⟩
      rw [Nat.zero_add] at hcz
      obtain ⟨gn, og, Bx, m, d, a, rfl, hak, hca, hba⟩ := (hN.rbb HNl.out).at_ hkl
      have hal := hR.all a (List.mem_of_getElem? hak)
      obtain rfl : m = n3 := by rw [← hba.len, hal]
      have hzz := hR.ons z (List.mem_of_getElem? hzk)
      obtain ⟨o, rfl⟩ : ∃ o : Nat, z = (o : Int) := ⟨z.toNat, by omega⟩
      have i1 : (0 : Int) ≤ kk := by omega
      have i2 : (kk : Int) < N := by omega
      have hNne : (N : Int) ≠ 0 := by omega
      by_cases ho : o = 8 * m
      · have hq : ((o : Int) == 8 * (m : Int)) = true := by rw [beq_iff_eq]; omega
        clear hR hN hak hba hal hzz hzk hkk hy ho hca
        go_upto_region 10 with (fail)
        rw [Hkk.out]
        go_wp2_with fail
        go_roundw
        case rel => exact ⟨k + 1, by omega, by go_num, al, os, HR.out, HN.out⟩
        case measure => simp [intOf]; omega
      · have hq : ((o : Int) == 8 * (m : Int)) = false := by rw [beq_eq_false_iff_ne]; omega
        have ho2 : o < 8 * m := by omega
        have HR2 := hide (hR.step hk256 hak hzk ho2)
        have hbit := hR.zer kk a o hak hzk o (by simp) ho2
        have Hcp := hide (copied_own Bx m d a wr no hba (by omega))
        have Hal := hide hal
        have Hbit := hide hbit
        have Hx := hide hcz
        have Hzk := hide hzk
        rw [show ((o + 1 : Nat) : Int) = (o : Int) + 1 by omega] at HR2
        clear hR hak hba hal hzz hzk hkk hy ho hbit
        go_upto_region 10 with (fail)
        rw [Hkk.out]
        go_wp2_with fail
        -- upper := copied(numbers[k])
        with_reducible refine Hcp.out.mono ?_
        rintro e u1 ⟨vU, rfl, hU, hbU⟩
        have hoU : OwnB wr vU m a u1 := ⟨hU, hbU⟩
        obtain ⟨AU, cU, rfl, hcU1, hcU2⟩ := hoU.form
        obtain ⟨gu, rfl, hgu⟩ := hoU.some_ (by omega)
        have hN1 : Nums w al os (.slice (some ⟨gn, og, none⟩) N dN) (.slice (some ⟨go, 0, none⟩) N dO) (rowOf (.slice (some ⟨gu, 0, none⟩) m cU)) u1 :=
          (HN.out.turn _ (fun g hg => by unfold rowOf at hg; injection hg with hg; subst hg; exact hgu)).below hbU
        have hne : go ≠ gu := by
          have := (HN.out.ones.lt go rfl).2
          omega
        obtain ⟨g', o', x, e3, hxk, hcx⟩ := hoU.rb.at_ (k := o / 8) (by omega)
        injection e3 with e3; injection e3 with e31 e32; subst e31 e32
        rw [Nat.zero_add] at hcx
        have hfz := hoU.1.frozenAt (o / 8)
        have hcz1 : u1.cell? ⟨go, kk, none⟩ = some (.int .i64 (o : Int)) := (World.cell?_of_block (hbU.block go (HN.out.ones.lt go rfl).2)).trans Hx.out
        have hxb : x.toNat.testBit (7 - o % 8) = false := by
          have h := Hbit.out
          unfold bitAt at h
          rw [List.getD_eq_getElem?_getD, hxk] at h
          exact h
        have Hor := hide (or_bit_new (by omega) hxb)
        have hfl : a.set (o / 8) (x ^^^ UInt8.ofNat (2 ^ (7 - o % 8))) = flip1 a o := by
          unfold flip1; rw [List.getD_eq_getElem?_getD, hxk]; rfl
        have hsU := hoU.set_ hgu (o / 8) (x ^^^ UInt8.ofNat (2 ^ (7 - o % 8)))
        rw [hfl] at hsU
        have hN2 := hN1.store hU rfl (show w.heap.size ≤ gu by have := HN.out.bel.size; omega) (o / 8) (.int .u8 ((x ^^^ UInt8.ofNat (2 ^ (7 - o % 8))).toNat : Int))
        generalize x ^^^ UInt8.ofNat (2 ^ (7 - o % 8)) = yb at *
        have HsU := hide hsU
        have HN2 := hide hN2
        have j1 : (o : Int) / 8 < m := by omega
        have j2 : (0 : Int) ≤ (o : Int) / 8 := by omega
        have j3 : (0 : Int) ≤ 7 - (o : Int) % 8 := by omega
        have hx255 := lt_256 x
        clear hU hbU hoU hN1 hsU hN2 hxk hxb hfl hca hcz Hx Hcp
        go_wp2_with fail
        go_region
        rw [Hor.out]
        have HN2d := hide (HN2.out.below ((Below.refl _ _).drew))
        have HsUd := hide HsU.out.drew
        generalize (u1.setCell ⟨gu, o / 8, none⟩ (.int .u8 (yb.toNat : Int))).drew = u2 at *
        obtain ⟨go', oo', z2, e4, hz2k, hcz2⟩ := (HN2d.out.ri HOl.out).at_ hkl
        injection e4 with e4; injection e4 with e41 e42; subst e41 e42
        rw [Hzk.out] at hz2k
        injection hz2k with hz2k
        subst hz2k
        rw [Nat.zero_add] at hcz2
        have hfz2 := by
          have h := HN2d.out.ones
          rw [HOl.out] at h
          exact h.frozenAt kk
        have hN3 := HN2d.out.storeO HOl.out kk ((o : Int) + 1)
        have hU3 : (u2.setCell ⟨go, kk, none⟩ (.int .i64 ((o : Int) + 1))).ownsRow wr.heap.size 5 1 (.slice (some ⟨gu, 0, none⟩) m cU) m (byL (flip1 a o)) :=
          HsUd.out.1.kept (row := some go) ⟨rfl, rfl, rfl, by simp [World.setCell], fun q _ hq => Below.heap_setCell u2 _ _ q (fun e => hq (by simp [e]))⟩ (Or.inr (by simp [Value.ownBlock]; exact fun e => hne e.symm))
        have HN3 := hide hN3
        have HU3 := hide hU3
        clear hN3 hU3 HN2 HsU HN2d HsUd hcx hfz hcz1 hgu
        go_upto_region 14 with (fail)
        generalize u2.setCell ⟨go, kk, none⟩ (.int .i64 ((o : Int) + 1)) = u3 at *
        clear hcz2 hfz2
        -- numbers = append(numbers, upper)
        obtain ⟨⟨xs, hx1', hx2'⟩, hx3', hx4'⟩ := HN3.out.calm
        have hrU : RB u3 (fun g => no g ∨ rowOf (.slice (some ⟨gn, og, none⟩) N dN) g ∨ rowOf (.slice (some ⟨go, 0, none⟩) N dO) g) (some ⟨gu, 0, none⟩) m cU (flip1 a o) :=
          own_rb_av HU3.out fun g hg => by
            rcases hg with hg | hg | hg
            · exact hg.elim
            · exact apart_row HU3.out hx1' (by decide) hg
            · exact apart_row HU3.out hx3' (by decide) hg
        have Hx1 := hide hx1'
        rw [HNl.out] at Hx1
        have Hx2 := hide hx2'
        have Hx3 := hide hx3'
        have Hx4 := hide hx4'
        have HrU := hide hrU
        have hsz := hx4'.size
        have Hx1a := hide (Hx1.out.alloc (.cells #[.slice (some ⟨gu, 0, none⟩) m cU] 22))
        clear hx1' hx2' hx3' hx4' hrU HN3 HU3
        go_wp2_with (at_builtin; refine wpList_append_rd _ rfl (.tmp 88) (.tmp 90) _ rfl w.heap.size 22 i0 _ 24 Try.underlying23 hi hz0 hz1 hz2 rfl _ N _ rfl Hx1a.out no (some ⟨u3.heap.size, 0, none⟩) 1 1 [.slice (some ⟨gu, 0, none⟩) m cU] rfl ?_ ?_ ?_ ?_ ?_ ?_)
        · exact Rd.one u3 _ _ no (fun h => h)
        · first | rfl | (intro u hu; simp at hu; subst hu; rfl)
        · unfold maxLen; omega
        · omega
        · first | omega | (simp; omega)
        intro vN' u4 g1 g2' g3
        have hN4 := Nums.addN (by rw [HNl.out]; exact Hx1.out) Hx2.out Hx3.out Hx4.out HrU.out (by rw [HNl.out]; exact g1) g2' g3
        have HN4 := hide hN4
        have hol : (os.set kk ((o : Int) + 1)).length = N := by rw [List.length_set]; exact HOl.out
        have Hol := hide hol
        obtain ⟨go', oo', z2, e4, hz2k, hcz2⟩ := (hN4.ri hol).at_ hkl
        injection e4 with e4; injection e4 with e41 e42; subst e41 e42
        rw [List.getElem?_set_self (by rw [HOl.out]; exact hkl)] at hz2k
        injection hz2k with hz2k
        subst hz2k
        rw [Nat.zero_add] at hcz2
        have hones := hN4.ones
        rw [hol] at hones
        have Honesa := hide (hones.alloc (.cells #[.int .i64 ((o : Int) + 1)] 3))
        have hsz4 := hN4.bel.size
        generalize hom : (os.set kk ((o : Int) + 1)).map (Value.int .i64) = om at *
        have Hom := hide hom
        clear g1 g2' g3 hN4 hol hones Hx1 Hx2 Hx3 Hx4 Hx1a HrU hom
        go_wp2_with (at_builtin; refine wpList_append_rd _ rfl (.tmp 92) (.tmp 97) _ rfl w.heap.size 3 j0 _ 8 Try.underlying34 hj hy0 hy1 hy2 rfl _ N _ rfl Honesa.out no (some ⟨u4.heap.size, 0, none⟩) 1 1 [.int .i64 ((o : Int) + 1)] rfl ?_ ?_ ?_ ?_ ?_ ?_)
        · exact Rd.one u4 _ _ no (fun h => h)
        · first | rfl | (intro u hu; simp at hu; subst hu; rfl)
        · unfold maxLen; omega
        · omega
        · first | omega | (simp; omega)
        intro vO' u5 g1 g2' g3
        have HN5 := hide (HN4.out.addO (by rw [Hol.out, Hom.out]; exact g1) g2' g3)
        clear g1 g2' g3
        go_wp2_with fail
        go_roundw
        case rel => exact ⟨k + 1, by omega, by go_num, _, _, HR2.out, HN5.out⟩
        case measure => simp [intOf]; omega
    · obtain rfl : k = n2 := by omega
      obtain ⟨wp, rfl⟩ : ∃ wp : World, wp = wr := ⟨_, rfl⟩
      have HL := hide (hN.rbb HNl.out)
      have HJ := hide (hN.ri HOl.out)
      have Hbw := hide hN.bel
      clear hR hN
      go_wp2_with fail
      go_loopw [102] (fun i wx => ∃ j : Nat, j ≤ N ∧ i = .int .i64 j ∧ (∀ a ∈ al.take j, mapd a = false) ∧ Below wp.heap.size wp wx) (fun i _ => N - (intOf i).toNat)
      case atStart => exact ⟨0, Nat.zero_le _, rfl, by simp, Below.refl _ _⟩
      case round =>
        obtain ⟨j, hjN, rfl, hmp, hbx⟩ := hrel
        have Hmp := hide hmp
        have Hbx := hide hbx
        have Hbwx := hide (Hbw.out.trans (hbx.mono Hbw.out.size))
        clear hmp
        by_cases hltj : j < N
        · obtain ⟨gn, og, Bx, m, d, a, rfl, haj, hca, hba⟩ := (HL.out.below hbx).at_ hltj
          obtain ⟨go, oo, z, rfl, hzj, hcz⟩ := (HJ.out.below hbx).at_ hltj
          have hal := HR.out.all a (List.mem_of_getElem? haj)
          obtain rfl : m = n3 := by rw [← hba.len, hal]
          have hzz := HR.out.ons z (List.mem_of_getElem? hzj)
          obtain ⟨o, rfl⟩ : ∃ o : Nat, z = (o : Int) := ⟨z.toNat, by omega⟩
          have i1 : (0 : Int) ≤ j := by omega
          have i2 : (j : Int) < N := by omega
          have Hmp1 := hide (isMapped_any Bx m d a wr no hba)
          have Hfl := hide (filled_own Bx m d o true a wr hba hn16 (by omega))
          have Hsn : Hid (mapd a = false → ∀ a' ∈ al.take (j + 1), mapd a' = false) := hide (fun hm a' ha' => by
            rw [take_snoc haj] at ha'
            rcases List.mem_append.1 ha' with h | h
            · exact Hmp.out a' h
            · simp at h; subst h; exact hm)
          clear hba hal hzz haj hzj hbx
          cases hma : mapd a with
          | true =>
            rw [hma] at Hmp1
            clear hma
            go_wp2_with fail
            with_reducible refine Hmp1.out.mono ?_
            rintro e w' ⟨rfl, rfl⟩
            go_wp2_with fail
            go_ret
            exact ⟨rfl, Hbwx.out⟩
          | false =>
            rw [hma] at Hmp1
            have Hma := hide hma
            clear hma
            go_wp2_with fail
            with_reducible refine Hmp1.out.mono ?_
            rintro e w' ⟨rfl, rfl⟩
            go_wp2_with fail
            with_reducible refine Hfl.out.mono ?_
            rintro e u1 ⟨vF1, rfl, hF1⟩
            obtain ⟨AF1, cF1, rfl, _, _⟩ := hF1.form
            have Hmp2 := hide (isMapped_any AF1 m cF1 _ u1 no hF1.rb)
            have Hbu := hide (Hbx.out.trans (hF1.2.mono Hbx.out.size))
            generalize mapd (filledL a o true) = mb at *
            clear hF1 Hfl
            cases mb with
            | true =>
              go_wp2_with fail
              with_reducible refine Hmp2.out.mono ?_
              rintro e w' ⟨rfl, rfl⟩
              go_wp2_with fail
              go_ret
              exact ⟨rfl, Hbw.out.trans (Hbu.out.mono Hbw.out.size)⟩
            | false =>
              go_wp2_with fail
              with_reducible refine Hmp2.out.mono ?_
              rintro e w' ⟨rfl, rfl⟩
              go_wp2_with fail
              go_roundw
              case rel => exact ⟨j + 1, by omega, by go_num, Hsn.out Hma.out, Hbu.out⟩
              case measure => simp [intOf]; omega
        · obtain rfl : j = N := by omega
          have hmp := Hmp.out
          rw [List.take_of_length_le (by rw [HNl.out]; omega)] at hmp
          have Hgood : Hid (∀ a ∈ al, a.length = n3 ∧ mapd a = false) := hide (fun a ha => ⟨HR.out.all a ha, hmp a ha⟩)
          obtain ⟨wy, rfl⟩ : ∃ wy : World, wy = wr := ⟨_, rfl⟩
          have HLy := hide (HL.out.below hbx)
          have HJy := hide (HJ.out.below hbx)
          have Hmk := hide (maskOf_len (f0 : Int) n3 wy wy Hn.out (by omega) (by omega) (Below.refl _ _))
          rw [Int.toNat_natCast] at Hmk
          clear hmp hbx
          go_wp2_with fail
          rw [Hff.out]
          with_reducible refine Hmk.out.mono ?_
          rintro e u1 ⟨M, dm, rfl, hM, hbM⟩
          have Hco := hide (contains_len a0 M a3 n3 c0 dm c3 b0 _ b3 wy u1 (W0.out.below Hbwx.out) hM (W3.out.below Hbwx.out) Hn.out Hm0.out Hm1.out hbM)
          have Hcnt := hide (HR.out.cnt b3 W3.out.len)
          generalize inNet b0 (cidr n3 f0) b3 = db at *
          clear hM hbM Hmk
          go_wp2_with fail
          with_reducible refine Hco.out.mono ?_
          rintro e u2 ⟨rfl, hb2'⟩
          have Hb2 := hide hb2'
          clear hb2' Hco
          go_upto_if 129 with (fail)
          go_cut [18] (fun s18 wx => s18 = .int .i64 (db.toNat : Int) ∧ wx = u2)
          case first =>
            cases db
            · go_wp2_with fail
              go_meet
              case rel => exact ⟨rfl, rfl⟩
            · go_wp2_with fail
              go_meet
              case rel => exact ⟨rfl, rfl⟩
          case rest =>
            obtain ⟨rfl, rfl⟩ := hcut
            have hLc := HLy.out.below Hb2.out
            have hJc := HJy.out.below Hb2.out
            have hbwc : Below w.heap.size w wc := Hbwx.out.trans (Hb2.out.mono Hbwx.out.size)
            have Hbwc := hide hbwc
            obtain ⟨gn, og, Bx, m, d, a, rfl, ha0, hca, hba⟩ := hLc.at_ (k := 0) hpos
            have ha0' := HR.out.first
            rw [ha0] at ha0'
            injection ha0' with ha0'
            obtain ⟨hal, hma⟩ := Hgood.out a (List.mem_of_getElem? ha0)
            obtain rfl : m = n3 := by rw [← hba.len, hal]
            have hcnt2 : holdL al os a = 1 := by
              rw [HR.out.cnt a hal, inNet_symm, ha0', inNet_filled W0.out.len W0.out.len, inNet_refl]; rfl
            have Hh1 := hide (holding_len (some ⟨gn, og, none⟩) AO a3 j dN dO m c3 al os b3 wc wc hLc hJc (W3.out.below hbwc) Hn.out Hgood.out HR.out.ons Hm1.out (Below.refl _ _))
            rw [Hcnt.out] at Hh1
            have Hh2 := hide (fun (W : World) (hW : Below wc.heap.size wc W) => holding_len (some ⟨gn, og, none⟩) AO Bx j dN dO m d al os a wc W hLc hJc hba Hn.out Hgood.out HR.out.ons hma hW)
            rw [hcnt2] at Hh2
            have Hcell := hide (fun (W : World) (hW : Below wc.heap.size wc W) => (World.cell?_of_block (hW.block gn (World.block_lt_of_cell? _ _ hca))).trans hca)
            rw [Nat.add_zero] at Hcell
            have hdb : ((db.toNat : Int) == (db.toNat : Int)) = true := by simp
            generalize db.toNat = dn at *
            have j0' : (0 : Int) < (j : Int) := by omega
            clear hLc hJc hbwc ha0 ha0' hal hma hcnt2 hba hca
            go_wp2_with fail
            with_reducible refine Hh1.out.mono ?_
            rintro e u3 ⟨rfl, hb3'⟩
            have hcell := Hcell.out u3 hb3'
            have Hh3 := hide (Hh2.out u3 hb3')
            clear hb3'
            go_wp2_with fail
            with_reducible refine Hh3.out.mono ?_
            rintro e u4 ⟨rfl, hb4'⟩
            have Hb4 := hide (Hbwc.out.trans (hb4'.mono Hbwc.out.size))
            clear hb4'
            go_wp2_with fail
            go_ret
            exact ⟨rfl, Hb4.out⟩
end Go.Proofs.Ytknajppjgdhbfaa
