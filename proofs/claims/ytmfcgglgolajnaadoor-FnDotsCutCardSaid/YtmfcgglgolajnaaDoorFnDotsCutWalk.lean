/-
  The walk of FnDotsCut.
-/
import Derived.Test.YtmfcgglgolajnaaDoorSEach
import Derived.Test.YtmfcgglgolajnaaDoorCutD
import Derived.Test.YtmfcgglgolajnaaDoorSame
import Derived.Deep.RegionHeld3
namespace Go.Proofs.YtmfcgglgolajnaaDoor
open Go.RowKit
set_option linter.unusedVariables false

/-- fLong of a slice that was just laid. -/
theorem fLong_new (x y z t : UInt8) (v W : World) (hW : Below v.heap.size v W) (vx vy vz vt : Int) (ex : vx = x.toNat) (ey : vy = y.toNat) (ez : vz = z.toNat) (et : vt = t.toNat) :
    Calls Tryd.prog 17 #[.slice (some ⟨W.heap.size, 0, none⟩) 4 4] (W.alloc (.cells #[.int .u8 vx, .int .u8 vy, .int .u8 vz, .int .u8 vt] 5)).drew fun e w' => ∃ A c, e = .returned (.slice A 16 c) ∧ RB w' no A 16 c (pre12 ++ [x, y, z, t]) ∧ Below v.heap.size v w' := by
  subst ex ey ez et
  have hb := Blk.new W 5 ([x, y, z, t].map fun b => Value.int .u8 (b.toNat : Int))
  have hr : RB (W.alloc (.cells ([x, y, z, t].map fun b => Value.int .u8 (b.toNat : Int)).toArray 5)).drew no (some ⟨W.heap.size, 0, none⟩) 4 4 [x, y, z, t] := hb.drew.rb (fun h => h) rfl (Nat.le_refl _) (by unfold maxLen; omega)
  have hv : Below v.heap.size v (W.alloc (.cells ([x, y, z, t].map fun b => Value.int .u8 (b.toNat : Int)).toArray 5)).drew := (hW.alloc hW.size _).drew
  refine (fLong_any _ 4 4 [x, y, z, t] _ no hr (Or.inl rfl)).mono ?_
  rintro e w' ⟨A, c, rfl, h1, h2⟩
  exact ⟨A, c, rfl, h1.free, hv.trans (h2.mono hv.size)⟩

def cutL (T : List UInt8) (k : Nat) : List (List UInt8) := (List.range k).map fun j => T.take j
theorem cutL_snoc (T : List UInt8) (k : Nat) : (cutL T (k + 1)).map sv = (cutL T k).map sv ++ [.string ⟨(T.take k).toArray⟩] := by
  unfold cutL; rw [List.range_succ]; simp [sv]
theorem dotsL_ge4 (a b c d : UInt8) : 7 ≤ (dotsL [a, b, c, d]).length := by
  have h : ∀ n, 1 ≤ (decL n).length := fun n => by
    rcases Nat.eq_zero_or_pos (decL n).length with h | h
    · exact absurd (List.eq_nil_of_length_eq_zero h) (decL_ne n)
    · exact h
  have l0 := h a.toNat
  have l1 := h b.toNat
  have l2 := h c.toNat
  have l3 := h d.toNat
  have := congrArg List.length (dotsL4 a b c d [])
  simp only [List.nil_append, List.length_append, List.length_cons, List.length_nil] at this
  omega
theorem take_last {T : List UInt8} {k : Nat} {x : UInt8} (hk : 0 < k) (h : T[k - 1]? = some x) : T.take k = T.take (k - 1) ++ [x] := by
  have := take_snoc h
  rwa [show k - 1 + 1 = k by omega] at this

set_option maxRecDepth 100000 in
set_option maxHeartbeats 3200000 in
theorem fnDotsCut_walk (w : World) (g4 o4 g6 o6 : Nat) (hz : ZX w g4 o4 g6 o6) (a0 : Option Addr) (n0 c0 : Nat) (b0 : List UInt8) (w0 : RB w no a0 n0 c0 b0) (r0 : c0 ≤ 140737488351232) :
    Calls Tryd.prog 9 #[.slice a0 n0 c0] w fun e w' => e = .returned (.bool true) ∧ Below w.heap.size w w' := by
  obtain ⟨i0, hinf, hz0, hz1, hz2⟩ := info_parts string_info
  have W0 := hide w0
  have Hz := hide hz
  have k0 := w0.cap
  by_cases h4 : n0 = 4
  · subst h4
    obtain ⟨x, y, z, t, rfl⟩ : ∃ x y z t, b0 = [x, y, z, t] := by
      match b0, w0.len with
      | [x, y, z, t], _ => exact ⟨x, y, z, t, rfl⟩
    obtain ⟨g, o, _, rfl, _, _⟩ := w0.at_ (k := 0) (by omega)
    have Hcell : Hid (∀ W, Below w.heap.size w W → W.cell? ⟨g, o, none⟩ = some (.int .u8 (x.toNat : Int)) ∧ W.cell? ⟨g, o + 1, none⟩ = some (.int .u8 (y.toNat : Int)) ∧ W.cell? ⟨g, o + 2, none⟩ = some (.int .u8 (z.toNat : Int)) ∧ W.cell? ⟨g, o + 3, none⟩ = some (.int .u8 (t.toNat : Int))) := hide (fun W hW =>
      ⟨(W0.out.below hW).cell_at (k := 0) rfl, (W0.out.below hW).cell_at (k := 1) rfl, (W0.out.below hW).cell_at (k := 2) rfl, (W0.out.below hW).cell_at (k := 3) rfl⟩)
    have Ht := hide (fText_any (some ⟨g, o, none⟩) 4 c0 [x, y, z, t] w no g4 o4 g6 o6 hz w0 (Or.inl rfl))
    rw [show ipText [x, y, z, t] = dotsL [x, y, z, t] by unfold ipText; rw [if_pos (by simp)]] at Ht
    have Hcut := hide (read_cut x y z t)
    have Hend := hide (cut_end x y z t)
    have hT1 := dotsL_len4 x y z t
    have hT2 := dotsL_ge4 x y z t
    generalize dotsL [x, y, z, t] = T at *
    clear w0 hz
    go_enter Tryd.func9, Tryd.ntmps9
    go_wp2_with fail
    with_reducible refine Ht.out.mono ?_
    rintro e wa ⟨rfl, hba⟩
    have Hba := hide hba
    have Hst : Hid ((wa.alloc (.cells #[] 9)).ownsRow wa.heap.size 9 1 (.slice (some ⟨wa.heap.size, 0, none⟩) 0 0) 0 ((cutL T 0).map sv) ∧ Below wa.heap.size wa (wa.alloc (.cells #[] 9))) :=
      hide ⟨own_empty wa wa.heap.size _ (Nat.le_refl _), (Below.refl _ _).alloc (Nat.le_refl _) _⟩
    clear hba Ht
    go_wp2_with fail
    go_loopw [4, 20] (fun v i wr => ∃ k : Nat, k ≤ T.length + 1 ∧ i = .int .i64 k ∧ wr.ownsRow wa.heap.size 9 1 v k ((cutL T k).map sv) ∧ Below wa.heap.size wa wr) (fun _ i _ => T.length + 1 - (intOf i).toNat)
    case atStart => exact ⟨0, Nat.zero_le _, rfl, Hst.out⟩
    case round =>
      obtain ⟨k, hk, rfl, h1, h2⟩ := hrel
      have H1 := hide h1
      have H2 := hide h2
      by_cases hlt : k < T.length + 1
      · have Hsn := hide (cutL_snoc T k)
        have hsz := h2.size
        have hx : (ByteArray.mk T.toArray).extract 0 k = ⟨(T.take k).toArray⟩ := by rw [ba_extract]; simp
        have l1 : (k : Int) < (T.length : Int) + 1 := by omega
        have l2 : (0 : Int) ≤ k := by omega
        have l3 : (k : Int) ≤ (T.length : Int) := by omega
        have Ho := hide (h1.alloc (.cells #[.string ⟨(T.take k).toArray⟩] 9))
        generalize (cutL T k).map sv = nv at *
        generalize T.take k = tx at *
        clear h1 h2
        go_wp2_with (at_builtin; refine wpList_append_rd _ rfl (.tmp 23) (.tmp 27) _ rfl wa.heap.size 9 i0 _ 16 Tryd.underlying34 hinf hz0 hz1 hz2 rfl _ k _ rfl Ho.out no (some ⟨wr.heap.size, 0, none⟩) 1 1 [.string ⟨tx.toArray⟩] rfl ?p1 ?p2 ?p3 ?p4 ?p5 ?_)
        case p1 => exact Rd.one wr _ _ no (fun h => h)
        case p2 => first | rfl | (intro u hu; simp at hu; subst hu; rfl)
        case p3 => unfold maxLen; omega
        case p4 => omega
        case p5 => first | omega | (simp; omega)
        intro v' w2 q1 q2 q3
        have HB := hide (below_append (H2.out.alloc H2.out.size _) q2 Ho.out (by simp; omega))
        have HO := hide q1
        rw [← Hsn.out] at HO
        clear q1 q2 q3 Ho
        go_wp2_with fail
        go_roundw
        case rel => exact ⟨k + 1, by omega, by go_num, HO.out, HB.out⟩
        case measure => simp [intOf]; omega
      · obtain ⟨wb, rfl⟩ : ∃ wb : World, wb = wr := ⟨_, rfl⟩
        have hkl : k = T.length + 1 := by omega
        have l1 : ¬ ((k : Int) < (T.length : Int) + 1) := by omega
        obtain ⟨AL, cL, rfl, hL⟩ := RS.of_own_av (av := no) h1 (fun g h => h.elim)
        have Hbw : Hid (Below w.heap.size w wb) := hide (Hba.out.trans (h2.mono Hba.out.size))
        have Hp := hide (parseEach_any AL k cL (cutL T k) wb g4 o4 g6 o6 hL (by omega) (Hz.out.below Hbw.out).z (by
          intro s hs
          unfold cutL at hs
          obtain ⟨j, _, rfl⟩ := List.mem_map.1 hs
          obtain ⟨_, _, _, _, _, _, _, hsc, _, _⟩ := Hcut.out j
          exact ⟨by simp; omega, hsc⟩))
        have Hlen : Hid (((cutL T k).map readB).length = k) := hide (by unfold cutL; simp)
        have Hrd : Hid (∀ j, j < k → ((cutL T k).map readB)[j]? = some (readB (T.take j))) := hide (by
          intro j hj
          unfold cutL
          rw [List.getElem?_map, List.getElem?_map, List.getElem?_range hj]
          rfl)
        generalize (cutL T k).map readB = rd at *
        have hk7 : ¬ ((T.length : Int) < 7) := by omega
        have hkk : ((k : Int) != (k : Int)) = false := by simp
        have Hkl := hide hkl
        clear h1 h2 hL hlt hkl
        go_wp2_with fail
        with_reducible refine Hp.out.mono ?_
        rintro e wd ⟨A2, c2, rfl, hr2, hb2⟩
        rw [Hlen.out] at hr2 ⊢
        have Hr2 := hide hr2
        have Hbd := hide (Hbw.out.trans (hb2.mono Hbw.out.size))
        clear hr2 hb2 Hp
        go_wp2_with fail
        go_loopw [7, 8, 9, 44] (fun s7 s8 s9 i wr => ∃ k st dg vl : Nat, k ≤ T.length + 1 ∧ i = .int .i64 (k : Int) ∧ s7 = .int .i64 (st : Int) ∧ s8 = .int .i64 (dg : Int) ∧ s9 = .int .i64 (vl : Int) ∧ cutSt (T.take (k - 1)) (0, 0, 0) = (st, dg, vl) ∧ Below wd.heap.size wd wr) (fun _ _ _ i _ => T.length + 1 - (intOf i).toNat)
        case atStart => exact ⟨0, 0, 0, 0, Nat.zero_le _, rfl, rfl, rfl, rfl, rfl, Below.refl _ _⟩
        case round =>
          obtain ⟨j, p1, p2, p3, hj, rfl, rfl, rfl, rfl, hcs, hbr⟩ := hrel
          have Hbr := hide hbr
          have Hcs := hide hcs
          have Hbwr := hide (Hbd.out.trans (hbr.mono Hbd.out.size))
          obtain ⟨p1', p2', p3', e0, b3, b2, b1, _, _, _⟩ := Hcut.out (j - 1)
          rw [hcs] at e0
          injection e0 with e1 e2
          injection e2 with e2 e3
          subst e1 e2 e3
          clear hcs hbr
          by_cases hjl : j < k
          · have hjT : j < T.length + 1 := by have := Hkl.out; omega
            obtain ⟨gb, ob, B, m, d, bb, rfl, hbk, hcb, hrb⟩ := (Hr2.out.below Hbr.out).at_ hjl
            rw [Hrd.out j hjl] at hbk
            injection hbk with hbk
            subst hbk
            obtain ⟨st, dg, vl, HC, v3, v2, v1, hsc, hal, hrd⟩ := Hcut.out j
            have HCS := hide HC
            have Hlm := hide hrb.len
            have jj1 : (j : Int) < (k : Int) := by omega
            have jj0 : (0 : Int) ≤ j := by omega
            have Hrb := hide hrb
            have Hrdk := hide hrd
            clear hrb hrd hsc
            by_cases hj0 : j = 0
            · subst hj0
              rw [Nat.add_zero] at hcb
              have hz : (0, 0, 0) = (st, dg, vl) := by rw [← HC]; rfl
              injection hz with z1 z2
              injection z2 with z2 z3
              subst z1 z2 z3
              have hz' : (0, 0, 0) = (p1, p2, p3) := by rw [← Hcs.out]; rfl
              injection hz' with z1 z2
              injection z2 with z2 z3
              subst z1 z2 z3
              have hm0 : m = 0 := by
                have := Hlm.out
                rw [Hrdk.out, if_pos (Or.inl (by omega))] at this
                simpa using this.symm
              subst hm0
              clear HC
              go_wp2_with fail
              go_roundw
              case rel => exact ⟨1, 0, 0, 0, by omega, rfl, rfl, rfl, rfl, by first | exact HCS.out | rfl, Hbr.out⟩
              case measure => simp [intOf]
            · have jp : (0 : Int) < j := by omega
              obtain ⟨ch, hch⟩ : ∃ ch, T[j - 1]? = some ch := ⟨_, List.getElem?_eq_getElem (by omega)⟩
              have htk := take_last (by omega) hch
              have hst := HC
              rw [htk, cutSt_append, Hcs.out] at hst
              have hmem : ch ∈ T.take j := by rw [htk]; simp
              have hcd := hal ch hmem
              have m1 : (0 : Int) ≤ (j : Int) - 1 := by omega
              have m2 : (j : Int) - 1 < T.length := by omega
              have m3 : ((j : Int) - 1).toNat = j - 1 := by omega
              have hgc : (ByteArray.mk T.toArray)[j - 1]'(by simp [ByteArray.size]; omega) = ch := by
                rw [List.getElem?_eq_getElem (show j - 1 < T.length by omega)] at hch
                exact Option.some.inj hch
              have hc256 := lt_256 ch
              clear HC htk hmem hch hal
              by_cases hc : ch = 46
              · subst hc
                unfold cutSt at hst
                rw [if_pos rfl] at hst
                simp only [cutSt] at hst
                injection hst with z1 z2
                injection z2 with z2 z3
                subst z1 z2 z3
                have hm0 : m = 0 := by
                  have := Hlm.out
                  rw [Hrdk.out, if_pos (Or.inr rfl)] at this
                  simpa using this.symm
                subst hm0
                clear hcd
                by_cases h3 : p1 + 1 < 3
                · have h3' : (p1 : Int) + 1 < 3 := by omega
                  go_wp2_with fail
                  go_roundw
                  case rel => exact ⟨j + 1, p1 + 1, 0, 0, by omega, by go_num, by go_num, rfl, rfl, by rw [Nat.add_sub_cancel]; exact HCS.out, Hbr.out⟩
                  case measure => simp [intOf]; omega
                · have h3' : ¬ ((p1 : Int) + 1 < 3) := by omega
                  go_wp2_with fail
                  go_roundw
                  case rel => exact ⟨j + 1, p1 + 1, 0, 0, by omega, by go_num, by go_num, rfl, rfl, by rw [Nat.add_sub_cancel]; exact HCS.out, Hbr.out⟩
                  case measure => simp [intOf]; omega
              · have hd := hcd.resolve_right hc
                have hd1 : (48 : Int) ≤ (ch.toNat : Int) ∧ (ch.toNat : Int) ≤ 57 := by
                  unfold isDig at hd; simp at hd; omega
                obtain ⟨d1, d2⟩ := hd1
                have hcb46 : ((ch.toNat : Int) == 46) = false := by
                  rw [beq_eq_false_iff_ne]; intro e; exact hc (UInt8.toNat_inj.1 (by simp; omega))
                unfold cutSt at hst
                rw [if_neg hc] at hst
                simp only [cutSt] at hst
                injection hst with z1 z2
                injection z2 with z2 z3
                have hvl : (vl : Int) = 10 * (p3 : Int) + ((ch.toNat : Int) - 48) := by omega
                have Hvl := hide hvl
                subst z1 z2
                clear hcd hc hd z3 hvl
                by_cases h3 : p1 < 3
                · have h3' : (p1 : Int) < 3 := by omega
                  have hm0 : m = 0 := by
                    have := Hlm.out
                    rw [Hrdk.out, if_pos (Or.inl h3)] at this
                    simpa using this.symm
                  subst hm0
                  go_wp2_with fail
                  go_roundw
                  case rel => exact ⟨j + 1, p1, p2 + 1, vl, by omega, by go_num, rfl, by go_num, by have := Hvl.out; go_num, by rw [Nat.add_sub_cancel]; exact HCS.out, Hbr.out⟩
                  case measure => simp [intOf]; omega
                · have h3' : ¬ ((p1 : Int) < 3) := by omega
                  have hd0 : ((p2 : Int) + 1 == 0) = false := by rw [beq_eq_false_iff_ne]; omega
                  have hrd := Hrdk.out
                  rw [if_neg (by omega)] at hrd
                  have hm16 : m = 16 := by
                    have := Hlm.out
                    rw [hrd] at this
                    simpa [pre12] using this.symm
                  subst hm16
                  have hrb := Hrb.out
                  rw [hrd] at hrb
                  obtain ⟨e0, e1, e2, _⟩ := Hcell.out _ Hbwr.out
                  have h256 : IntKind.u8.wrap (10 * (p3 : Int) + ((ch.toNat : Int) - 48)) = (vl : Int) := by rw [IntKind.wrap_u8, ← Hvl.out]; omega
                  have hofn : ((UInt8.ofNat vl).toNat : Int) = vl := by rw [UInt8.toNat_ofNat']; omega
                  have Hl := hide (fun (W : World) (hW : Below wr.heap.size wr W) => fLong_new x y z (UInt8.ofNat vl) wr W hW _ _ _ _ rfl rfl rfl hofn.symm)
                  have Hs := hide (fun (W : World) (A3 : Option Addr) (c3 : Nat) (hW : Below wr.heap.size wr W) (hA : RB W no A3 16 c3 (pre12 ++ [x, y, z, UInt8.ofNat vl])) =>
                    (same_any B A3 16 d 16 c3 _ _ W no no (hrb.below hW) hA).mono (fun e w' (h : e = .returned (.bool (eqL (pre12 ++ [x, y, z, UInt8.ofNat vl]) (pre12 ++ [x, y, z, UInt8.ofNat vl]))) ∧ ∃ q, w' = W.drewN q) => show e = .returned (.bool true) ∧ Below wr.heap.size wr w' from
                      ⟨by rw [h.1, show eqL (pre12 ++ [x, y, z, UInt8.ofNat vl]) (pre12 ++ [x, y, z, UInt8.ofNat vl]) = true from eqL_iff.2 rfl], by obtain ⟨q, hq⟩ := h.2; rw [hq]; exact below_drewN hW q⟩))
                  have Hk := hide (fun (W : World) (hW : Below wr.heap.size wr W) => show Below wr.heap.size wr W ∧ W.cell? ⟨gb, ob + j, none⟩ = some (.slice B 16 d) ∧ W.cell? ⟨g, o, none⟩ = some (.int .u8 (x.toNat : Int)) ∧ W.cell? ⟨g, o + 1, none⟩ = some (.int .u8 (y.toNat : Int)) ∧ W.cell? ⟨g, o + 2, none⟩ = some (.int .u8 (z.toNat : Int)) from
                    ⟨hW, cell_below hcb hW, cell_below e0 hW, cell_below e1 hW, cell_below e2 hW⟩)
                  have Hal := hide (fun (W : World) (o : Obj) (hW : Below wr.heap.size wr W) => (hW.alloc hW.size o).drew)
                  have hd0w : Below wr.heap.size wr wr.drew := (Below.refl _ _).drew
                  have hd1w : Below wr.heap.size wr wr := Below.refl _ _
                  generalize UInt8.ofNat vl = tt at *
                  clear hrb hofn hrd Hrb Hrdk
                  go_wp2_with fail
                  go_region_held3 (fun W => Below wr.heap.size wr W ∧ W.cell? ⟨gb, ob + j, none⟩ = some (.slice B 16 d) ∧ W.cell? ⟨g, o, none⟩ = some (.int .u8 (x.toNat : Int)) ∧ W.cell? ⟨g, o + 1, none⟩ = some (.int .u8 (y.toNat : Int)) ∧ W.cell? ⟨g, o + 2, none⟩ = some (.int .u8 (z.toNat : Int))) (first | exact Hk.out _ (by assumption) | exact Hk.out _ (Hal.out _ _ (by assumption)))
                    (first
                      | (go_at_call 17; refine (Hl.out _ ?_).mono ?_; (assumption); rintro e v4 ⟨A4, c4, rfl, hr4, hb4⟩)
                      | (go_at_call 16; refine (Hs.out _ _ _ ?_ ?_).mono ?_; (assumption); (assumption); rintro e v5 ⟨rfl, hb5⟩))
                  go_wp2_with fail
                  go_roundw
                  case rel => exact ⟨j + 1, p1, p2 + 1, vl, by omega, by go_num, rfl, by go_num, by have := Hvl.out; go_num, by rw [Nat.add_sub_cancel]; exact HCS.out, Hbr.out.trans (hb5.mono Hbr.out.size)⟩
                  case measure => simp [intOf]; omega
          · obtain rfl : j = k := by have := Hkl.out; omega
            have hcs := Hcs.out
            rw [Hkl.out, Nat.add_sub_cancel, List.take_length] at hcs
            obtain ⟨dge, hend⟩ := Hend.out
            rw [hend] at hcs
            injection hcs with z1 z2
            injection z2 with z2 z3
            subst z1 z2 z3
            obtain ⟨_, _, _, e3⟩ := Hcell.out _ Hbwr.out
            have tt1 : ((t.toNat : Int) == (t.toNat : Int)) = true := by simp
            clear hend
            go_wp2_with fail
            go_ret
            exact ⟨rfl, Hbwr.out⟩
  · have h4' : ((n0 : Int) == 4) = false := by rw [beq_eq_false_iff_ne]; omega
    clear w0 hz
    go_enter Tryd.func9, Tryd.ntmps9
    go_wp2_with fail
    go_ret
    exact ⟨rfl, Below.refl _ _⟩
end Go.Proofs.YtmfcgglgolajnaaDoor
