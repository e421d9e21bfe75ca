/-
  The walk of FnLastNumbers.
-/
import Derived.Test.YtekmlhkoibgmlaaDoorFRead
import Derived.Test.YtekmlhkoibgmlaaDoorDotsL
import Derived.Test.YtekmlhkoibgmlaaDoorSame
import Derived.Deep.RegionHeld3
namespace Go.Proofs.YtekmlhkoibgmlaaDoor
open Go.RowKit
set_option linter.unusedVariables false

theorem string_info : (Tryd.prog.info? 9).map (fun i => (i.zero, i.size, i.bytes)) = some (some (.string ⟨#[]⟩), 1, 16) := by kernel_rfl
/-- The number that is taken. -/
def nfN (z : Int) : Nat := (bits .and .i64 z 1048575).toNat
theorem nf_is (z : Int) : bits .and .i64 z 1048575 = (nfN z : Int) ∧ nfN z ≤ 1048575 := by
  obtain ⟨r, h1, h2⟩ := and_nat z 1048575 (by omega)
  have h1' : bits .and .i64 z 1048575 = (r : Int) := h1
  unfold nfN
  rw [h1', Int.toNat_natCast]
  exact ⟨rfl, h2⟩
def lnT (x y z : UInt8) (n : Int) : List UInt8 := dots4 x y z (decL (nfN n))
def lnV (x y z : UInt8) (zs : List Int) (k : Nat) : List Value := ((zs.take k).map (lnT x y z)).map sv
theorem lnV_snoc {x y z : UInt8} {zs : List Int} {k : Nat} {n : Int} (h : zs[k]? = some n) : lnV x y z zs (k + 1) = lnV x y z zs k ++ [.string ⟨(lnT x y z n).toArray⟩] := by
  unfold lnV; rw [take_snoc h]; simp [sv]
theorem dec_small {n : Nat} (h : n ≤ 1048575) : (decL n).length ≤ 7 := decL_length_le (k := 6) (by omega)
theorem lnT_len (x y z : UInt8) (n : Int) : (lnT x y z n).length ≤ 100 := by
  have h1 := decL_short3 x
  have h2 := decL_short3 y
  have h3 := decL_short3 z
  have h4 := dec_small (nf_is n).2
  unfold lnT dots4
  simp only [List.length_append, List.length_cons, List.length_nil]
  omega

/-- fLong of a slice that was just laid. -/
theorem fLong_new (x y z t : UInt8) (v W : World) (hW : Below v.heap.size v W) (vx vy vz vt : Int) (ex : vx = x.toNat) (ey : vy = y.toNat) (ez : vz = z.toNat) (et : vt = t.toNat) :
    Calls Tryd.prog 20 #[.slice (some ⟨W.heap.size, 0, none⟩) 4 4] (W.alloc (.cells #[.int .u8 vx, .int .u8 vy, .int .u8 vz, .int .u8 vt] 5)).drew fun e w' => ∃ A c, e = .returned (.slice A 16 c) ∧ RB w' no A 16 c (pre12 ++ [x, y, z, t]) ∧ Below v.heap.size v w' := by
  subst ex ey ez et
  have hb := Blk.new W 5 ([x, y, z, t].map fun b => Value.int .u8 (b.toNat : Int))
  have hr : RB (W.alloc (.cells ([x, y, z, t].map fun b => Value.int .u8 (b.toNat : Int)).toArray 5)).drew no (some ⟨W.heap.size, 0, none⟩) 4 4 [x, y, z, t] := hb.drew.rb (fun h => h) rfl (Nat.le_refl _) (by unfold maxLen; omega)
  have hv : Below v.heap.size v (W.alloc (.cells ([x, y, z, t].map fun b => Value.int .u8 (b.toNat : Int)).toArray 5)).drew := (hW.alloc hW.size _).drew
  refine (fLong_any _ 4 4 [x, y, z, t] _ no hr (Or.inl rfl)).mono ?_
  rintro e w' ⟨A, c, rfl, h1, h2⟩
  exact ⟨A, c, rfl, h1.free, hv.trans (h2.mono hv.size)⟩

set_option maxRecDepth 100000 in
set_option maxHeartbeats 3200000 in
theorem fnLastNumbers_walk (w : World) (g4 o4 g6 o6 : Nat) (hz : ZIs w g4 o4 g6 o6) (a0 : Option Addr) (n0 c0 : Nat) (b0 : List UInt8) (w0 : RB w no a0 n0 c0 b0) (r0 : c0 ≤ 1048576) (a1 : Option Addr) (n1 c1 : Nat) (zs : List Int) (w1 : RI w no a1 n1 c1 zs) (r1 : c1 ≤ 1048576) :
    Calls Tryd.prog 7 #[.slice a0 n0 c0, .slice a1 n1 c1] w fun e w' => e = .returned (.bool true) ∧ Below w.heap.size w w' := by
  obtain ⟨i0, hi, hz0, hz1, hz2⟩ := info_parts string_info
  have W0 := hide w0
  have W1 := hide w1
  have Hz := hide hz
  have k0 := w0.cap
  have k1 := w1.cap
  by_cases h4 : n0 = 4
  · subst h4
    obtain ⟨x, y, z, t, rfl⟩ : ∃ x y z t, b0 = [x, y, z, t] := by
      match b0, w0.len with
      | [x, y, z, t], _ => exact ⟨x, y, z, t, rfl⟩
    obtain ⟨g, o, _, rfl, _, _⟩ := w0.at_ (k := 0) (by omega)
    have hcell : ∀ W, Below w.heap.size w W → W.cell? ⟨g, o, none⟩ = some (.int .u8 (x.toNat : Int)) ∧ W.cell? ⟨g, o + 1, none⟩ = some (.int .u8 (y.toNat : Int)) ∧ W.cell? ⟨g, o + 2, none⟩ = some (.int .u8 (z.toNat : Int)) := by
      intro W hW
      have h := W0.out.below hW
      obtain ⟨q0, p0, u0, e0, f0, l0⟩ := h.at_ (k := 0) (by omega)
      obtain ⟨q1, p1, u1, e1, f1, l1⟩ := h.at_ (k := 1) (by omega)
      obtain ⟨q2, p2, u2, e2, f2, l2⟩ := h.at_ (k := 2) (by omega)
      injection e0 with e0; injection e0 with e0 e0'; subst e0 e0'
      injection e1 with e1; injection e1 with e1 e1'; subst e1 e1'
      injection e2 with e2; injection e2 with e2 e2'; subst e2 e2'
      simp at f0 f1 f2
      subst f0 f1 f2
      exact ⟨l0, l1, l2⟩
    have Hcell := hide hcell
    have Hst : Hid ((w.alloc (.cells #[] 9)).ownsRow w.heap.size 9 1 (.slice (some ⟨w.heap.size, 0, none⟩) 0 0) 0 (lnV x y z zs 0) ∧ Below w.heap.size w (w.alloc (.cells #[] 9))) :=
      hide ⟨own_empty w w.heap.size _ (Nat.le_refl _), (Below.refl _ _).alloc (Nat.le_refl _) _⟩
    clear w0 w1 hz hcell
    go_enter Tryd.func7, Tryd.ntmps7
    go_wp2_with fail
    go_loopw [5, 17] (fun v i wr => ∃ k : Nat, k ≤ n1 ∧ i = .int .i64 k ∧ wr.ownsRow w.heap.size 9 1 v k (lnV x y z zs k) ∧ Below w.heap.size w wr) (fun _ i _ => n1 - (intOf i).toNat)
    case atStart => exact ⟨0, Nat.zero_le _, rfl, Hst.out⟩
    case round =>
      obtain ⟨k, hk, rfl, h1, h2⟩ := hrel
      have H1 := hide h1
      have H2 := hide h2
      by_cases hlt : k < n1
      · obtain ⟨ga, oa, n, rfl, hnk, hc⟩ := (W1.out.below h2).at_ hlt
        obtain ⟨hnf, hnl⟩ := nf_is n
        obtain ⟨e0, e1, e2⟩ := Hcell.out wr h2
        have hdl := dec_small hnl
        have Hd := hide (fDecimal_any (nfN n) hnl wr)
        have Hf := hide (fDots_any g o 4 c0 x y z (decL (nfN n)) wr (by omega) e0 e1 e2 (by omega))
        have hln : dots4 x y z (decL (nfN n)) = lnT x y z n := rfl
        rw [hln] at Hf
        have Hsn := hide (lnV_snoc (x := x) (y := y) (z := z) hnk)
        have hsz := h2.size
        have Ho := hide (fun m => (own_drewN h1 m).alloc (.cells #[.string ⟨(lnT x y z n).toArray⟩] 9))
        generalize lnV x y z zs k = nv at *
        generalize lnT x y z n = tx at *
        generalize decL (nfN n) = dn at *
        clear h1 h2 hnk e0 e1 e2 hdl hln
        go_wp2_with fail
        with_reducible refine Hd.out.mono ?_
        rintro e w' ⟨rfl, rfl⟩
        go_wp2_with fail
        with_reducible refine Hf.out.mono ?_
        rintro e w' ⟨rfl, m, rfl⟩
        go_wp2_with (at_builtin; refine wpList_append_rd _ rfl (.tmp 21) (.tmp 27) _ rfl w.heap.size 9 i0 _ 16 Tryd.underlying23 hi hz0 hz1 hz2 rfl _ k _ rfl (Ho.out m) no (some ⟨(wr.drewN m).heap.size, 0, none⟩) 1 1 [.string ⟨tx.toArray⟩] rfl ?_ ?_ ?_ ?_ ?_ ?_)
        · exact Rd.one (wr.drewN m) _ _ no (fun h => h)
        · first | rfl | (intro u hu; simp at hu; subst hu; rfl)
        · unfold maxLen; omega
        · omega
        · first | omega | (simp; omega)
        intro v' w2 q1 q2 q3
        have hbd : Below w.heap.size w (wr.drewN m) := below_drewN H2.out m
        have HB := hide (below_append (hbd.alloc hbd.size _) q2 (Ho.out m) (by simp; omega))
        have HO := hide q1
        rw [← Hsn.out] at HO
        clear q1 q2 q3 Ho hbd
        go_wp2_with fail
        go_roundw
        case rel => exact ⟨k + 1, by omega, by go_num, HO.out, HB.out⟩
        case measure => simp [intOf]; omega
      · obtain rfl : k = n1 := by omega
        obtain ⟨v1, rfl⟩ : ∃ v1 : World, v1 = wr := ⟨_, rfl⟩
        have hnv : lnV x y z zs k = (zs.map (lnT x y z)).map sv := by unfold lnV; rw [List.take_of_length_le (by rw [W1.out.len]; omega)]
        rw [hnv] at h1
        obtain ⟨AL, cL, rfl, hL⟩ := RS.of_own_av (av := no) h1 (fun g h => h.elim)
        have Hp := hide (parseEach_any AL k cL (zs.map (lnT x y z)) v1 g4 o4 g6 o6 hL (by omega) (Hz.out.below h2) (by
          intro s hs
          obtain ⟨n, _, rfl⟩ := List.mem_map.1 hs
          refine ⟨by have := lnT_len x y z n; omega, ?_⟩
          unfold lnT; rw [scan_dots4]; simp))
        have hlen : ((zs.map (lnT x y z)).map readB).length = k := by rw [List.length_map, List.length_map, W1.out.len]
        have Hlen := hide hlen
        have Hrd : Hid (∀ (j : Nat) (n : Int), zs[j]? = some n → ((zs.map (lnT x y z)).map readB)[j]? = some (if nfN n ≤ 255 then pre12 ++ [x, y, z, UInt8.ofNat (nfN n)] else [])) := hide (by
          intro j n hj
          rw [List.getElem?_map, List.getElem?_map, hj]
          simp only [Option.map_some]
          unfold lnT
          rw [read_dots4])
        generalize (zs.map (lnT x y z)).map readB = rd at *
        clear h1 h2 hnv hL hlen
        go_wp2_with fail
        with_reducible refine Hp.out.mono ?_
        rintro e v2 ⟨A2, c2, rfl, hr2, hb2⟩
        rw [Hlen.out] at hr2 ⊢
        have Hr2 := hide hr2
        have hbw2 : Below w.heap.size w v2 := H2.out.trans (hb2.mono H2.out.size)
        have Hb2 := hide hbw2
        have hk2 : ((k : Int) != (k : Int)) = false := by simp
        have hrs : RS (v2.alloc (.cells #[.string ⟨#[]⟩] 9)) no (some ⟨v2.heap.size, 0, none⟩) 1 1 [[]] := ⟨rfl, Nat.le_refl _, by unfold maxLen; omega, Rd.one v2 _ _ no (fun h => h)⟩
        have hba : Below w.heap.size w (v2.alloc (.cells #[.string ⟨#[]⟩] 9)) := hbw2.alloc hbw2.size _
        have Hp2 := hide (parseEach_any _ 1 1 [[]] _ g4 o4 g6 o6 hrs (by omega) (Hz.out.below hba) (by intro s hs; simp at hs; subst hs; exact ⟨by simp, by rw [scan_nil]; simp⟩))
        have Hba : Hid (Below v2.heap.size v2 (v2.alloc (.cells #[.string ⟨#[]⟩] 9))) := hide ((Below.refl _ _).alloc (Nat.le_refl _) _)
        clear hr2 hb2 hbw2 hrs hba Hp
        go_wp2_with fail
        with_reducible refine Hp2.out.mono ?_
        rintro e v3 ⟨A3, c3, rfl, hr3, hb3⟩
        rw [show ([([] : List UInt8)].map readB).length = 1 from rfl]
        have hb23 : Below v2.heap.size v2 v3 := Hba.out.trans (hb3.mono Hba.out.size)
        have Hr3 := hide (Hr2.out.below hb23)
        have Hb3 := hide (Hb2.out.trans (hb23.mono Hb2.out.size))
        clear hr3 hb3 hb23 Hp2
        go_wp2_with fail
        go_loopw [45] (fun i wr => ∃ j : Nat, j ≤ k ∧ i = .int .i64 j ∧ Below v3.heap.size v3 wr) (fun i _ => k - (intOf i).toNat)
        case atStart => exact ⟨0, Nat.zero_le _, rfl, Below.refl _ _⟩
        case round =>
          obtain ⟨j, hj, rfl, hbr⟩ := hrel
          have Hbr := hide hbr
          have hbwr := Hb3.out.trans (hbr.mono Hb3.out.size)
          have Hbwr := hide hbwr
          by_cases hjl : j < k
          · obtain ⟨ga, oa, n, rfl, hnk, hc⟩ := (W1.out.below hbwr).at_ hjl
            obtain ⟨hnf, hnl⟩ := nf_is n
            obtain ⟨gb, ob, B, m, d, b, rfl, hbk, hcb, hrb⟩ := (Hr3.out.below hbr).at_ hjl
            rw [Hrd.out j n hnk] at hbk
            injection hbk with hbk
            obtain ⟨e0, e1, e2⟩ := Hcell.out _ hbwr
            by_cases hbig : 255 < nfN n
            · have hb1 : (255 : Int) < (nfN n : Int) := by omega
              rw [if_neg (by omega)] at hbk
              subst hbk
              obtain rfl : 0 = m := hrb.len
              generalize nfN n = nn at *
              clear hnk hrb hbr hbwr e0 e1 e2
              go_wp2_with fail
              go_roundw
              case rel => exact ⟨j + 1, by omega, by go_num, Hbr.out⟩
              case measure => simp [intOf]; omega
            · have hb1 : ¬ ((255 : Int) < (nfN n : Int)) := by omega
              rw [if_pos (by omega)] at hbk
              subst hbk
              obtain rfl : 16 = m := hrb.len
              have h256 : IntKind.u8.wrap (nfN n : Int) = nfN n := by rw [IntKind.wrap_u8]; omega
              have hofn : ((UInt8.ofNat (nfN n)).toNat : Int) = nfN n := by rw [UInt8.toNat_ofNat']; omega
              have Hl := hide (fun (W : World) (hW : Below wr.heap.size wr W) => fLong_new x y z (UInt8.ofNat (nfN n)) wr W hW _ _ _ _ rfl rfl rfl hofn.symm)
              have Hs := hide (fun (W : World) (A3 : Option Addr) (c3 : Nat) (hW : Below wr.heap.size wr W) (hA : RB W no A3 16 c3 (pre12 ++ [x, y, z, UInt8.ofNat (nfN n)])) =>
                (same_any B A3 16 d 16 c3 _ _ W no no (hrb.below hW) hA).mono (fun e w' (h : e = .returned (.bool (eqL (pre12 ++ [x, y, z, UInt8.ofNat (nfN n)]) (pre12 ++ [x, y, z, UInt8.ofNat (nfN n)]))) ∧ ∃ q, w' = W.drewN q) => show e = .returned (.bool true) ∧ Below wr.heap.size wr w' from
                  ⟨by rw [h.1, show eqL (pre12 ++ [x, y, z, UInt8.ofNat (nfN n)]) (pre12 ++ [x, y, z, UInt8.ofNat (nfN n)]) = true from eqL_iff.2 rfl], by obtain ⟨q, hq⟩ := h.2; rw [hq]; exact below_drewN hW q⟩))
              have Hk := hide (fun (W : World) (hW : Below wr.heap.size wr W) => show Below wr.heap.size wr W ∧ W.cell? ⟨gb, ob + j, none⟩ = some (.slice B 16 d) ∧ W.cell? ⟨g, o, none⟩ = some (.int .u8 (x.toNat : Int)) ∧ W.cell? ⟨g, o + 1, none⟩ = some (.int .u8 (y.toNat : Int)) ∧ W.cell? ⟨g, o + 2, none⟩ = some (.int .u8 (z.toNat : Int)) from
                ⟨hW, cell_below hcb hW, cell_below e0 hW, cell_below e1 hW, cell_below e2 hW⟩)
              have Hal := hide (fun (W : World) (o : Obj) (hW : Below wr.heap.size wr W) => (hW.alloc hW.size o).drew)
              have hd0 : Below wr.heap.size wr wr.drew := (Below.refl _ _).drew
              have hd1 : Below wr.heap.size wr wr := Below.refl _ _
              have i1 : (0 : Int) ≤ j := by omega
              have i2 : (j : Int) < k := by omega
              generalize UInt8.ofNat (nfN n) = tt at *
              generalize nfN n = nn at *
              clear hnk hrb hbr hbwr hofn
              go_wp2_with fail
              go_region_held3 (fun W => Below wr.heap.size wr W ∧ W.cell? ⟨gb, ob + j, none⟩ = some (.slice B 16 d) ∧ W.cell? ⟨g, o, none⟩ = some (.int .u8 (x.toNat : Int)) ∧ W.cell? ⟨g, o + 1, none⟩ = some (.int .u8 (y.toNat : Int)) ∧ W.cell? ⟨g, o + 2, none⟩ = some (.int .u8 (z.toNat : Int))) (first | exact Hk.out _ (by assumption) | exact Hk.out _ (Hal.out _ _ (by assumption)))
                (first
                  | (go_at_call 20; refine (Hl.out _ ?_).mono ?_; (assumption); rintro e v4 ⟨A4, c4, rfl, hr4, hb4⟩)
                  | (go_at_call 17; refine (Hs.out _ _ _ ?_ ?_).mono ?_; (assumption); (assumption); rintro e v5 ⟨rfl, hb5⟩))
              go_wp2_with fail
              go_roundw
              case rel => exact ⟨j + 1, by omega, by go_num, Hbr.out.trans (hb5.mono Hbr.out.size)⟩
              case measure => simp [intOf]; omega
          · obtain rfl : j = k := by omega
            clear hbr hbwr
            go_wp2_with fail
            go_ret
            exact ⟨rfl, Hbwr.out⟩
  · have h4' : ((n0 : Int) == 4) = false := by rw [beq_eq_false_iff_ne]; omega
    clear w0 w1 hz
    go_enter Tryd.func7, Tryd.ntmps7
    go_wp2_with fail
    go_ret
    exact ⟨rfl, Below.refl _ _⟩
end Go.Proofs.YtekmlhkoibgmlaaDoor
