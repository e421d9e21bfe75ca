/-
  The contract of Addr.appendTo6, no zone.
-/
import Derived.Test.YtmfcgglgolajnaaDoorV6U
import Derived.Test.YtmfcgglgolajnaaDoorAppH
import Derived.Test.YtmfcgglgolajnaaDoorT6L
import Derived.Test.YtmfcgglgolajnaaDoorTo4A
namespace Go.Proofs.YtmfcgglgolajnaaDoor
open Go.RowKit
set_option linter.unusedVariables false

theorem run_same_d (d : Nat) (a : Addr) (w : World) : (Op.equalIn (d + 1) 85 (.pointer (some a)) (.pointer (some a))).run Tryd.prog w = .ok true w := by
  have hu : Tryd.prog.underlying 85 = some (.pointer 106) := by kernel_rfl
  obtain ⟨j, hj⟩ : ∃ j, Tryd.prog.info? 106 = some j := by
    cases h : Tryd.prog.info? 106 with
    | none => exact absurd h (by
        intro h
        have : (Tryd.prog.info? 106).isSome = true := by kernel_rfl
        rw [h] at this; cases this)
    | some j => exact ⟨j, rfl⟩
  have hsz : j.size ≠ 0 := by
    have : Tryd.prog.cellsOf 106 = 2 := by kernel_rfl
    unfold Program.cellsOf at this
    rw [hj] at this
    simp at this
    omega
  have hs := run_sameAddr_same (P := Tryd.prog) w a
  simp [Op.equalIn, run_underlying hu, sizeOf, typeInfo, hj, hsz, hs]
theorem run_same (g o : Nat) (w : World) : (Op.equalIn 9999 85 (.pointer (some ⟨g, o, none⟩)) (.pointer (some ⟨g, o, none⟩))).run Tryd.prog w = .ok true w := run_same_d 9998 _ w

theorem push2_step {base : Nat} {w w2 : World} {v v' : Value} {bs : List UInt8} (q1 : w2.ownsRow base 5 1 v' (bs.length + 2) (byV bs ++ [.int .u8 58, .int .u8 58]))
    (q2 : (w.alloc (.cells #[.int .u8 58, .int .u8 58] 5)).grownBy w2 v.ownBlock) (q3 : v'.ownBlock = v.ownBlock ∨ v'.ownBlock = some (w.heap.size + 1)) :
    Own base (bs ++ [58, 58]) v' w2 ∧ Grew v w w2 ∧ Moved v v' w := by
  refine ⟨?_, ?_, ?_⟩
  · unfold Own byV
    rw [List.length_append, List.map_append]
    exact q1
  · have hk : Kept (rowOf v) w w2 := (Kept.alloc (rowOf v) w _).trans (Kept.of_grown q2)
    exact ⟨hk, q2.os, q2.tape, q2.output⟩
  · intro g hg
    rcases q3 with q3 | q3
    · exact Or.inl (by rw [← q3]; exact hg)
    · rw [q3] at hg
      injection hg with hg
      exact Or.inr (by omega)
theorem Rd.two (w : World) (u1 u2 : Value) (t : TypeId) (av : Nat → Prop) (ha : ¬ av w.heap.size) : Rd (w.alloc (.cells #[u1, u2] t)) av (some ⟨w.heap.size, 0, none⟩) 2 [u1, u2] :=
  ⟨rfl, fun _ => ⟨w.heap.size, 0, rfl, by simp, ha, fun j v hv => by
    rcases j with _ | _ | j
    · simp at hv; subst hv; simp [World.cell?_alloc_new]
    · simp at hv; subst hv; simp [World.cell?_alloc_new]
    · simp at hv⟩⟩

theorem zrun_step {g : Nat → Nat} {j : Nat} (h : j < 8) : zrun g (8 - j) j = if g j = 0 then zrun g (8 - (j + 1)) (j + 1) else j := by
  rw [show 8 - j = (8 - (j + 1)) + 1 by omega]; rfl
theorem w6_step {g : Nat → Nat} {zs ze i : Nat} (h : i < 8) : w6 g zs ze (8 - i) i = if i = zs then 58 :: 58 :: (if ze < 8 then hexL (g ze) ++ w6 g zs ze (8 - (i + 1)) (ze + 1) else []) else (if 0 < i then [58] else []) ++ (hexL (g i) ++ w6 g zs ze (8 - (i + 1)) (i + 1)) := by
  rw [show 8 - i = (8 - (i + 1)) + 1 by omega]
  show (if i < 8 then _ else _) = _
  rw [if_pos h]

theorem w6_len (g : Nat → Nat) (hg : ∀ i, g i < 65536) (zs ze : Nat) : ∀ n i, (w6 g zs ze n i).length ≤ 6 * n
  | 0, _ => by simp [w6]
  | n + 1, i => by
    have h1 := hexL_len (hg ze)
    have h2 := hexL_len (hg i)
    have h3 := w6_len g hg zs ze n (ze + 1)
    have h4 := w6_len g hg zs ze n (i + 1)
    unfold w6
    split
    · split
      · split
        · simp only [List.length_cons, List.length_append]; omega
        · simp only [List.length_cons, List.length_nil]; omega
      · split
        · simp only [List.length_cons, List.length_append, List.length_nil]; omega
        · simp only [List.length_append, List.length_nil]; omega
    · simp
theorem txt6_len (g : Nat → Nat) (hg : ∀ i, g i < 65536) : (txt6 g).length ≤ 48 := w6_len g hg _ _ 8 0

/-- The state of the loop that writes. -/
structure Wr6 (base : Nat) (T : List UInt8) (g : Nat → Nat) (zs ze : Nat) (v : Value) (w0 : World) (i : Nat) (v' : Value) (wr : World) : Prop where
  out : ∃ L, Own base L v' wr ∧ L ++ w6 g zs ze (8 - i) i = T
  gr : Grew v w0 wr
  mo : Moved v v' w0

set_option maxRecDepth 100000 in
set_option maxHeartbeats 3200000 in
theorem to6a_any (base : Nat) (bs : List UInt8) (L0 : List UInt8) (v : Value) (w : World) (g4 o4 g6 o6 : Nat) (hz : ZX w g4 o4 g6 o6) (hb6 : 4 < base) (ho : Own base L0 v w) (hb : base ≤ w.heap.size) (hl0 : L0.length ≤ 500) :
    Calls Tryd.prog 67 #[addrV (hi6 bs) (lo6 bs) (some ⟨g6, o6, none⟩), v] w (AppR base v w (L0 ++ txt6 (grpN bs))) := by
  obtain ⟨i0, hinf, hz0, hz1, hz2⟩ := info_parts byte_info
  have Ho := hide ho
  have Hz := hide hz
  have Hv := hide (fun (i : Nat) (hi : i < 8) (W : World) => v6u_any bs i hi (some ⟨g6, o6, none⟩) W)
  have Hlt := hide (fun i => grpN_lt bs i)
  have q0 := run_same g6 o6
  generalize grpN bs = g at *
  generalize hi6 bs = hh at *
  generalize lo6 bs = ll at *
  clear ho hz
  unfold addrV at *
  go_enter Tryd.func67, Tryd.ntmps67
  go_wp2_with fail
  generalize hW : w.alloc (.cells #[.int .u64 (hh : Int), .int .u64 (ll : Int), .pointer (some ⟨g6, o6, none⟩)] 89) = w0 at *
  have hbx : Blk w0 w.heap.size 89 [.int .u64 (hh : Int), .int .u64 (ll : Int), .pointer (some ⟨g6, o6, none⟩)] := by rw [← hW]; exact Blk.new w _ _
  have hsz : w0.heap.size = w.heap.size + 1 := by rw [← hW]; simp
  have Hbx := hide hbx
  have Hg0 : Hid (Grew v w w0) := hide (by rw [← hW]; exact Grew.of_below ((Below.refl _ _).alloc (Nat.le_refl _) _))
  have Ho0 : Hid (Own base L0 v w0) := hide (by rw [← hW]; exact Ho.out.alloc _)
  have Hb0 : Hid (base ≤ w0.heap.size) := hide (by omega)
  have Hz0 : Hid (ZX w0 g4 o4 g6 o6) := hide (by rw [← hW]; exact Hz.out.alloc _)
  clear hW hbx
  go_loopw [5, 6, 7] (fun s5 s6 s7 wr => ∃ i : Nat, i ≤ 8 ∧ s5 = .int .u8 ((zfind g i).1 : Int) ∧ s6 = .int .u8 ((zfind g i).2 : Int) ∧ s7 = .int .u8 (i : Int) ∧ Below w0.heap.size w0 wr) (fun _ _ s7 _ => 8 - (intOf s7).toNat)
  case atStart => exact ⟨0, Nat.zero_le _, rfl, rfl, rfl, Below.refl _ _⟩
  case round =>
    obtain ⟨i, hi8, rfl, rfl, rfl, hbr⟩ := hrel
    obtain ⟨hze1, hze2⟩ := zfind_le g hi8
    have Hstep : Hid (zfind g (i + 1) = if 2 ≤ zend g i - i ∧ (zfind g i).2 - (zfind g i).1 < zend g i - i then (i, zend g i) else zfind g i) := hide rfl
    have Hbr := hide hbr
    generalize hzf : zfind g i = zf at *
    obtain ⟨zs, ze⟩ := zf
    have Hzf := hide hzf
    clear hbr hzf
    by_cases hi : i < 8
    · have i1 : (i : Int) < 8 := by omega
      have i2 : (0 : Int) ≤ i := by omega
      have z1 : (zs : Int) ≤ ze := by simpa using hze1
      have z2 : (ze : Int) ≤ 255 := by simp at hze2; omega
      have z3 : (0 : Int) ≤ zs := by omega
      clear hze1 hze2
      go_wp2_with fail
      go_loopw [8] (fun s8 wq => ∃ j : Nat, i ≤ j ∧ j ≤ 8 ∧ s8 = .int .u8 (j : Int) ∧ zrun g (8 - j) j = zend g i ∧ Below w0.heap.size w0 wq) (fun s8 _ => 8 - (intOf s8).toNat)
      case atStart => exact ⟨i, Nat.le_refl _, hi8, rfl, rfl, Hbr.out⟩
      case round =>
        obtain ⟨j, hj1, hj2, rfl, hzr, hbq⟩ := hrel
        have Hzr := hide hzr
        have Hbq := hide hbq
        clear hzr hbq
        by_cases hj : j < 8
        · have j1 : (j : Int) < 8 := by omega
          have j2 : (0 : Int) ≤ j := by omega
          have hbk := Hbx.out.below Hbq.out
          have c0 : wr.cell? ⟨w.heap.size, 0, none⟩ = some (.int .u64 (hh : Int)) := hbk.cell 0
          have c1 : wr.cell? ⟨w.heap.size, 1, none⟩ = some (.int .u64 (ll : Int)) := hbk.cell 1
          have c2 : wr.cell? ⟨w.heap.size, 2, none⟩ = some (.pointer (some ⟨g6, o6, none⟩)) := hbk.cell 2
          have Hc := hide (Hv.out j hj wr)
          have hzr := Hzr.out
          rw [zrun_step hj] at hzr
          have Hzr2 := hide hzr
          clear hbk hzr
          go_wp2_with fail
          with_reducible refine Hc.out.mono ?_
          rintro e w3 ⟨rfl, hb3⟩
          have Hb3 := hide (Hbq.out.trans (hb3.mono Hbq.out.size))
          clear hb3 Hc c0 c1 c2
          by_cases hg : g j = 0
          · have hg' : ((g j : Int) == 0) = true := by rw [hg]; rfl
            have hzr := Hzr2.out
            rw [if_pos hg] at hzr
            have Hzr3 := hide hzr
            clear hzr hg
            go_wp2_with fail
            go_roundw
            case rel => exact ⟨j + 1, by omega, by omega, by go_num, Hzr3.out, Hb3.out⟩
            case measure => simp [intOf]; omega
          · have hg' : ((g j : Int) == 0) = false := by rw [beq_eq_false_iff_ne]; omega
            have hzr := Hzr2.out
            rw [if_neg hg] at hzr
            have Hst := Hstep.out
            rw [← hzr] at Hst
            have Hst2 := hide Hst
            clear hzr hg Hst
            have l0 : (0 : Int) ≤ (j : Int) - i := by omega
            by_cases h2 : 2 ≤ j - i
            · have h2' : (2 : Int) ≤ (j : Int) - i := by omega
              by_cases h3 : ze - zs < j - i
              · have h3' : (ze : Int) - zs < (j : Int) - i := by omega
                go_wp2_with fail
                go_roundw
                case rel =>
                  refine ⟨i + 1, by omega, ?_, ?_, by go_num, Hb3.out⟩
                  · rw [Hst2.out, if_pos ⟨h2, h3⟩]
                  · rw [Hst2.out, if_pos ⟨h2, h3⟩]
                case measure => simp [intOf]; omega
              · have h3' : ¬ ((ze : Int) - zs < (j : Int) - i) := by omega
                go_wp2_with fail
                go_roundw
                case rel =>
                  refine ⟨i + 1, by omega, ?_, ?_, by go_num, Hb3.out⟩
                  · rw [Hst2.out, if_neg (fun h => h3 h.2)]
                  · rw [Hst2.out, if_neg (fun h => h3 h.2)]
                case measure => simp [intOf]; omega
            · have h2' : ¬ ((2 : Int) ≤ (j : Int) - i) := by omega
              go_wp2_with fail
              go_roundw
              case rel =>
                refine ⟨i + 1, by omega, ?_, ?_, by go_num, Hb3.out⟩
                · rw [Hst2.out, if_neg (fun h => h2 h.1)]
                · rw [Hst2.out, if_neg (fun h => h2 h.1)]
              case measure => simp [intOf]; omega
        · obtain rfl : j = 8 := by omega
          have hzr : 8 = zend g i := Hzr.out
          have Hst := Hstep.out
          rw [← hzr] at Hst
          have Hst2 := hide Hst
          clear hzr Hst
          have l0 : (0 : Int) ≤ 8 - (i : Int) := by omega
          by_cases h2 : 2 ≤ 8 - i
          · have h2' : (2 : Int) ≤ 8 - (i : Int) := by omega
            by_cases h3 : ze - zs < 8 - i
            · have h3' : (ze : Int) - zs < 8 - (i : Int) := by omega
              go_wp2_with fail
              go_roundw
              case rel =>
                refine ⟨i + 1, by omega, ?_, ?_, by go_num, Hbq.out⟩
                · rw [Hst2.out, if_pos ⟨h2, h3⟩]
                · rw [Hst2.out, if_pos ⟨h2, h3⟩]
              case measure => simp [intOf]; omega
            · have h3' : ¬ ((ze : Int) - zs < 8 - (i : Int)) := by omega
              go_wp2_with fail
              go_roundw
              case rel =>
                refine ⟨i + 1, by omega, ?_, ?_, by go_num, Hbq.out⟩
                · rw [Hst2.out, if_neg (fun h => h3 h.2)]
                · rw [Hst2.out, if_neg (fun h => h3 h.2)]
              case measure => simp [intOf]; omega
          · have h2' : ¬ ((2 : Int) ≤ 8 - (i : Int)) := by omega
            go_wp2_with fail
            go_roundw
            case rel =>
              refine ⟨i + 1, by omega, ?_, ?_, by go_num, Hbq.out⟩
              · rw [Hst2.out, if_neg (fun h => h2 h.1)]
              · rw [Hst2.out, if_neg (fun h => h2 h.1)]
            case measure => simp [intOf]; omega
    · obtain rfl : i = 8 := by omega
      obtain ⟨wa, rfl⟩ : ∃ wa : World, wa = wr := ⟨_, rfl⟩
      have hcase := zfind_or g 8 (Nat.le_refl _)
      rw [Hzf.out] at hcase
      have hz8 : zs < 8 → zs < ze ∧ ze ≤ 8 := by
        rcases hcase with h | ⟨h1, h2, h3, h4⟩
        · injection h with h1 h2; omega
        · simp at h1 h2 h4; omega
      have z2 : ze ≤ 255 := by simpa using hze2
      have z1 : zs ≤ ze := by simpa using hze1
      have Hz8 := hide hz8
      have HT : Hid (L0 ++ w6 g zs ze 8 0 = L0 ++ txt6 g) := hide (by unfold txt6; rw [Hzf.out])
      have Hst : Hid (Wr6 base (L0 ++ txt6 g) g zs ze v w0 0 v wa) := hide ⟨⟨L0, Ho0.out.below Hbr.out, HT.out⟩, Grew.of_below Hbr.out, Moved.refl _ _⟩
      have HTl : Hid ((L0 ++ txt6 g).length ≤ 900) := hide (by
        rw [List.length_append]
        have := txt6_len g Hlt.out
        omega)
      generalize L0 ++ txt6 g = T at *
      clear hcase hz8 hze1 hze2 Hstep Hzf HT
      rw [show ((8 : Nat) : Int) = (8 : Int) from rfl]
      go_wp2_with fail
      go_loopw [1, 10] (fun s1 s10 wr => ∃ i : Nat, i ≤ 8 ∧ s10 = .int .u8 (i : Int) ∧ Wr6 base T g zs ze v w0 i s1 wr) (fun _ s10 _ => 8 - (intOf s10).toNat)
      case atStart => exact ⟨0, Nat.zero_le _, rfl, Hst.out⟩
      case round =>
        obtain ⟨i, hi8, rfl, ⟨L, hO, hT⟩, hG, hM⟩ := hrel
        have HO := hide hO
        have HG := hide hG
        have HM := hide hM
        have hLl : L.length ≤ 900 := by have := HTl.out; rw [← hT, List.length_append] at this; omega
        have Hbb : Hid (base ≤ wr.heap.size) := hide (Nat.le_trans Hb0.out hG.kept.1)
        have HT := hide hT
        clear hO hG hM hT
        by_cases hlt8 : i < 8
        · have i1 : (i : Int) < 8 := by omega
          have i2 : (0 : Int) ≤ i := by omega
          have hT := HT.out
          rw [w6_step hlt8] at hT
          by_cases he : i = zs
          · subst he
            rw [if_pos rfl] at hT
            have HT1 := hide hT
            obtain ⟨hz1', hz2'⟩ := Hz8.out hlt8
            have ze1 : (ze : Int) ≤ 255 := by omega
            clear hT
            have Ha0 := hide (HO.out.alloc (.cells #[.int .u8 58, .int .u8 58] 5))
            have hw0 : base ≤ wr.heap.size := Hbb.out
            go_wp2_with (at_builtin; refine wpList_append_rd _ rfl (.tmp 47) (.tmp 48) _ rfl base 5 i0 _ 1 Tryd.underlying22 hinf hz0 hz1 hz2 rfl _ L.length _ rfl Ha0.out no (some ⟨wr.heap.size, 0, none⟩) 2 2 [.int .u8 58, .int .u8 58] rfl ?p1 ?p2 ?p3 ?p4 ?p5 ?_)
            case p1 => exact Rd.two wr _ _ _ no (fun h => h)
            case p2 => first | rfl | (intro u hu; simp at hu; subst hu; rfl) | (intro u hu; simp at hu; rcases hu with rfl | rfl <;> rfl)
            case p3 => unfold maxLen; omega
            case p4 => omega
            case p5 => first | omega | (simp; omega)
            intro v1 w1 y1 y2 y3
            obtain ⟨x1, x2, x3⟩ := push2_step y1 y2 y3
            obtain ⟨L1, hL1⟩ : ∃ L1, L1 = L ++ [58, 58] := ⟨_, rfl⟩
            have hLl1 : L1.length ≤ 902 := by rw [hL1, List.length_append]; simp; omega
            rw [← hL1] at x1
            have HL1 := hide hL1
            have HO1 := hide x1
            have HG1 := hide (HG.out.trans HM.out x2)
            have HM1 := hide (HM.out.trans x3 HG.out.kept.1)
            have Hbb1 : Hid (base ≤ w1.heap.size) := hide (Nat.le_trans Hbb.out x2.kept.1)
            clear y1 y2 y3 x1 x2 x3 Ha0 hw0 hL1
            by_cases h8 : ze < 8
            · have h8' : ¬ ((8 : Int) ≤ (ze : Int)) := by omega
              have h8'' : (ze : Int) < 8 := by omega
              have HT2 : Hid ((L1 ++ hexL (g ze)) ++ w6 g i ze (8 - (ze + 1)) (ze + 1) = T) := hide (by
                have h := HT1.out
                rw [if_pos h8] at h
                rw [← h, HL1.out, w6_fuel g i ze (fun _ => hz1') (8 - (ze + 1)) (8 - (i + 1)) (ze + 1) (Nat.le_refl _) (by omega)]
                simp [List.append_assoc])
              clear h8
              have hbk := HG1.out.blk Hbx.out (moved_ne Ho.out (Moved.refl v w0) (Nat.le_refl _) (by omega))
              have c0 : w1.cell? ⟨w.heap.size, 0, none⟩ = some (.int .u64 (hh : Int)) := hbk.cell 0
              have c1 : w1.cell? ⟨w.heap.size, 1, none⟩ = some (.int .u64 (ll : Int)) := hbk.cell 1
              have c2 : w1.cell? ⟨w.heap.size, 2, none⟩ = some (.pointer (some ⟨g6, o6, none⟩)) := hbk.cell 2
              have Hc := hide (Hv.out ze (by omega) w1)
              clear hbk
              go_wp2_with fail
              with_reducible refine Hc.out.mono ?_
              rintro e w3 ⟨rfl, hb3⟩
              have HO3 := hide (HO1.out.below hb3)
              have HG3 := hide (HG1.out.trans (Moved.refl v w0) (Grew.of_below (v := v) hb3))
              have Hbb3 : Hid (base ≤ w3.heap.size) := hide (Nat.le_trans Hbb1.out hb3.size)
              have Hap := hide (appHex_any base (g ze) (Hlt.out ze) L1 v1 w3 HO3.out Hbb3.out (by omega))
              clear hb3 Hc c0 c1 c2
              go_wp2_with fail
              with_reducible refine Hap.out.mono ?_
              rintro e w4 ⟨v4, rfl, y1, y2, y3⟩
              have HM4 := hide (HM1.out.trans y3 HG3.out.kept.1)
              have HG4 := hide (HG3.out.trans HM1.out y2)
              have HO4 := hide y1
              clear y1 y2 y3 Hap
              go_wp2_with fail
              go_roundw
              case rel => exact ⟨ze + 1, by omega, by go_num, ⟨_, HO4.out, HT2.out⟩, HG4.out, HM4.out⟩
              case measure => simp [intOf]; omega
            · have h8' : (8 : Int) ≤ (ze : Int) := by omega
              have HT2 : Hid (L1 = T) := hide (by
                have h := HT1.out
                rw [if_neg h8] at h
                rw [← h, HL1.out])
              clear h8
              have hbk := HG1.out.blk Hbx.out (moved_ne Ho.out (Moved.refl v w0) (Nat.le_refl _) (by omega))
              have c2 : w1.cell? ⟨w.heap.size, 2, none⟩ = some (.pointer (some ⟨g6, o6, none⟩)) := hbk.cell 2
              have c6 : w1.cell? ⟨4, 0, none⟩ = some (.pointer (some ⟨g6, o6, none⟩)) := (World.cell?_of_block ((HG1.out.below Ho0.out Hb0.out).block _ hb6)).trans Hz0.out.z.z6
              clear hbk
              go_wp2_with fail
              go_ret
              refine ⟨_, rfl, ?_, Hg0.out.trans (Moved.refl v w) HG1.out, ?_⟩
              · rw [← HT2.out]; exact HO1.out
              · intro q hq
                rcases HM1.out q hq with h | h
                · exact Or.inl h
                · exact Or.inr (by omega)
          · rw [if_neg he] at hT
            have HT1 := hide hT
            have he' : ((i : Int) == (zs : Int)) = false := by rw [beq_eq_false_iff_ne]; omega
            clear hT he
            by_cases hp : 0 < i
            · have hp' : (0 : Int) < (i : Int) := by omega
              have Ha0 := hide (HO.out.alloc (.cells #[.int .u8 58] 5))
              have hw0 : base ≤ wr.heap.size := Hbb.out
              go_wp2_with (at_builtin; refine wpList_append_rd _ rfl (.tmp 55) (.tmp 56) _ rfl base 5 i0 _ 1 Tryd.underlying22 hinf hz0 hz1 hz2 rfl _ L.length _ rfl Ha0.out no (some ⟨wr.heap.size, 0, none⟩) 1 1 [.int .u8 58] rfl ?p1 ?p2 ?p3 ?p4 ?p5 ?_)
              case p1 => exact Rd.one wr _ _ no (fun h => h)
              case p2 => first | rfl | (intro u hu; simp at hu; subst hu; rfl) | (intro u hu; simp at hu; rcases hu with rfl | rfl <;> rfl)
              case p3 => unfold maxLen; omega
              case p4 => omega
              case p5 => first | omega | (simp; omega)
              intro v1 w1 y1 y2 y3
              obtain ⟨x1, x2, x3⟩ := push_step (x := 58) y1 y2 y3
              obtain ⟨L1, hL1⟩ : ∃ L1, L1 = L ++ [58] := ⟨_, rfl⟩
              have hLl1 : L1.length ≤ 902 := by rw [hL1, List.length_append]; simp; omega
              rw [← hL1] at x1
              have HL1 := hide hL1
              have HO1 := hide x1
              have HG1 := hide (HG.out.trans HM.out x2)
              have HM1 := hide (HM.out.trans x3 HG.out.kept.1)
              have Hbb1 : Hid (base ≤ w1.heap.size) := hide (Nat.le_trans Hbb.out x2.kept.1)
              clear y1 y2 y3 x1 x2 x3 Ha0 hw0 hL1
              have HT2 : Hid ((L1 ++ hexL (g i)) ++ w6 g zs ze (8 - (i + 1)) (i + 1) = T) := hide (by
                have h := HT1.out
                rw [if_pos hp] at h
                rw [← h, HL1.out]
                simp [List.append_assoc])
              clear hp
              have hbk := HG1.out.blk Hbx.out (moved_ne Ho.out (Moved.refl v w0) (Nat.le_refl _) (by omega))
              have c0 : w1.cell? ⟨w.heap.size, 0, none⟩ = some (.int .u64 (hh : Int)) := hbk.cell 0
              have c1 : w1.cell? ⟨w.heap.size, 1, none⟩ = some (.int .u64 (ll : Int)) := hbk.cell 1
              have c2 : w1.cell? ⟨w.heap.size, 2, none⟩ = some (.pointer (some ⟨g6, o6, none⟩)) := hbk.cell 2
              have Hc := hide (Hv.out i hlt8 w1)
              clear hbk
              go_wp2_with fail
              with_reducible refine Hc.out.mono ?_
              rintro e w3 ⟨rfl, hb3⟩
              have HO3 := hide (HO1.out.below hb3)
              have HG3 := hide (HG1.out.trans (Moved.refl v w0) (Grew.of_below (v := v) hb3))
              have Hbb3 : Hid (base ≤ w3.heap.size) := hide (Nat.le_trans Hbb1.out hb3.size)
              have Hap := hide (appHex_any base (g i) (Hlt.out i) L1 v1 w3 HO3.out Hbb3.out (by omega))
              clear hb3 Hc c0 c1 c2
              go_wp2_with fail
              with_reducible refine Hap.out.mono ?_
              rintro e w4 ⟨v4, rfl, y1, y2, y3⟩
              have HM4 := hide (HM1.out.trans y3 HG3.out.kept.1)
              have HG4 := hide (HG3.out.trans HM1.out y2)
              have HO4 := hide y1
              clear y1 y2 y3 Hap
              go_wp2_with fail
              go_roundw
              case rel => exact ⟨i + 1, by omega, by go_num, ⟨_, HO4.out, HT2.out⟩, HG4.out, HM4.out⟩
              case measure => simp [intOf]; omega
            · have hp' : ¬ ((0 : Int) < (i : Int)) := by omega
              have HT2 : Hid ((L ++ hexL (g i)) ++ w6 g zs ze (8 - (i + 1)) (i + 1) = T) := hide (by
                have h := HT1.out
                rw [if_neg hp] at h
                rw [← h]
                simp [List.append_assoc])
              clear hp
              have hbk := HG.out.blk Hbx.out (moved_ne Ho.out (Moved.refl v w0) (Nat.le_refl _) (by omega))
              have c0 : wr.cell? ⟨w.heap.size, 0, none⟩ = some (.int .u64 (hh : Int)) := hbk.cell 0
              have c1 : wr.cell? ⟨w.heap.size, 1, none⟩ = some (.int .u64 (ll : Int)) := hbk.cell 1
              have c2 : wr.cell? ⟨w.heap.size, 2, none⟩ = some (.pointer (some ⟨g6, o6, none⟩)) := hbk.cell 2
              have Hc := hide (Hv.out i hlt8 wr)
              clear hbk
              go_wp2_with fail
              with_reducible refine Hc.out.mono ?_
              rintro e w3 ⟨rfl, hb3⟩
              have HO3 := hide (HO.out.below hb3)
              have HG3 := hide (HG.out.trans (Moved.refl v w0) (Grew.of_below (v := v) hb3))
              have Hbb3 : Hid (base ≤ w3.heap.size) := hide (Nat.le_trans Hbb.out hb3.size)
              have Hap := hide (appHex_any base (g i) (Hlt.out i) L u1 w3 HO3.out Hbb3.out (by omega))
              clear hb3 Hc c0 c1 c2
              go_wp2_with fail
              with_reducible refine Hap.out.mono ?_
              rintro e w4 ⟨v4, rfl, y1, y2, y3⟩
              have HM4 := hide (HM.out.trans y3 HG3.out.kept.1)
              have HG4 := hide (HG3.out.trans HM.out y2)
              have HO4 := hide y1
              clear y1 y2 y3 Hap
              go_wp2_with fail
              go_roundw
              case rel => exact ⟨i + 1, by omega, by go_num, ⟨_, HO4.out, HT2.out⟩, HG4.out, HM4.out⟩
              case measure => simp [intOf]; omega
        · obtain rfl : i = 8 := by omega
          have HT2 : Hid (L = T) := hide (by
            have h := HT.out
            rw [w6_end _ _ _ _ _ (Nat.le_refl _), List.append_nil] at h
            exact h)
          have hbk := HG.out.blk Hbx.out (moved_ne Ho.out (Moved.refl v w0) (Nat.le_refl _) (by omega))
          have c2 : wr.cell? ⟨w.heap.size, 2, none⟩ = some (.pointer (some ⟨g6, o6, none⟩)) := hbk.cell 2
          have c6 : wr.cell? ⟨4, 0, none⟩ = some (.pointer (some ⟨g6, o6, none⟩)) := (World.cell?_of_block ((HG.out.below Ho0.out Hb0.out).block _ hb6)).trans Hz0.out.z.z6
          clear hbk
          go_wp2_with fail
          go_ret
          refine ⟨_, rfl, ?_, Hg0.out.trans (Moved.refl v w) HG.out, ?_⟩
          · rw [← HT2.out]; exact HO.out
          · intro q hq
            rcases HM.out q hq with h | h
            · exact Or.inl h
            · exact Or.inr (by omega)
end Go.Proofs.YtmfcgglgolajnaaDoor
