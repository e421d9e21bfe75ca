/-
  The walk of FnZerosAhead.
-/
import Derived.Test.YtekmlhkoibgmlaaDoorFRead
import Derived.Test.YtekmlhkoibgmlaaDoorDotsL
namespace Go.Proofs.YtekmlhkoibgmlaaDoor
open Go.RowKit
set_option linter.unusedVariables false

theorem string_info : (Tryd.prog.info? 9).map (fun i => (i.zero, i.size, i.bytes)) = some (some (.string ⟨#[]⟩), 1, 16) := by kernel_rfl
theorem za_push (j n : Nat) : (48 : UInt8) :: zerosAhead j n = zerosAhead (j + 1) n := by unfold zerosAhead; rw [List.replicate_succ]; rfl
theorem za_len (j n : Nat) : (zerosAhead j n).length = j + (decL n).length := by unfold zerosAhead; simp

set_option maxRecDepth 100000 in
set_option maxHeartbeats 3200000 in
theorem fnZerosAhead_walk (w : World) (g4 o4 g6 o6 : Nat) (hz : ZIs w g4 o4 g6 o6) (a0 : Option Addr) (n0 c0 : Nat) (b0 : List UInt8) (w0 : RB w no a0 n0 c0 b0) (r0 : c0 ≤ 140737488351232) (k1 : Int) (wf1 : (Lit.int .i64 k1).wf = true) (k2 : Int) (wf2 : (Lit.int .i64 k2).wf = true) :
    Calls Tryd.prog 8 #[.slice a0 n0 c0, .int .i64 k1, .int .i64 k2] w fun e w' => e = .returned (.bool true) ∧ Below w.heap.size w w' := by
  obtain ⟨i0, hi, hz0, hz1, hz2⟩ := info_parts string_info
  have W0 := hide w0
  have Hz := hide hz
  have k0 := w0.cap
  by_cases h4 : n0 = 4
  · subst h4
    have Hp1 := hide (fun W => placeIn_any k1 3 3 rfl (by omega) W)
    have Hp2 := hide (fun W => placeIn_any k2 20 20 rfl (by omega) W)
    have ha := placeN_le k1 3
    have hm := placeN_le k2 20
    generalize placeN k1 3 = pl at *
    generalize placeN k2 20 = mm at *
    have Hst : Hid ((w.alloc (.cells #[] 9)).ownsRow w.heap.size 9 1 (.slice (some ⟨w.heap.size, 0, none⟩) 0 0) 0 ((zaL pl (1 + mm) b0 0).map sv) ∧ Below w.heap.size w (w.alloc (.cells #[] 9))) :=
      hide ⟨own_empty w w.heap.size _ (Nat.le_refl _), (Below.refl _ _).alloc (Nat.le_refl _) _⟩
    clear w0 hz wf1 wf2
    go_enter Tryd.func8, Tryd.ntmps8
    go_wp2_with fail
    with_reducible refine (Hp1.out w).mono ?_
    rintro e w' ⟨rfl, rfl⟩
    go_wp2_with fail
    go_loopw [8, 22] (fun v i wr => ∃ k : Nat, k ≤ 4 ∧ i = .int .i64 k ∧ wr.ownsRow w.heap.size 9 1 v k ((zaL pl (1 + mm) b0 k).map sv) ∧ Below w.heap.size w wr) (fun _ i _ => 4 - (intOf i).toNat)
    case atStart => exact ⟨0, Nat.zero_le _, rfl, Hst.out⟩
    case round =>
      obtain ⟨k, hk, rfl, h1, h2⟩ := hrel
      have H1 := hide h1
      have H2 := hide h2
      by_cases hlt : k < 4
      · obtain ⟨g, o, b, rfl, hbk, hc⟩ := (W0.out.below h2).at_ hlt
        have hb256 := b.toNat_lt
        have Hd := hide (fDecimal_any b.toNat (by omega) wr)
        have hgd : b0.getD k 0 = b := by rw [List.getD_eq_getElem?_getD, hbk]; rfl
        have Hsn : Hid ((zaL pl (1 + mm) b0 (k + 1)).map sv = (zaL pl (1 + mm) b0 k).map sv ++ [.string ⟨(zaT pl (1 + mm) b0 k).toArray⟩]) := hide (by rw [zaL_snoc, List.map_append]; rfl)
        have hzt : zaT pl (1 + mm) b0 k = if k = pl then zerosAhead (1 + mm) b.toNat else decL b.toNat := by unfold zaT; rw [hgd]
        have hsz := h2.size
        have hdl := decL_short3 b
        have Ho := hide (h1.alloc (.cells #[.string ⟨(zaT pl (1 + mm) b0 k).toArray⟩] 9))
        have Hzt := hide hzt
        generalize (zaL pl (1 + mm) b0 k).map sv = nv at *
        generalize zaT pl (1 + mm) b0 k = tx at *
        clear h1 h2 hbk hgd hzt
        go_wp2_with fail
        with_reducible refine Hd.out.mono ?_
        rintro e w' ⟨rfl, rfl⟩
        by_cases hat : k = pl
        · have hat' : ((k : Int) == (pl : Int)) = true := by rw [beq_iff_eq]; omega
          obtain rfl : tx = zerosAhead (1 + mm) b.toNat := by rw [Hzt.out, if_pos hat]
          clear hat
          go_wp2_with fail
          with_reducible refine (Hp2.out _).mono ?_
          rintro e w' ⟨rfl, rfl⟩
          go_wp2_with fail
          go_loop [11, 36] (fun s i => ∃ j : Nat, j ≤ 1 + mm ∧ i = .int .i64 j ∧ s = .string ⟨(zerosAhead j b.toNat).toArray⟩) (fun _ i => 1 + mm - (intOf i).toNat)
          case atStart => exact ⟨0, Nat.zero_le _, rfl, rfl⟩
          case round =>
            obtain ⟨j, hj, rfl, rfl⟩ := hrel
            have hzl := za_len j b.toNat
            by_cases hjl : j < 1 + mm
            · have l1 : (j : Int) < 1 + (mm : Int) := by omega
              have q1 : ¬ (9223372036854775807 < 1 + (zerosAhead j b.toNat).length) := by omega
              have q2 : ¬ (9223372036854775807 < (zerosAhead j b.toNat).length + 1) := by omega
              have Hpu := hide (za_push j b.toNat)
              generalize zerosAhead j b.toNat = zz at *
              clear hzl hdl
              go_wp2_with fail
              go_round
              case rel =>
                refine ⟨j + 1, by omega, by go_num, ?_⟩
                rw [← Hpu.out]
                exact congrArg Value.string (ba_append [48] zz)
              case measure => simp [intOf]; omega
            · obtain rfl : j = 1 + mm := by omega
              have l1 : ¬ (((1 + mm : Nat) : Int) < 1 + (mm : Int)) := by omega
              generalize zerosAhead (1 + mm) b.toNat = tx at *
              clear hzl hdl
              go_wp2_with (at_builtin; refine wpList_append_rd _ rfl (.tmp 41) (.tmp 43) _ rfl w.heap.size 9 i0 _ 16 Tryd.underlying23 hi hz0 hz1 hz2 rfl _ k _ rfl Ho.out no (some ⟨wr.heap.size, 0, none⟩) 1 1 [.string ⟨tx.toArray⟩] rfl ?_ ?_ ?_ ?_ ?_ ?_)
              · exact Rd.one wr _ _ no (fun h => h)
              · first | rfl | (intro u hu; simp at hu; subst hu; rfl)
              · unfold maxLen; omega
              · omega
              · first | omega | (simp; omega)
              intro v' w2 q1 q2 q3
              have HB := hide (below_append (H2.out.alloc H2.out.size _) q2 (H1.out.alloc _) (by simp; omega))
              have HO := hide q1
              rw [← Hsn.out] at HO
              clear q1 q2 q3 Ho
              go_wp2_with fail
              go_roundw
              case rel => exact ⟨k + 1, by omega, by go_num, HO.out, HB.out⟩
              case measure => simp [intOf]; omega
        · have hat' : ((k : Int) == (pl : Int)) = false := by rw [beq_eq_false_iff_ne]; omega
          obtain rfl : tx = decL b.toNat := by rw [Hzt.out, if_neg hat]
          generalize decL b.toNat = tx at *
          clear hat hdl
          go_wp2_with (at_builtin; refine wpList_append_rd _ rfl (.tmp 41) (.tmp 43) _ rfl w.heap.size 9 i0 _ 16 Tryd.underlying23 hi hz0 hz1 hz2 rfl _ k _ rfl Ho.out no (some ⟨wr.heap.size, 0, none⟩) 1 1 [.string ⟨tx.toArray⟩] rfl ?_ ?_ ?_ ?_ ?_ ?_)
          · exact Rd.one wr _ _ no (fun h => h)
          · first | rfl | (intro u hu; simp at hu; subst hu; rfl)
          · unfold maxLen; omega
          · omega
          · first | omega | (simp; omega)
          intro v' w2 q1 q2 q3
          have HB := hide (below_append (H2.out.alloc H2.out.size _) q2 (H1.out.alloc _) (by simp; omega))
          have HO := hide q1
          rw [← Hsn.out] at HO
          clear q1 q2 q3 Ho
          go_wp2_with fail
          go_roundw
          case rel => exact ⟨k + 1, by omega, by go_num, HO.out, HB.out⟩
          case measure => simp [intOf]; omega
      · obtain rfl : k = 4 := by omega
        obtain ⟨v1, rfl⟩ : ∃ v1 : World, v1 = wr := ⟨_, rfl⟩
        obtain ⟨AL, cL, rfl, hL⟩ := RS.of_own_av (av := no) h1 (fun g h => h.elim)
        have hall : ∀ s ∈ zaL pl (1 + mm) b0 4, s.length ≤ 24 := by
          intro s hs
          unfold zaL at hs
          obtain ⟨j, _, rfl⟩ := List.mem_map.1 hs
          exact zaT_len (by omega) _ _
        have Hj := hide (fJoined_any AL 4 cL (zaL pl (1 + mm) b0 4) [46] v1 hL (by omega) (fun s hs => by have := hall s hs; omega) (by simp))
        have hjl : (joinL [46] (zaL pl (1 + mm) b0 4)).length ≤ 1000 := by
          show (joinL [46] [zaT pl (1 + mm) b0 0, zaT pl (1 + mm) b0 1, zaT pl (1 + mm) b0 2, zaT pl (1 + mm) b0 3]).length ≤ 1000
          have q0 := zaT_len (at_ := pl) (m := 1 + mm) (by omega) b0 0
          have q1 := zaT_len (at_ := pl) (m := 1 + mm) (by omega) b0 1
          have q2 := zaT_len (at_ := pl) (m := 1 + mm) (by omega) b0 2
          have q3 := zaT_len (at_ := pl) (m := 1 + mm) (by omega) b0 3
          simp only [joinL, List.length_append, List.length_cons, List.length_nil]
          omega
        have hsc : scanL (joinL [46] (zaL pl (1 + mm) b0 4)) ≠ some 58 := by
          have e : joinL [46] (zaL pl (1 + mm) b0 4) = zaT pl (1 + mm) b0 0 ++ (46 :: joinL [46] [zaT pl (1 + mm) b0 1, zaT pl (1 + mm) b0 2, zaT pl (1 + mm) b0 3]) := by
            show joinL [46] [zaT pl (1 + mm) b0 0, zaT pl (1 + mm) b0 1, zaT pl (1 + mm) b0 2, zaT pl (1 + mm) b0 3] = _
            simp [joinL]
          rw [e, scan_digs (zaT_digs _ _ _ _), scan_dot]; simp
        have Hf := hide (fRead_any (joinL [46] (zaL pl (1 + mm) b0 4)) v1 g4 o4 g6 o6 (Hz.out.below h2) (by omega) hsc)
        rw [read_zeros ha (by omega)] at Hf
        clear h1 h2 hL hall hjl hsc
        generalize joinL [46] (zaL pl (1 + mm) b0 4) = tx at *
        go_wp2_with fail
        with_reducible refine Hj.out.mono ?_
        rintro e w' ⟨rfl, rfl⟩
        go_wp2_with fail
        with_reducible refine Hf.out.mono ?_
        rintro e v2 ⟨A2, c2, rfl, hr2, hb2⟩
        rw [List.length_nil] at hr2 ⊢
        have Hb2 := hide (H2.out.trans (hb2.mono H2.out.size))
        clear hr2 hb2 Hf
        go_wp2_with fail
        go_ret
        exact ⟨rfl, Hb2.out⟩
  · have h4' : ((n0 : Int) == 4) = false := by rw [beq_eq_false_iff_ne]; omega
    clear w0 hz
    go_enter Tryd.func8, Tryd.ntmps8
    go_wp2_with fail
    go_ret
    exact ⟨rfl, Below.refl _ _⟩
end Go.Proofs.YtekmlhkoibgmlaaDoor
