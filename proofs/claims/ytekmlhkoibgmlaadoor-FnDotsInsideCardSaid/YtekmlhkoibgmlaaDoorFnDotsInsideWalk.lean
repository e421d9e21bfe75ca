/-
  The walk of FnDotsInside.
-/
import Derived.Test.YtekmlhkoibgmlaaDoorGroupsL
import Derived.Test.YtekmlhkoibgmlaaDoorOwnS
namespace Go.Proofs.YtekmlhkoibgmlaaDoor
open Go.RowKit
set_option linter.unusedVariables false

theorem Gs.takeG : ∀ {gs : List (List UInt8)} {vs : List Nat} (k : Nat), Gs gs vs → Gs (gs.take k) (vs.take k)
  | _, _, 0, _ => by simp [Gs]
  | [], [], k + 1, _ => by simp [Gs]
  | g :: gs, v :: vs, k + 1, h => by
    simp only [List.take_succ_cons]
    exact ⟨h.1, Gs.takeG k h.2⟩
theorem dots4_eq (x y z : UInt8) (l : List UInt8) : dots4 x y z l = decL x.toNat ++ 46 :: (decL y.toNat ++ [46] ++ decL z.toNat ++ [46] ++ l) := by unfold dots4; simp
theorem dots4_small (x y z : UInt8) : (dots4 x y z [49]).length ≤ 20 ∧ (37 : UInt8) ∉ dots4 x y z [49] := by
  have h1 := decL_short3 x
  have h2 := decL_short3 y
  have h3 := decL_short3 z
  unfold dots4
  refine ⟨by simp only [List.length_append, List.length_cons, List.length_nil]; omega, fun hm => ?_⟩
  have key : ∀ b : UInt8, (37 : UInt8) ∉ decL b.toNat := fun b h => absurd (decL_digs b.toNat 37 h) (by decide)
  simp only [List.mem_append, List.mem_cons, List.not_mem_nil, or_false] at hm
  rcases hm with (((((h | h) | h) | h) | h) | h) | h
  · exact key x h
  · exact absurd h (by decide)
  · exact key y h
  · exact absurd h (by decide)
  · exact key z h
  · exact absurd h (by decide)
  · exact absurd h (by decide)
theorem RB.cellG {w : World} {av : Nat → Prop} {g o n c k : Nat} {bs : List UInt8} {x : UInt8} (h : RB w av (some ⟨g, o, none⟩) n c bs) (hk : bs[k]? = some x) : w.cell? ⟨g, o + k, none⟩ = some (.int .u8 (x.toNat : Int)) := by
  have hlt : k < n := by have := (List.getElem?_eq_some_iff.1 hk).1; rw [h.len] at this; exact this
  obtain ⟨q, p, u, e, f, l⟩ := h.at_ hlt
  injection e with e
  injection e with e e'
  subst e e'
  rw [hk] at f
  injection f with f
  subst f
  exact l
theorem parts_smallD (xs : List UInt8) : ∀ s ∈ partsL xs, s.length ≤ 20 ∧ (37 : UInt8) ∉ s := fun s hs => by
  obtain ⟨v, hv⟩ := (gs_parts xs).mem s hs
  exact ⟨by have := hv.2.1; omega, hv.no37⟩
set_option maxRecDepth 100000 in
theorem sliceTo_s (g c K : Nat) (W : World) (h : K ≤ c) : (Instr.sliceAt 23 (.slice (some ⟨g, 0, none⟩) 8 c) none (some (.int .i64 (K : Int))) none).run Tryd.prog W = .ok (.slice (some ⟨g, 0, none⟩) K c) W := by
  have h1 : (0 : Int) ≤ (K : Int) := by omega
  have h2 : (K : Int) ≤ (c : Int) := by omega
  simp [go_sem, Tryd.underlying23, h1, h2]
set_option maxRecDepth 100000 in
theorem sliceFrom_s (g c R : Nat) (ss : List (List UInt8)) (w : World) (hc : 8 ≤ c) (hs : RS w no (some ⟨g, 0, none⟩) 8 c ss) (h : R ≤ 8) :
    ∃ A, (∀ W, (Instr.sliceAt 23 (.slice (some ⟨g, 0, none⟩) 8 c) (some (.int .i64 (R : Int))) none none).run Tryd.prog W = .ok (.slice A (8 - R) (c - R)) W) ∧ Rd w no A (8 - R) ((ss.drop R).map sv) := by
  have h1 : (0 : Int) ≤ (R : Int) := by omega
  have h2 : (R : Int) ≤ 8 := by omega
  by_cases hr : R = c
  · refine ⟨some ⟨g, 0, none⟩, fun W => ?_, ?_⟩
    · obtain rfl : R = 8 := by omega
      subst hr
      clear hs h1 h2
      simp [go_sem, Tryd.underlying23]
    · have e8 : 8 - R = 0 := by omega
      rw [e8]
      have hd : ss.drop R = [] := List.drop_eq_nil_of_le (by rw [hs.len]; omega)
      rw [hd]
      exact ⟨rfl, fun h => absurd h (by omega)⟩
  · have hr' : ¬ c = R := fun h => hr h.symm
    refine ⟨some ((⟨g, 0, none⟩ : Addr).add R), fun W => ?_, ?_⟩
    · simp [go_sem, Tryd.underlying23, h1, h2, hr']
    · have hd := hs.2.2.2.drop (k := R) rfl h
      rw [← List.map_drop, Nat.zero_add] at hd
      have e : (⟨g, 0, none⟩ : Addr).add R = ⟨g, R, none⟩ := by unfold Addr.add; split <;> simp_all
      rw [e]
      exact hd

set_option maxRecDepth 100000 in
set_option maxHeartbeats 6400000 in
theorem fnDotsInside_walk (w : World) (g4 o4 g6 o6 : Nat) (hz : ZX w g4 o4 g6 o6) (a0 : Option Addr) (n0 c0 : Nat) (b0 : List UInt8) (w0 : RB w no a0 n0 c0 b0) (r0 : c0 ≤ 140737488351232) (k1 : Int) (wf1 : (Lit.int .i64 k1).wf = true) (on : Bool) :
    Calls Tryd.prog 3 #[.slice a0 n0 c0, .int .i64 k1, .bool on] w fun e w' => e = .returned (.bool true) ∧ Below w.heap.size w w' := by
  obtain ⟨i0, hinf, hz0, hz1, hz2⟩ := info_parts string_infoH
  have Hz := hide hz
  have k0 := w0.cap
  by_cases h16 : n0 = 16
  · subst h16
    obtain ⟨ga, oa, _, rfl, _, _⟩ := w0.at_ (k := 0) (by omega)
    have W0 := hide w0
    have Hbl := hide w0.len
    have hl8 : (partsL b0).length = 8 := by rw [partsL_len, Hbl.out]
    have Hp5 := hide (fun W => placeIn_any k1 5 5 rfl (by omega) W)
    have Hp7 := hide (fun W => placeIn_any k1 7 7 rfl (by omega) W)
    have hK5 := placeN_le k1 5
    have hK7 := placeN_le k1 7
    have Hf := hide (fParts_own (some ⟨ga, oa, none⟩) 16 c0 b0 w w0 (by omega))
    rw [hl8] at Hf
    have Hl8 := hide hl8
    have Hgs := hide (gs_parts b0)
    have Hps := hide (parts_smallD b0)
    generalize placeN k1 5 = K5 at *
    generalize placeN k1 7 = K7 at *
    generalize partsL b0 = ss at *
    clear w0 hz wf1 hl8
    go_enter Tryd.func3, Tryd.ntmps3
    go_wp2_with fail
    with_reducible refine Hf.out.mono ?_
    rintro e w1 ⟨V, rfl, hV, hb1⟩
    have hown : OwnS w V 8 ss w1 := ⟨hV, hb1⟩
    obtain ⟨A1, c1, rfl, hc1, hc2⟩ := hown.form
    obtain ⟨g, rfl, hg⟩ := hown.some_ (by omega)
    unfold maxLen at hc2
    have Hown := hide hown
    have Hbw1 := hide hb1
    clear hV hb1 hown Hf
    go_wp2_with fail
    with_reducible refine (Hp5.out _).mono ?_
    rintro e w' ⟨rfl, rfl⟩
    cases on with
    | false =>
      obtain ⟨K, hK⟩ : ∃ K, K = K5 := ⟨_, rfl⟩
      subst hK
      obtain ⟨R, hR⟩ : ∃ R, R = K + 2 := ⟨_, rfl⟩
      have hRi : (K : Int) + 2 = (R : Int) := by omega
      clear Hp5 Hp7 hK7
      have hR8 : R ≤ 8 := by omega
      have hK8 : K < 8 := by omega
      obtain ⟨x0, x1, x2, bt, hbx⟩ : ∃ x0 x1 x2 bt, b0 = x0 :: x1 :: x2 :: bt := by
        match b0, Hbl.out with
        | x0 :: x1 :: x2 :: bt, _ => exact ⟨x0, x1, x2, bt, rfl⟩
      have Hcell : Hid (∀ W, Below w.heap.size w W → W.cell? ⟨ga, oa, none⟩ = some (.int .u8 (x0.toNat : Int)) ∧ W.cell? ⟨ga, oa + 1, none⟩ = some (.int .u8 (x1.toNat : Int)) ∧ W.cell? ⟨ga, oa + 2, none⟩ = some (.int .u8 (x2.toNat : Int))) := hide (fun W hW =>
        have h := W0.out.below hW
        ⟨RB.cellG h (k := 0) (by rw [hbx]; rfl), RB.cellG h (k := 1) (by rw [hbx]; rfl), RB.cellG h (k := 2) (by rw [hbx]; rfl)⟩)
      have Hbad : Hid (readG (joinL [58] (ss.take K ++ dots4 x0 x1 x2 [49] :: ss.drop R)) = []) := hide (by
        unfold readG
        rw [dots4_eq, read_dots ((Hgs.out).takeG K) (by have := x0.toNat_lt; omega) _ ?_ ?_]
        · rfl
        · by_cases h6 : K = 6
          · right
            intro h
            have := congrArg List.length h
            rw [List.length_drop, Hl8.out] at this
            simp at this; omega
          · left
            rw [List.length_take, Hl8.out]; omega
        · by_cases h0 : K = 0
          · right
            intro h
            have := congrArg List.length h
            rw [List.length_drop, Hl8.out] at this
            simp at this; omega
          · left
            intro h
            have := congrArg List.length h
            rw [List.length_take, Hl8.out] at this
            simp at this; omega)
      have Hsm : Hid (∀ s ∈ ss.take K ++ dots4 x0 x1 x2 [49] :: ss.drop R, s.length ≤ 20 ∧ (37 : UInt8) ∉ s) := hide (fun s hs => by
        rcases List.mem_append.1 hs with h | h
        · exact Hps.out s (List.mem_of_mem_take h)
        · rcases List.mem_cons.1 h with rfl | h
          · exact dots4_small x0 x1 x2
          · exact Hps.out s (List.mem_of_mem_drop h))
      have hsl1 : ∀ W, (Instr.sliceAt 23 (.slice (some ⟨g, 0, none⟩) 8 c1) none (some (.int .i64 (K : Int))) none).run Tryd.prog W = .ok (.slice (some ⟨g, 0, none⟩) K c1) W := fun W => sliceTo_s g c1 K W (by omega)
      obtain ⟨A2, hsl2, hrd2⟩ := sliceFrom_s g c1 R ss w1 (by omega) Hown.out.rs hR8
      have Hrd2 := hide hrd2
      have i1 : (0 : Int) ≤ (K : Int) := by omega
      have i2 : (K : Int) ≤ 8 := by omega
      have i3 : (0 : Int) ≤ (R : Int) := by omega
      have i5 : IntKind.i64.wrap (R : Int) = (R : Int) := by rw [IntKind.wrap_i64]; omega
      have i4 : (R : Int) ≤ 8 := by omega
      have Hrd1 : Hid (Rd w1 no (some ⟨g, 0, none⟩) K ((ss.take K).map sv)) := hide (by have h := (Hown.out.rs).2.2.2.take (m := K) (by omega); rw [← List.map_take] at h; exact h)
      have Ho1 := hide (own_empty w1 w1.heap.size 9 (Nat.le_refl _))
      have Hbl1 : Hid (Below w1.heap.size w1 (w1.alloc (.cells #[] 9))) := hide ((Below.refl _ _).alloc (Nat.le_refl _) _)
      have h1c : ∀ u ∈ (ss.take K).map sv, u.oneCell' = true := fun u hu => by obtain ⟨s, _, rfl⟩ := List.mem_map.1 hu; rfl
      have h2c : ∀ u ∈ (ss.drop R).map sv, u.oneCell' = true := fun u hu => by obtain ⟨s, _, rfl⟩ := List.mem_map.1 hu; rfl
      have H1c := hide h1c
      have H2c := hide h2c
      generalize hnv1 : (ss.take K).map sv = nv1 at *
      generalize hnv2 : (ss.drop R).map sv = nv2 at *
      have Hnv1 := hide hnv1
      have Hnv2 := hide hnv2
      clear hbx h1c h2c hrd2 hR hnv1 hnv2
      go_wp2_with (at_builtin; refine wpList_append_rd _ rfl (.tmp 27) (.tmp 30) _ rfl w1.heap.size 9 i0 _ 16 Tryd.underlying23 hinf hz0 hz1 hz2 rfl _ 0 _ rfl Ho1.out no (some ⟨g, 0, none⟩) K c1 nv1 rfl ?p1 ?p2 ?p3 ?p4 ?p5 ?_)
      case p1 => exact Hrd1.out.keep (Kept.alloc _ _ _)
      case p2 => exact H1c.out
      case p3 => unfold maxLen; omega
      case p4 => omega
      case p5 => simp
      intro v2 w2 q1 q2 q3
      have hb2 : Below w1.heap.size w1 w2 := below_append Hbl1.out q2 Ho1.out (by simp)
      have HO2 : Hid (w2.ownsRow w1.heap.size 9 1 v2 K nv1) := hide (by simpa using q1)
      have Hb2 := hide hb2
      have hbw2 := Hbw1.out.trans (hb2.mono Hbw1.out.size)
      obtain ⟨e0, e1, e2⟩ := Hcell.out w2 hbw2
      have Hfd := hide (fDots_any ga oa 16 c0 x0 x1 x2 [49] w2 (by omega) e0 e1 e2 (by simp))
      have hsz2 := hb2.size
      generalize dots4 x0 x1 x2 [49] = dt at *
      clear q1 q2 q3 hb2 hbw2 Ho1 Hrd1 Hcell e0 e1 e2 hsl1
      go_wp2_with fail
      with_reducible refine Hfd.out.mono ?_
      rintro e w3 ⟨rfl, qd, rfl⟩
      have Ho3 := hide ((own_drewN HO2.out qd).alloc (.cells #[.string ⟨dt.toArray⟩] 9))
      have Hb3 := hide ((below_drewN Hb2.out qd).alloc (by simp; omega) (.cells #[.string ⟨dt.toArray⟩] 9))
      have Hsz3 : Hid (w1.heap.size ≤ (w2.drewN qd).heap.size) := hide hsz2
      generalize w2.drewN qd = w3 at *
      have hsz3 := Hsz3.out
      clear HO2 Hb2 Hfd hsz2
      go_wp2_with (at_builtin; refine wpList_append_rd _ rfl (.tmp 32) (.tmp 35) _ rfl w1.heap.size 9 i0 _ 16 Tryd.underlying23 hinf hz0 hz1 hz2 rfl _ K _ rfl Ho3.out no (some ⟨w3.heap.size, 0, none⟩) 1 1 [.string ⟨dt.toArray⟩] rfl ?p1 ?p2 ?p3 ?p4 ?p5 ?_)
      case p1 => exact Rd.one w3 _ _ no (fun h => h)
      case p2 => intro u hu; simp at hu; subst hu; rfl
      case p3 => unfold maxLen; omega
      case p4 => omega
      case p5 => simp; omega
      intro v4 w4 q1 q2 q3
      have hb4 : Below w1.heap.size w1 w4 := below_append Hb3.out q2 Ho3.out (by simp; omega)
      have HO4 := hide q1
      have Hb4 := hide hb4
      have Hrd4 := hide (Hrd2.out.keep (Kept.of_below hb4 _))
      have hsz4 := hb4.size
      clear q1 q2 q3 hb4 Ho3 Hb3 Hrd2
      go_wp2_with (at_builtin; refine wpList_append_rd _ rfl (.tmp 37) (.tmp 40) _ rfl w1.heap.size 9 i0 _ 16 Tryd.underlying23 hinf hz0 hz1 hz2 rfl _ (K + 1) _ rfl HO4.out no A2 (8 - R) (c1 - R) nv2 rfl ?p1 ?p2 ?p3 ?p4 ?p5 ?_)
      case p1 => exact Hrd4.out
      case p2 => exact H2c.out
      case p3 => unfold maxLen; omega
      case p4 => omega
      case p5 => omega
      intro v5 w5 q1 q2 q3
      have hb5 : Below w1.heap.size w1 w5 := below_append Hb4.out q2 HO4.out (by omega)
      have hbw5 := Hbw1.out.trans (hb5.mono Hbw1.out.size)
      have hlst : nv1 ++ [.string ⟨dt.toArray⟩] ++ nv2 = (ss.take K ++ dt :: ss.drop R).map sv := by rw [← Hnv1.out, ← Hnv2.out, List.map_append, List.map_cons, List.append_assoc]; rfl
      have q1' : w5.ownsRow w1.heap.size 9 1 v5 (K + 1 + (8 - R)) ((ss.take K ++ dt :: ss.drop R).map sv) := by
        rw [← hlst]
        first | exact q1 | simpa using q1
      obtain ⟨A5, c5, rfl, h5⟩ := RS.of_own_av (av := no) q1' (fun g h => h.elim)
      have hnl : (ss.take K ++ dt :: ss.drop R).length = K + 1 + (8 - R) := h5.len
      have hjl := join_len (fun s hs => (Hsm.out s hs).1)
      rw [hnl] at hjl
      have Hj := hide (fJoined_any A5 (K + 1 + (8 - R)) c5 (ss.take K ++ dt :: ss.drop R) [58] w5 h5 (by omega) (fun s hs => by have := (Hsm.out s hs).1; omega) (by simp))
      have Hfr := hide (fReadG_any (joinL [58] (ss.take K ++ dt :: ss.drop R)) w5 g4 o4 g6 o6 (Hz.out.below hbw5) (by omega) (join_no37 fun s hs => (Hsm.out s hs).2))
      rw [Hbad.out] at Hfr
      have Hbw5 := hide hbw5
      generalize joinL [58] (ss.take K ++ dt :: ss.drop R) = tx at *
      clear q1 q1' q2 q3 hb5 hbw5 hlst h5 hnl hjl HO4 Hb4 Hrd4
      go_wp2_with fail
      with_reducible refine Hj.out.mono ?_
      rintro e w6 ⟨rfl, rfl⟩
      go_wp2_with fail
      with_reducible refine Hfr.out.mono ?_
      rintro e w7 ⟨A7, c7, rfl, hr7, hb7⟩
      rw [List.length_nil] at hr7 ⊢
      have Hbw7 := hide (Hbw5.out.trans (hb7.mono Hbw5.out.size))
      clear hr7 hb7 Hfr Hj
      go_wp2_with fail
      go_ret
      exact ⟨rfl, Hbw7.out⟩
    | true =>
      go_wp2_with fail
      with_reducible refine (Hp7.out _).mono ?_
      rintro e w' ⟨rfl, rfl⟩
      obtain ⟨K, hK⟩ : ∃ K, K = K7 := ⟨_, rfl⟩
      subst hK
      obtain ⟨R, hR⟩ : ∃ R, R = K + 1 := ⟨_, rfl⟩
      have hRi : (K : Int) + 1 = (R : Int) := by omega
      clear Hp5 Hp7 hK5
      have hR8 : R ≤ 8 := by omega
      have hK8 : K < 8 := by omega
      obtain ⟨x0, x1, x2, bt, hbx⟩ : ∃ x0 x1 x2 bt, b0 = x0 :: x1 :: x2 :: bt := by
        match b0, Hbl.out with
        | x0 :: x1 :: x2 :: bt, _ => exact ⟨x0, x1, x2, bt, rfl⟩
      have Hcell : Hid (∀ W, Below w.heap.size w W → W.cell? ⟨ga, oa, none⟩ = some (.int .u8 (x0.toNat : Int)) ∧ W.cell? ⟨ga, oa + 1, none⟩ = some (.int .u8 (x1.toNat : Int)) ∧ W.cell? ⟨ga, oa + 2, none⟩ = some (.int .u8 (x2.toNat : Int))) := hide (fun W hW =>
        have h := W0.out.below hW
        ⟨RB.cellG h (k := 0) (by rw [hbx]; rfl), RB.cellG h (k := 1) (by rw [hbx]; rfl), RB.cellG h (k := 2) (by rw [hbx]; rfl)⟩)
      have Hbad : Hid (readG (joinL [58] (ss.take K ++ dots4 x0 x1 x2 [49] :: ss.drop R)) = []) := hide (by
        unfold readG
        rw [dots4_eq, read_dots ((Hgs.out).takeG K) (by have := x0.toNat_lt; omega) _ ?_ ?_]
        · rfl
        · by_cases h6 : K = 6
          · right
            intro h
            have := congrArg List.length h
            rw [List.length_drop, Hl8.out] at this
            simp at this; omega
          · left
            rw [List.length_take, Hl8.out]; omega
        · by_cases h0 : K = 0
          · right
            intro h
            have := congrArg List.length h
            rw [List.length_drop, Hl8.out] at this
            simp at this; omega
          · left
            intro h
            have := congrArg List.length h
            rw [List.length_take, Hl8.out] at this
            simp at this; omega)
      have Hsm : Hid (∀ s ∈ ss.take K ++ dots4 x0 x1 x2 [49] :: ss.drop R, s.length ≤ 20 ∧ (37 : UInt8) ∉ s) := hide (fun s hs => by
        rcases List.mem_append.1 hs with h | h
        · exact Hps.out s (List.mem_of_mem_take h)
        · rcases List.mem_cons.1 h with rfl | h
          · exact dots4_small x0 x1 x2
          · exact Hps.out s (List.mem_of_mem_drop h))
      have hsl1 : ∀ W, (Instr.sliceAt 23 (.slice (some ⟨g, 0, none⟩) 8 c1) none (some (.int .i64 (K : Int))) none).run Tryd.prog W = .ok (.slice (some ⟨g, 0, none⟩) K c1) W := fun W => sliceTo_s g c1 K W (by omega)
      obtain ⟨A2, hsl2, hrd2⟩ := sliceFrom_s g c1 R ss w1 (by omega) Hown.out.rs hR8
      have Hrd2 := hide hrd2
      have i1 : (0 : Int) ≤ (K : Int) := by omega
      have i2 : (K : Int) ≤ 8 := by omega
      have i3 : (0 : Int) ≤ (R : Int) := by omega
      have i5 : IntKind.i64.wrap (R : Int) = (R : Int) := by rw [IntKind.wrap_i64]; omega
      have i4 : (R : Int) ≤ 8 := by omega
      have Hrd1 : Hid (Rd w1 no (some ⟨g, 0, none⟩) K ((ss.take K).map sv)) := hide (by have h := (Hown.out.rs).2.2.2.take (m := K) (by omega); rw [← List.map_take] at h; exact h)
      have Ho1 := hide (own_empty w1 w1.heap.size 9 (Nat.le_refl _))
      have Hbl1 : Hid (Below w1.heap.size w1 (w1.alloc (.cells #[] 9))) := hide ((Below.refl _ _).alloc (Nat.le_refl _) _)
      have h1c : ∀ u ∈ (ss.take K).map sv, u.oneCell' = true := fun u hu => by obtain ⟨s, _, rfl⟩ := List.mem_map.1 hu; rfl
      have h2c : ∀ u ∈ (ss.drop R).map sv, u.oneCell' = true := fun u hu => by obtain ⟨s, _, rfl⟩ := List.mem_map.1 hu; rfl
      have H1c := hide h1c
      have H2c := hide h2c
      generalize hnv1 : (ss.take K).map sv = nv1 at *
      generalize hnv2 : (ss.drop R).map sv = nv2 at *
      have Hnv1 := hide hnv1
      have Hnv2 := hide hnv2
      clear hbx h1c h2c hrd2 hR hnv1 hnv2
      go_wp2_with (at_builtin; refine wpList_append_rd _ rfl (.tmp 27) (.tmp 30) _ rfl w1.heap.size 9 i0 _ 16 Tryd.underlying23 hinf hz0 hz1 hz2 rfl _ 0 _ rfl Ho1.out no (some ⟨g, 0, none⟩) K c1 nv1 rfl ?p1 ?p2 ?p3 ?p4 ?p5 ?_)
      case p1 => exact Hrd1.out.keep (Kept.alloc _ _ _)
      case p2 => exact H1c.out
      case p3 => unfold maxLen; omega
      case p4 => omega
      case p5 => simp
      intro v2 w2 q1 q2 q3
      have hb2 : Below w1.heap.size w1 w2 := below_append Hbl1.out q2 Ho1.out (by simp)
      have HO2 : Hid (w2.ownsRow w1.heap.size 9 1 v2 K nv1) := hide (by simpa using q1)
      have Hb2 := hide hb2
      have hbw2 := Hbw1.out.trans (hb2.mono Hbw1.out.size)
      obtain ⟨e0, e1, e2⟩ := Hcell.out w2 hbw2
      have Hfd := hide (fDots_any ga oa 16 c0 x0 x1 x2 [49] w2 (by omega) e0 e1 e2 (by simp))
      have hsz2 := hb2.size
      generalize dots4 x0 x1 x2 [49] = dt at *
      clear q1 q2 q3 hb2 hbw2 Ho1 Hrd1 Hcell e0 e1 e2 hsl1
      go_wp2_with fail
      with_reducible refine Hfd.out.mono ?_
      rintro e w3 ⟨rfl, qd, rfl⟩
      have Ho3 := hide ((own_drewN HO2.out qd).alloc (.cells #[.string ⟨dt.toArray⟩] 9))
      have Hb3 := hide ((below_drewN Hb2.out qd).alloc (by simp; omega) (.cells #[.string ⟨dt.toArray⟩] 9))
      have Hsz3 : Hid (w1.heap.size ≤ (w2.drewN qd).heap.size) := hide hsz2
      generalize w2.drewN qd = w3 at *
      have hsz3 := Hsz3.out
      clear HO2 Hb2 Hfd hsz2
      go_wp2_with (at_builtin; refine wpList_append_rd _ rfl (.tmp 32) (.tmp 35) _ rfl w1.heap.size 9 i0 _ 16 Tryd.underlying23 hinf hz0 hz1 hz2 rfl _ K _ rfl Ho3.out no (some ⟨w3.heap.size, 0, none⟩) 1 1 [.string ⟨dt.toArray⟩] rfl ?p1 ?p2 ?p3 ?p4 ?p5 ?_)
      case p1 => exact Rd.one w3 _ _ no (fun h => h)
      case p2 => intro u hu; simp at hu; subst hu; rfl
      case p3 => unfold maxLen; omega
      case p4 => omega
      case p5 => simp; omega
      intro v4 w4 q1 q2 q3
      have hb4 : Below w1.heap.size w1 w4 := below_append Hb3.out q2 Ho3.out (by simp; omega)
      have HO4 := hide q1
      have Hb4 := hide hb4
      have Hrd4 := hide (Hrd2.out.keep (Kept.of_below hb4 _))
      have hsz4 := hb4.size
      clear q1 q2 q3 hb4 Ho3 Hb3 Hrd2
      go_wp2_with (at_builtin; refine wpList_append_rd _ rfl (.tmp 37) (.tmp 40) _ rfl w1.heap.size 9 i0 _ 16 Tryd.underlying23 hinf hz0 hz1 hz2 rfl _ (K + 1) _ rfl HO4.out no A2 (8 - R) (c1 - R) nv2 rfl ?p1 ?p2 ?p3 ?p4 ?p5 ?_)
      case p1 => exact Hrd4.out
      case p2 => exact H2c.out
      case p3 => unfold maxLen; omega
      case p4 => omega
      case p5 => omega
      intro v5 w5 q1 q2 q3
      have hb5 : Below w1.heap.size w1 w5 := below_append Hb4.out q2 HO4.out (by omega)
      have hbw5 := Hbw1.out.trans (hb5.mono Hbw1.out.size)
      have hlst : nv1 ++ [.string ⟨dt.toArray⟩] ++ nv2 = (ss.take K ++ dt :: ss.drop R).map sv := by rw [← Hnv1.out, ← Hnv2.out, List.map_append, List.map_cons, List.append_assoc]; rfl
      have q1' : w5.ownsRow w1.heap.size 9 1 v5 (K + 1 + (8 - R)) ((ss.take K ++ dt :: ss.drop R).map sv) := by
        rw [← hlst]
        first | exact q1 | simpa using q1
      obtain ⟨A5, c5, rfl, h5⟩ := RS.of_own_av (av := no) q1' (fun g h => h.elim)
      have hnl : (ss.take K ++ dt :: ss.drop R).length = K + 1 + (8 - R) := h5.len
      have hjl := join_len (fun s hs => (Hsm.out s hs).1)
      rw [hnl] at hjl
      have Hj := hide (fJoined_any A5 (K + 1 + (8 - R)) c5 (ss.take K ++ dt :: ss.drop R) [58] w5 h5 (by omega) (fun s hs => by have := (Hsm.out s hs).1; omega) (by simp))
      have Hfr := hide (fReadG_any (joinL [58] (ss.take K ++ dt :: ss.drop R)) w5 g4 o4 g6 o6 (Hz.out.below hbw5) (by omega) (join_no37 fun s hs => (Hsm.out s hs).2))
      rw [Hbad.out] at Hfr
      have Hbw5 := hide hbw5
      generalize joinL [58] (ss.take K ++ dt :: ss.drop R) = tx at *
      clear q1 q1' q2 q3 hb5 hbw5 hlst h5 hnl hjl HO4 Hb4 Hrd4
      go_wp2_with fail
      with_reducible refine Hj.out.mono ?_
      rintro e w6 ⟨rfl, rfl⟩
      go_wp2_with fail
      with_reducible refine Hfr.out.mono ?_
      rintro e w7 ⟨A7, c7, rfl, hr7, hb7⟩
      rw [List.length_nil] at hr7 ⊢
      have Hbw7 := hide (Hbw5.out.trans (hb7.mono Hbw5.out.size))
      clear hr7 hb7 Hfr Hj
      go_wp2_with fail
      go_ret
      exact ⟨rfl, Hbw7.out⟩
  · have t1 : ((n0 : Int) != 16) = true := by simp; omega
    go_enter Tryd.func3, Tryd.ntmps3
    go_wp2_with fail
    go_ret
    exact ⟨rfl, Below.refl _ _⟩
end Go.Proofs.YtekmlhkoibgmlaaDoor
