/-
  The walk of FnGroupTooLong.
-/
import Derived.Test.YtekmlhkoibgmlaaDoorGroupsL
import Derived.Test.YtekmlhkoibgmlaaDoorOwnS
import Derived.Test.YtekmlhkoibgmlaaDoorMB
namespace Go.Proofs.YtekmlhkoibgmlaaDoor
open Go.RowKit
set_option linter.unusedVariables false

theorem Gs.take : ∀ {gs : List (List UInt8)} {vs : List Nat} (k : Nat), Gs gs vs → Gs (gs.take k) (vs.take k)
  | _, _, 0, _ => by simp [Gs]
  | [], [], k + 1, _ => by simp [Gs]
  | g :: gs, v :: vs, k + 1, h => by
    simp only [List.take_succ_cons]
    exact ⟨h.1, Gs.take k h.2⟩
theorem Gs.set : ∀ {gs : List (List UInt8)} {vs : List Nat} (k : Nat) {g : List UInt8}, Gs gs vs → gs[k]? = some g → ∃ v, IsG g v ∧ ∀ t, IsG t v → Gs (gs.set k t) vs
  | g :: gs, v :: vs, 0, g', h, hk => by
    simp at hk
    subst hk
    exact ⟨v, h.1, fun t ht => ⟨ht, h.2⟩⟩
  | g :: gs, v :: vs, k + 1, g', h, hk => by
    simp at hk
    obtain ⟨v', h1, h2⟩ := Gs.set k h.2 hk
    exact ⟨v', h1, fun t ht => ⟨h.1, h2 t ht⟩⟩
  | [], _, k, g', h, hk => by simp at hk
theorem readG_set {b t : List UInt8} {K v : Nat} (hb : b.length = 16) (h : Gs ((partsL b).set K t) (valsL b)) : readG (joinL [58] ((partsL b).set K t)) = b := by
  have hl : ((partsL b).set K t).length = 8 := by rw [List.length_set, partsL_len, hb]
  unfold readG
  rw [read_groups h (by intro e; rw [e] at hl; simp at hl), if_pos hl, flat_vals b (by omega)]
  rfl
theorem readG_bad {b t : List UInt8} {K : Nat} (hb : b.length = 16) (hK : K < 8) (ht : ∀ c ∈ t, isHex c) (hl : 4 < t.length) : readG (joinL [58] ((partsL b).set K t)) = [] := by
  have hl8 : (partsL b).length = 8 := by rw [partsL_len, hb]
  have e : (partsL b).set K t = (partsL b).take K ++ t :: (partsL b).drop (K + 1) := by
    rw [List.set_eq_take_append_cons_drop, if_pos (by omega)]
  unfold readG
  rw [e, read_bad ((gs_parts b).take K) ht hl ?_]
  · rfl
  · rcases Nat.eq_zero_or_pos K with h0 | h0
    · right
      intro h
      have := congrArg List.length h
      rw [List.length_drop, hl8] at this
      simp at this; omega
    · left
      intro h
      have := congrArg List.length h
      rw [List.length_take, hl8] at this
      simp at this; omega
theorem set_small {b t : List UInt8} {K : Nat} (ht : ∀ c ∈ t, isHex c) (hl : t.length ≤ 5) : ∀ s ∈ (partsL b).set K t, s.length ≤ 20 ∧ (37 : UInt8) ∉ s := fun s hs => by
  rcases List.mem_or_eq_of_mem_set hs with h | rfl
  · obtain ⟨v, hv⟩ := (gs_parts b).mem s h
    exact ⟨by have := hv.2.1; omega, hv.no37⟩
  · exact ⟨by omega, fun hm => (hex_ne58 (ht 37 hm)).2.2 rfl⟩
/-- How much may still be put ahead. -/
def muS (g K : Nat) (wr : World) : Nat := match wr.cell? ⟨g, K, none⟩ with
  | some (.string s) => 5 - s.size
  | _ => 0
theorem muS_of {g K : Nat} {wr : World} {t : List UInt8} (h : wr.cell? ⟨g, K, none⟩ = some (.string ⟨t.toArray⟩)) : muS g K wr = 5 - t.length := by
  unfold muS; rw [h]; rfl

set_option maxRecDepth 100000 in
set_option maxHeartbeats 3200000 in
theorem fnGroupTooLong_walk (w : World) (g4 o4 g6 o6 : Nat) (hz : ZX w g4 o4 g6 o6) (a0 : Option Addr) (n0 c0 : Nat) (b0 : List UInt8) (w0 : RB w no a0 n0 c0 b0) (r0 : c0 ≤ 140737488351232) (k1 : Int) (wf1 : (Lit.int .i64 k1).wf = true) :
    Calls Tryd.prog 4 #[.slice a0 n0 c0, .int .i64 k1] w fun e w' => e = .returned (.bool true) ∧ Below w.heap.size w w' := by
  have W0 := hide w0
  have Hz := hide hz
  have k0 := w0.cap
  by_cases h16 : n0 = 16
  · subst h16
    have hbl := w0.len
    have hl8 : (partsL b0).length = 8 := by rw [partsL_len, hbl]
    have Hp1 := hide (fun W => placeIn_any k1 7 7 rfl (by omega) W)
    have hK := placeN_le k1 7
    generalize placeN k1 7 = K at *
    have Hf := hide (fParts_own a0 16 c0 b0 w w0 (by omega))
    rw [hl8] at Hf
    obtain ⟨t0, ht0⟩ : ∃ t, (partsL b0)[K]? = some t := ⟨_, List.getElem?_eq_getElem (by omega)⟩
    obtain ⟨v, hv1, hv2⟩ := (gs_parts b0).set K ht0
    have Hv2 := hide hv2
    have Hbl := hide hbl
    have Hini : Hid (IsG t0 v ∧ (partsL b0).set K t0 = partsL b0) := hide ⟨hv1, by
      obtain ⟨h, e⟩ := List.getElem?_eq_some_iff.1 ht0
      rw [← e, List.set_getElem_self]⟩
    have HK := hide hK
    have i1 : (0 : Int) ≤ (K : Int) := by omega
    have i2 : (K : Int) < 8 := by omega
    clear w0 hz wf1 hv1 hv2 ht0 hbl
    go_enter Tryd.func4, Tryd.ntmps4
    go_wp2_with fail
    with_reducible refine Hf.out.mono ?_
    rintro e w1 ⟨V, rfl, hV, hb1⟩
    have hown : OwnS w V 8 (partsL b0) w1 := ⟨hV, hb1⟩
    obtain ⟨A1, c1, rfl, hc1, hc2⟩ := hown.form
    obtain ⟨g, rfl, hg⟩ := hown.some_ (by omega)
    unfold maxLen at hc2
    have Hown := hide hown
    clear hV hb1 hown Hf
    go_wp2_with fail
    with_reducible refine (Hp1.out _).mono ?_
    rintro e w' ⟨rfl, rfl⟩
    go_wp2_with fail
    go_loopw [7] (fun s7 wr => ∃ t, IsG t v ∧ OwnS w (.slice (some ⟨g, 0, none⟩) 8 c1) 8 ((partsL b0).set K t) wr) (fun _ wr => muS g K wr)
    case atStart => exact ⟨t0, Hini.out.1, by rw [Hini.out.2]; exact Hown.out⟩
    case round =>
      obtain ⟨t, ht, hr⟩ := hrel
      have Hr := hide hr
      have Ht := hide ht
      obtain ⟨g', o', x, e, hx, hcx⟩ := hr.rs.at_ (k := K) (by omega)
      injection e with e; injection e with e1 e2; subst e1 e2
      rw [Nat.zero_add] at hcx
      obtain rfl : x = t := by
        rw [List.getElem?_set_self (by rw [hl8]; omega)] at hx
        injection hx with hx
        exact hx.symm
      have hfz := hr.1.frozenAt K
      have hmu := muS_of hcx
      have hle := ht.2.1
      have Hmu := hide hmu
      have q1 : ¬ (9223372036854775807 < 1 + x.length) := by omega
      obtain ⟨y, hy⟩ : ∃ y, y = 48 :: x := ⟨_, rfl⟩
      have hyl : y.length = x.length + 1 := by rw [hy]; rfl
      have hs1 := hr.set_ hg K y
      rw [List.set_set] at hs1
      have hss : (ByteArray.mk #[48]) ++ (ByteArray.mk x.toArray) = ⟨y.toArray⟩ := by rw [hy]; exact ba_append [48] x
      have Hhex : Hid (∀ c ∈ y, isHex c) := hide (fun c hc => by
        rw [hy] at hc
        rcases List.mem_cons.1 hc with rfl | hc
        · exact hex48
        · exact ht.2.2.1 c hc)
      have hsm := set_small (b := b0) (K := K) Hhex.out (by omega)
      have hjl := join_len (fun s hs => (hsm s hs).1)
      rw [List.length_set, hl8] at hjl
      have hbw2 := hs1.2
      have Hj := hide (fJoined_any _ 8 c1 ((partsL b0).set K y) [58] _ hs1.rs (by omega) (fun s hs => by have := (hsm s hs).1; omega) (by simp))
      have Hfr := hide (fReadG_any (joinL [58] ((partsL b0).set K y)) _ g4 o4 g6 o6 (Hz.out.below hbw2) (by omega) (join_no37 fun s hs => (hsm s hs).2))
      have Hs1 := hide hs1
      have Hbw2 := hide hbw2
      obtain ⟨W2, hW2⟩ : ∃ W2, W2 = wr.setCell ⟨g, K, none⟩ (.string ⟨y.toArray⟩) := ⟨_, rfl⟩
      rw [← hW2] at Hj Hfr Hs1 Hbw2
      have HW2 := hide hW2
      clear hW2
      by_cases hlt : x.length < 4
      · have j1 : (x.length : Int) < 4 := by omega
        have hG := isG_zero ht hlt
        rw [← hy] at hG
        have HG := hide hG
        rw [readG_set (v := v) Hbl.out (Hv2.out _ hG)] at Hfr
        generalize joinL [58] ((partsL b0).set K y) = tx at *
        clear hr ht hx hmu hG hs1 hbw2 hsm hjl hy
        go_wp2_with fail
        rw [← HW2.out]
        with_reducible refine Hj.out.mono ?_
        rintro e w3 ⟨rfl, rfl⟩
        clear hfz hcx
        go_wp2_with fail
        with_reducible refine Hfr.out.mono ?_
        rintro e w4 ⟨A4, c4, rfl, hr4, hb4⟩
        rw [Hbl.out] at hr4 ⊢
        have hbw4 := Hbw2.out.trans (hb4.mono Hbw2.out.size)
        have Hsm := hide (same_any A4 a0 16 c4 16 c0 b0 b0 w4 no no hr4 (W0.out.below hbw4))
        rw [show eqL b0 b0 = true from eqL_iff.2 rfl] at Hsm
        have Hs4 := hide (Hs1.out.below hb4)
        clear hr4 hb4 hbw4 Hfr Hj
        go_wp2_with fail
        with_reducible refine Hsm.out.mono ?_
        rintro e w5 ⟨rfl, q, rfl⟩
        go_wp2_with fail
        go_roundw
        case rel => exact ⟨y, HG.out, Hs4.out.drewN q⟩
        case measure =>
          have h := (Hs4.out.drewN q).rs.at_ (k := K) (by have := HK.out; omega)
          obtain ⟨g', o', z, e, hz', hcz⟩ := h
          injection e with e; injection e with e1 e2; subst e1 e2
          rw [Nat.zero_add] at hcz
          rw [List.getElem?_set_self (by rw [hl8]; have := HK.out; omega)] at hz'
          injection hz' with hz'
          subst hz'
          rw [muS_of hcz, Hmu.out]
          omega
      · have j1 : ¬ ((x.length : Int) < 4) := by omega
        rw [readG_bad Hbl.out (by have := HK.out; omega) Hhex.out (by omega)] at Hfr
        generalize joinL [58] ((partsL b0).set K y) = tx at *
        clear hr ht hx hmu hs1 hbw2 hsm hjl hy
        go_wp2_with fail
        rw [← HW2.out]
        with_reducible refine Hj.out.mono ?_
        rintro e w3 ⟨rfl, rfl⟩
        clear hfz hcx
        go_wp2_with fail
        with_reducible refine Hfr.out.mono ?_
        rintro e w4 ⟨A4, c4, rfl, hr4, hb4⟩
        rw [List.length_nil] at hr4 ⊢
        have Hbw4 := hide (Hbw2.out.trans (hb4.mono Hbw2.out.size))
        clear hr4 hb4 Hfr Hj
        go_wp2_with fail
        go_ret
        exact ⟨rfl, Hbw4.out⟩
  · have t1 : ((n0 : Int) != 16) = true := by simp; omega
    go_enter Tryd.func4, Tryd.ntmps4
    go_wp2_with fail
    go_ret
    exact ⟨rfl, Below.refl _ _⟩
end Go.Proofs.YtekmlhkoibgmlaaDoor
