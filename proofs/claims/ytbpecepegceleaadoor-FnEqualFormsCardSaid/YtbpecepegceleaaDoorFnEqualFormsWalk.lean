/-
  The walk of FnEqualForms.
-/
import Derived.Test.YtbpecepegceleaaDoorFLong
import Derived.Test.YtbpecepegceleaaDoorFAddr
import Derived.Test.YtbpecepegceleaaDoorTo16Each
import Derived.Test.YtbpecepegceleaaDoorSameYes
import Derived.Deep.DeepCutAuto
namespace Go.Proofs.YtbpecepegceleaaDoor
open Go.RowKit
set_option linter.unusedVariables false

theorem longOf_long {xs : List UInt8} (h : xs.length = 4 ∨ xs.length = 16) : longOf (longOf xs) = longOf xs := by
  have := longOf_length h
  rw [longOf, if_neg (by omega)]
theorem to16L_long {xs : List UInt8} (h : xs.length = 4 ∨ xs.length = 16) : to16L xs = longOf xs := by
  unfold to16L longOf
  rcases h with h | h
  · rw [if_pos h, if_pos h]
  · rw [if_neg (by omega), if_pos h, if_neg (by omega)]
theorem eq_long {b : List UInt8} {gl : List (List UInt8)} (hb : b.length = 4 ∨ b.length = 16) (hg : ∀ x ∈ gl, x.length = 4 ∨ x.length = 16) : (to16Ls gl).map (eqIP (longOf b)) = gl.map (eqIP b) := by
  unfold to16Ls
  rw [List.map_map]
  apply List.map_congr_left
  intro x hx
  simp only [Function.comp]
  rw [to16L_long (hg x hx)]
  unfold eqIP
  rw [longOf_long hb, longOf_long (hg x hx)]
theorem eq_short {b : List UInt8} {gl : List (List UInt8)} (hb : b.length = 4 ∨ b.length = 16) (hf : fourB (longOf b) = true) : gl.map (eqIP ((longOf b).drop 12)) = gl.map (eqIP b) := by
  apply List.map_congr_left
  intro x hx
  have h3 := longOf_length hb
  have h4 : ((longOf b).drop 12).length = 4 := by rw [List.length_drop]; omega
  have h5 : (longOf b).take 12 = pre12 := by unfold fourB at hf; exact eqL_iff.1 hf
  have e : longOf ((longOf b).drop 12) = longOf b := by
    rw [longOf, if_pos h4, ← h5, List.take_append_drop]
  unfold eqIP
  rw [e]

set_option maxRecDepth 100000 in
set_option maxHeartbeats 6400000 in
theorem fnEqualForms_walk (w : World) (hp : PreIs w) (a0 : Option Addr) (n0 c0 : Nat) (b0 : List UInt8) (w0 : RB w no a0 n0 c0 b0) (r0 : c0 ≤ 140737488351232)
    (a1 : Option Addr) (n1 c1 : Nat) (b1 : List (List UInt8)) (w1 : RBB w no a1 n1 c1 b1) (r1 : c1 * 24 ≤ 140737488351232) (l1 : ∀ b ∈ b1, b.length ≤ 140737488351232) :
    Calls Tryd.prog 3 #[.slice a0 n0 c0, .slice a1 n1 c1] w fun e w' => e = .returned (.bool true) ∧ Below w.heap.size w w' := by
  by_cases hn : n0 = 4 ∨ n0 = 16
  rotate_left
  · have t1 : ((n0 : Int) != 4) = true := by rw [bne_iff_ne]; omega
    have t2 : ((n0 : Int) != 16) = true := by rw [bne_iff_ne]; omega
    go_enter Tryd.func3, Tryd.ntmps3
    go_wp2_with fail
    go_ret
    exact ⟨rfl, Below.refl _ _⟩
  have W0 := hide w0
  have Hp := hide hp
  have Hn := hide hn
  have Hlb : Hid (b0.length = 4 ∨ b0.length = 16) := hide (by rw [w0.len]; exact hn)
  have k1 := w1.cap
  have hn16 : n0 ≤ 16 := by omega
  have hcase : ((n0 : Int) != 4) = false ∨ ((n0 : Int) != 4) = true ∧ ((n0 : Int) != 16) = false := by rcases hn with rfl | rfl <;> simp
  have Hc1 := hide (fAddresses_any a1 n1 c1 b1 w w1 (by omega))
  have Hlo := hide (longOf_length (xs := b0) Hlb.out)
  have hgl : ∀ x ∈ fAddrL b1, x.length = 4 ∨ x.length = 16 := fun x hx => fAddrL_mem hx
  have hgn : (fAddrL b1).length ≤ n1 := by have := List.length_filter_le ok46 b1; rw [w1.len] at this; exact this
  generalize fAddrL b1 = gl at *
  have Hgl := hide hgl
  clear w0 w1 hn hp l1 hgl
  go_enter Tryd.func3, Tryd.ntmps3
  go_upto_region 1 with (fail)
  go_cut [15] (fun s15 wx => s15 = .bool false ∧ w = wx)
  case first =>
    rcases hcase with t1 | ⟨t1, t2⟩
    · go_wp2_with fail
      go_meet
      case rel => exact ⟨rfl, rfl⟩
    · go_wp2_with fail
      go_meet
      case rel => exact ⟨rfl, rfl⟩
  case rest =>
    obtain ⟨rfl, rfl⟩ := hcut
    clear hcase
    go_wp2_with fail
    with_reducible refine Hc1.out.mono ?_
    rintro e v1 ⟨A1, d1, rfl, h1, hb1⟩
    have G := hide h1.free
    have B := hide hb1
    have Hc2 := hide (copied_own a0 n0 c0 b0 v1 no (W0.out.below hb1) (by omega))
    clear h1 hb1
    go_wp2_with fail
    with_reducible refine Hc2.out.mono ?_
    rintro e v2 ⟨v, rfl, h2, hb2⟩
    obtain ⟨A2, d2, rfl, h2'⟩ := RB.of_own h2
    have G := hide (G.out.below hb2)
    have B := hide (B.out.trans (hb2.mono B.out.size))
    have Hc3 := hide (equalEach_any A2 A1 n0 d2 gl.length d1 b0 gl v2 h2' G.out Hn.out Hgl.out (by omega) (Hp.out.below B.out))
    clear h2 hb2 h2'
    go_wp2_with fail
    with_reducible refine Hc3.out.mono ?_
    rintro e v3 ⟨A6, d6, rfl, h3, hb3⟩
    rw [List.length_map] at h3 ⊢
    have G := hide (G.out.below hb3)
    have B := hide (B.out.trans (hb3.mono B.out.size))
    have R := hide h3
    have Hc4 := hide (copied_own a0 n0 c0 b0 v3 no (W0.out.below B.out) (by omega))
    clear h3 hb3
    go_wp2_with fail
    with_reducible refine Hc4.out.mono ?_
    rintro e v4 ⟨v, rfl, h4, hb4⟩
    obtain ⟨A4, d4, rfl, h4'⟩ := RB.of_own h4
    have G := hide (G.out.below hb4)
    have B := hide (B.out.trans (hb4.mono B.out.size))
    have R := hide (R.out.below hb4)
    have F4 := hide h4'
    have Hc5 := hide (copied_own a0 n0 c0 b0 v4 no (W0.out.below B.out) (by omega))
    clear h4 hb4 h4'
    go_wp2_with fail
    with_reducible refine Hc5.out.mono ?_
    rintro e v5 ⟨v, rfl, h5, hb5⟩
    obtain ⟨A5, d5, rfl, h5'⟩ := RB.of_own h5
    have hal : Below v5.heap.size v5 (v5.alloc (.cells #[.slice A5 n0 d5] 22)) := (Below.refl _ _).alloc (Nat.le_refl _) _
    have hb6 := hb5.trans (hal.mono hb5.size)
    have G := hide (G.out.below hb6)
    have B := hide (B.out.trans (hb6.mono B.out.size))
    have R := hide (R.out.below hb6)
    have Hc6 := hide (equalEach_any A4 (some ⟨v5.heap.size, 0, none⟩) n0 d4 1 1 b0 [b0] _ (F4.out.below hb6) (RBB.one 22 h5') Hn.out (by intro x hx; simp at hx; subst hx; exact Hlb.out) (by omega) (Hp.out.below B.out))
    clear h5 hb5 h5' hal hb6
    go_wp2_with fail
    with_reducible refine Hc6.out.mono ?_
    rintro e v7 ⟨A7, d7, rfl, h7, hb7⟩
    rw [show ([b0].map (eqIP b0)).length = 1 from rfl] at h7 ⊢
    have G := hide (G.out.below hb7)
    have B := hide (B.out.trans (hb7.mono B.out.size))
    have R := hide (R.out.below hb7)
    have hl2 : ∀ x ∈ gl, x.length ≤ 140737488351232 := fun x hx => by have := Hgl.out x hx; omega
    have Hc7 := hide (to16Each_any A1 gl.length d1 gl v7 no G.out hl2 (by omega) (Hp.out.below B.out))
    clear h7 hb7 hl2
    go_wp2_with fail
    with_reducible refine Hc7.out.mono ?_
    rintro e v8 ⟨A8, d8, rfl, h8, hb8⟩
    have e8 : (to16Ls gl).length = gl.length := by unfold to16Ls; rw [List.length_map]
    rw [e8] at h8 ⊢
    have G := hide (G.out.below hb8)
    have B := hide (B.out.trans (hb8.mono B.out.size))
    have R := hide (R.out.below hb8)
    have L8 := hide h8.free
    have Hc8 := hide (fLong_any a0 n0 c0 b0 v8 no (W0.out.below B.out) Hn.out)
    clear h8 hb8 e8
    go_wp2_with fail
    with_reducible refine Hc8.out.mono ?_
    rintro e v9 ⟨A9, d9, rfl, h9, hb9⟩
    rw [Hlo.out] at h9 ⊢
    have G := hide (G.out.below hb9)
    have B := hide (B.out.trans (hb9.mono B.out.size))
    have R := hide (R.out.below hb9)
    have hl3 : ∀ x ∈ to16Ls gl, x.length = 4 ∨ x.length = 16 := by
      intro x hx
      unfold to16Ls at hx
      obtain ⟨y, hy, rfl⟩ := List.mem_map.1 hx
      rw [to16L_long (Hgl.out y hy)]
      exact Or.inr (longOf_length (Hgl.out y hy))
    have Hc9 := hide (equalEach_any A9 A8 16 d9 gl.length d8 (longOf b0) (to16Ls gl) v9 h9.free (L8.out.below hb9) (Or.inr rfl) hl3 (by omega) (Hp.out.below B.out))
    rw [eq_long Hlb.out Hgl.out] at Hc9
    clear h9 hb9 hl3
    go_wp2_with fail
    with_reducible refine Hc9.out.mono ?_
    rintro e v10 ⟨A10, d10, rfl, h10, hb10⟩
    rw [List.length_map] at h10 ⊢
    have G := hide (G.out.below hb10)
    have B := hide (B.out.trans (hb10.mono B.out.size))
    have R := hide (R.out.below hb10)
    have Hs := hide (sameYes_any A6 A10 gl.length d6 gl.length d10 _ _ v10 no no R.out h10)
    have hee : eqL (gl.map (eqIP b0)) (gl.map (eqIP b0)) = true := eqL_iff.2 rfl
    have Hee := hide hee
    rw [hee] at Hs
    clear h10 hb10 hee
    go_wp2_with fail
    with_reducible refine Hs.out.mono ?_
    rintro e v11 ⟨rfl, q, rfl⟩
    have G := hide (G.out.drewN q)
    have B := hide (below_drewN B.out q)
    have R := hide (R.out.drewN q)
    have Hc10 := hide (fLong_any a0 n0 c0 b0 (v10.drewN q) no (W0.out.below B.out) Hn.out)
    go_wp2_with fail
    with_reducible refine Hc10.out.mono ?_
    rintro e v12 ⟨A12, d12, rfl, h12, hb12⟩
    rw [Hlo.out] at h12 ⊢
    have G := hide (G.out.below hb12)
    have B := hide (B.out.trans (hb12.mono B.out.size))
    have R := hide (R.out.below hb12)
    have Hc11 := hide (fIsFour_any A12 d12 (longOf b0) v12 _ h12)
    clear h12 hb12
    cases hf : fourB (longOf b0) with
    | false =>
      rw [hf] at Hc11
      clear hf
      go_wp2_with fail
      with_reducible refine Hc11.out.mono ?_
      rintro e v13 ⟨rfl, hb13⟩
      have B := hide (B.out.trans (hb13.mono B.out.size))
      clear hb13
      go_wp2_with fail
      go_ret
      exact ⟨rfl, B.out⟩
    | true =>
      rw [hf] at Hc11
      have Hf := hide hf
      clear hf
      go_wp2_with fail
      with_reducible refine Hc11.out.mono ?_
      rintro e v13 ⟨rfl, hb13⟩
      have G := hide (G.out.below hb13)
      have B := hide (B.out.trans (hb13.mono B.out.size))
      have R := hide (R.out.below hb13)
      have Hc12 := hide (fLong_any a0 n0 c0 b0 v13 no (W0.out.below B.out) Hn.out)
      clear hb13
      go_wp2_with fail
      with_reducible refine Hc12.out.mono ?_
      rintro e v14 ⟨A14, d14, rfl, h14, hb14⟩
      rw [Hlo.out] at h14 ⊢
      have G := hide (G.out.below hb14)
      have B := hide (B.out.trans (hb14.mono B.out.size))
      have R := hide (R.out.below hb14)
      obtain ⟨g14, o14, _, rfl, _, _⟩ := h14.at_ (k := 0) (by omega)
      have k3 := h14.cap
      have k4 := h14.max
      unfold maxLen at k4
      have Hc13 := hide (equalEach_any (some ⟨g14, o14 + 12, none⟩) A1 4 (d14 - 12) gl.length d1 ((longOf b0).drop 12) gl v14 (h14.free.drop (k := 12) rfl (by omega)) G.out (Or.inl rfl) Hgl.out (by omega) (Hp.out.below B.out))
      rw [eq_short Hlb.out Hf.out] at Hc13
      clear h14 hb14
      go_wp2_with fail
      with_reducible refine Hc13.out.mono ?_
      rintro e v15 ⟨A15, d15, rfl, h15, hb15⟩
      rw [List.length_map] at h15 ⊢
      have B := hide (B.out.trans (hb15.mono B.out.size))
      have R := hide (R.out.below hb15)
      have Hs2 := hide (sameYes_any A6 A15 gl.length d6 gl.length d15 _ _ v15 no no R.out h15)
      rw [Hee.out] at Hs2
      clear h15 hb15
      go_wp2_with fail
      with_reducible refine Hs2.out.mono ?_
      rintro e v16 ⟨rfl, q2, rfl⟩
      go_wp2_with fail
      go_ret
      exact ⟨rfl, below_drewN B.out q2⟩
end Go.Proofs.YtbpecepegceleaaDoor
