/-
  The walk of FnAnyOfThem.
-/
import Derived.Test.YtknajppjgdhbfaaConEach
import Derived.Test.YtknajppjgdhbfaaAlike
namespace Go.Proofs.Ytknajppjgdhbfaa
open Go.RowKit
set_option linter.unusedVariables false

set_option maxHeartbeats 3200000 in
theorem fnAnyOfThem_walk (w : World) (a0 : Option Addr) (n0 c0 : Nat) (b0 : List UInt8) (w0 : RB w none a0 n0 c0 b0) (r0 : c0 ≤ 140737488351232) (a1 : Option Addr) (n1 c1 : Nat) (b1 : List UInt8) (w1 : RB w none a1 n1 c1 b1) (r1 : c1 ≤ 140737488351232)
    (a2 : Option Addr) (n2 c2 : Nat) (b2 : List (List UInt8)) (w2 : RBB w none a2 n2 c2 b2) (r2 : c2 * 24 ≤ 140737488351232) (l2 : ∀ b ∈ b2, b.length ≤ 140737488351232) :
    Calls Try.prog 3 #[.slice a0 n0 c0, .slice a1 n1 c1, .slice a2 n2 c2] w fun e w' => e = .returned (.bool true) ∧ Below w.heap.size w w' := by
  have W0 := hide w0
  have W1 := hide w1
  have W2 := hide w2
  have L2 := hide l2
  have k0 := w0.cap
  have k1 := w1.cap
  have k2 := w2.cap
  have hone := RBB.one 22 w0
  have hcall := alike_any _ 1 1 n1 [b0] _ hone (by omega) (by intro b hb; simp at hb; subst hb; rw [w0.len]; omega)
  have Hcall := hide hcall
  clear w0 w1 w2 l2 hone hcall
  go_enter Try.func3, Try.ntmps3
  go_wp2_with fail
  with_reducible refine Hcall.out.mono ?_
  rintro e v1 ⟨A1, d1, rfl, h1, hb1⟩
  rw [alikeL_one] at h1 ⊢
  have hb1' : Below w.heap.size w v1 := ((Below.refl _ _).alloc (Nat.le_refl _) _).trans (hb1.mono (by simp))
  clear hb1 Hcall h1
  cases hg : goodA n1 b0 with
  | false =>
    have Hb1 := hide hb1'
    clear hg hb1'
    go_wp2_with fail
    go_ret
    exact ⟨rfl, Hb1.out⟩
  | true =>
    have hgood : n0 = n1 ∧ (n1 = 4 ∨ n1 = 16) ∧ mapd b0 = false := by
      unfold goodA at hg
      simp at hg
      rw [W0.out.len] at hg
      exact ⟨hg.1.1, hg.1.2, hg.2⟩
    obtain ⟨rfl, hn, hm⟩ := hgood
    have Hn := hide hn
    have Hm := hide hm
    have Hb1 := hide hb1'
    have Hcall2 := hide (alike_any a2 n2 c2 n0 b2 v1 (W2.out.below hb1') (by omega) L2.out)
    clear hn hm hb1' hg
    go_wp2_with fail
    with_reducible refine Hcall2.out.mono ?_
    rintro e v2 ⟨A2, d2, rfl, h2, hb2⟩
    have hall : ∀ b ∈ alikeL b2 n0, b.length = n0 ∧ mapd b = false := fun b hb => ⟨(alikeL_mem hb).1, (alikeL_mem hb).2.2⟩
    have hle : (alikeL b2 n0).length ≤ n2 := by
      have := List.length_filter_le (goodA n0) b2
      have h3 := W2.out.len
      unfold alikeL; omega
    generalize alikeL b2 n0 = al at *
    have hb2' : Below w.heap.size w v2 := Hb1.out.trans (hb2.mono Hb1.out.size)
    have Hall := hide hall
    have Hb2 := hide hb2'
    have H2 := hide h2
    have Hcall3 := hide (containsEach_any a0 a1 A2 n0 c0 c1 al.length d2 b0 b1 al v2 (W0.out.below hb2') (W1.out.below hb2') h2 Hn.out Hm.out hall (by omega))
    clear hall hb2' h2 hb2 Hcall2
    go_wp2_with fail
    with_reducible refine Hcall3.out.mono ?_
    rintro e v3 ⟨A3, d3, rfl, h3, hb3⟩
    have hlen : (al.map (inNet b0 b1)).length = al.length := List.length_map _
    rw [hlen] at h3 ⊢
    have hb3' : Below w.heap.size w v3 := Hb2.out.trans (hb3.mono Hb2.out.size)
    have Hb3 := hide hb3'
    have H2' := hide (H2.out.below hb3)
    have H3 := hide h3
    have hne : ((al.length : Int) != (al.length : Int)) = false := by simp
    clear h3 hb3 hb3' Hcall3 hlen
    go_wp2_with fail
    go_loopw [33] (fun i wr => ∃ k : Nat, k ≤ al.length ∧ i = .int .i64 k ∧ Below v3.heap.size v3 wr) (fun i _ => al.length - (intOf i).toNat)
    case atStart => exact ⟨0, Nat.zero_le _, rfl, Below.refl _ _⟩
    case round =>
      obtain ⟨k, hk, rfl, hbel⟩ := hrel
      have Hbel := hide hbel
      by_cases hlt : k < al.length
      · obtain ⟨g, o, B, m, f, b, rfl, hbk, hc, hb⟩ := (H2'.out.below hbel).at_ hlt
        obtain ⟨g3, o3, x, rfl, hxk, hcx⟩ := (H3.out.below hbel).at_ hlt
        have hmem := Hall.out b (List.mem_of_getElem? hbk)
        obtain rfl : m = n0 := by rw [← hb.len]; exact hmem.1
        have hbw : Below w.heap.size w wr := Hb3.out.trans (hbel.mono Hb3.out.size)
        have Hcall4 := hide (containsEach_any B a1 _ m f c1 al.length d2 b b1 al wr hb (W1.out.below hbw) (H2'.out.below hbel) Hn.out hmem.2 Hall.out (by omega))
        have hx : x = inNet b0 b1 b := by
          rw [List.getElem?_map, hbk] at hxk
          injection hxk with hxk
          exact hxk.symm
        have Hx := hide hx
        have i1 : (0 : Int) ≤ k := by omega
        clear hb hmem hbk hxk hx hbel hbw
        cases x with
        | false =>
          go_wp2_with fail
          go_roundw
          case rel => exact ⟨k + 1, by omega, by go_num, Hbel.out⟩
          case measure => simp [intOf]; omega
        | true =>
          go_wp2_with fail
          with_reducible refine Hcall4.out.mono ?_
          rintro e v4 ⟨A4, d4, rfl, h4, hb4⟩
          rw [inNet_same Hx.out.symm] at h4 ⊢
          have hlen : (al.map (inNet b0 b1)).length = al.length := List.length_map _
          rw [hlen] at h4 ⊢
          have Hcall5 := hide (sameYes_any _ _ _ _ _ _ _ _ _ none none h4 ((H3.out.below Hbel.out).below hb4))
          have Hb4 := hide hb4
          clear h4 hb4 hlen
          go_wp2_with fail
          with_reducible refine Hcall5.out.mono ?_
          rintro e v5 ⟨rfl, q, rfl⟩
          rw [show eqL (al.map (inNet b0 b1)) (al.map (inNet b0 b1)) = true from eqL_iff.2 rfl]
          go_wp2_with fail
          go_roundw
          case rel => exact ⟨k + 1, by omega, by go_num, below_drewN (Hbel.out.trans (Hb4.out.mono Hbel.out.size)) q⟩
          case measure => simp [intOf]; omega
      · go_wp2_with fail
        go_ret
        exact ⟨rfl, Hb3.out.trans (Hbel.out.mono Hb3.out.size)⟩
end Go.Proofs.Ytknajppjgdhbfaa
