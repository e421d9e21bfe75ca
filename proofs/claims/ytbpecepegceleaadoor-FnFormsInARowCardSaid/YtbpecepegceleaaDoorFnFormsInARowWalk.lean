/-
  The walk of FnFormsInARow.
-/
import Derived.Test.YtbpecepegceleaaDoorFLong
import Derived.Test.YtbpecepegceleaaDoorTo16Each
import Derived.Test.YtbpecepegceleaaDoorTo4Each
import Derived.Deep.DeepCutAuto
namespace Go.Proofs.YtbpecepegceleaaDoor
open Go.RowKit
set_option linter.unusedVariables false

theorem mapd_four {xs : List UInt8} (h : xs.length = 16) : mapd xs = fourB xs := by
  match xs, h with
  | [a0, a1, a2, a3, a4, a5, a6, a7, a8, a9, a10, a11, a12, a13, a14, a15], _ =>
    unfold fourB mapd eqL pre12
    simp [zerosB, Bool.and_assoc]
    try grind

/-- What the variable is: lost, or a form of the address. -/
def FInv (long : List UInt8) (lb : Bool) (xs : List UInt8) : Prop := if lb then xs = [] else (xs.length = 4 ∨ xs.length = 16) ∧ longOf xs = long
theorem FInv.long {long xs : List UInt8} (h : FInv long false xs) : to16L xs = long ∧ FInv long false long := by
  unfold FInv at h ⊢
  simp only [Bool.false_eq_true, if_false] at h ⊢
  obtain ⟨h1, h2⟩ := h
  have h3 := longOf_length h1
  rw [h2] at h3
  refine ⟨?_, Or.inr h3, by unfold longOf; rw [if_neg (by omega)]⟩
  rw [← h2]
  unfold to16L longOf
  rcases h1 with h1 | h1
  · rw [if_pos h1, if_pos h1]
  · rw [if_neg (by omega), if_pos h1, if_neg (by omega)]
theorem FInv.four {long xs : List UInt8} (h : FInv long false xs) (hf : fourB long = true) : to4L xs = long.drop 12 ∧ FInv long false (long.drop 12) := by
  unfold FInv at h ⊢
  simp only [Bool.false_eq_true, if_false] at h ⊢
  obtain ⟨h1, h2⟩ := h
  have h3 := longOf_length h1
  rw [h2] at h3
  have h4 : (long.drop 12).length = 4 := by rw [List.length_drop]; omega
  have h5 : long.take 12 = pre12 := by unfold fourB at hf; exact eqL_iff.1 hf
  refine ⟨?_, Or.inl h4, by unfold longOf; rw [if_pos h4, ← h5, List.take_append_drop]⟩
  unfold to4L
  rcases h1 with h1 | h1
  · rw [if_pos h1, ← h2]; unfold longOf; rw [if_pos h1]; rfl
  · have h6 : xs = long := by rw [← h2]; unfold longOf; rw [if_neg (by omega)]
    rw [if_neg (by omega), if_pos ⟨h1, by rw [mapd_four h1, h6]; exact hf⟩, h6]
theorem FInv.lost {long xs : List UInt8} (h : FInv long false xs) (hf : fourB long = false) : to4L xs = [] := by
  unfold FInv at h
  simp only [Bool.false_eq_true, if_false] at h
  obtain ⟨h1, h2⟩ := h
  unfold to4L
  rcases h1 with h1 | h1
  · exfalso
    rw [← h2] at hf
    unfold longOf at hf
    rw [if_pos h1] at hf
    exact absurd hf (by unfold fourB; rw [show (pre12 ++ xs).take 12 = pre12 from rfl, eqL_iff.2 rfl]; simp)
  · have h6 : xs = long := by rw [← h2]; unfold longOf; rw [if_neg (by omega)]
    rw [if_neg (by omega), if_neg]
    rintro ⟨_, h⟩
    rw [mapd_four h1, h6, hf] at h
    cases h
theorem FInv.gone {long xs : List UInt8} (h : FInv long true xs) : xs = [] := h
theorem FInv.none (long : List UInt8) : FInv long true [] := rfl

def FR (w : World) (long : List UInt8) (s6 s7 : Value) (wr : World) : Prop :=
  ∃ (B : Option Addr) (m f : Nat) (xs : List UInt8) (lb : Bool), s6 = .slice B m f ∧ s7 = .bool lb ∧ RB wr no B m f xs ∧ FInv long lb xs ∧ Below w.heap.size w wr

set_option maxRecDepth 100000 in
set_option maxHeartbeats 6400000 in
theorem fnFormsInARow_walk (w : World) (hp : PreIs w) (a0 : Option Addr) (n0 c0 : Nat) (b0 : List UInt8) (w0 : RB w no a0 n0 c0 b0) (r0 : c0 ≤ 140737488351232)
    (a1 : Option Addr) (n1 c1 : Nat) (b1 : List Bool) (w1 : RL w no a1 n1 c1 b1) (r1 : c1 ≤ 140737488351232) :
    Calls Tryd.prog 4 #[.slice a0 n0 c0, .slice a1 n1 c1] w fun e w' => e = .returned (.bool true) ∧ Below w.heap.size w w' := by
  by_cases hn : n0 = 4 ∨ n0 = 16
  rotate_left
  · have t1 : ((n0 : Int) != 4) = true := by rw [bne_iff_ne]; omega
    have t2 : ((n0 : Int) != 16) = true := by rw [bne_iff_ne]; omega
    go_enter Tryd.func4, Tryd.ntmps4
    go_wp2_with fail
    go_ret
    exact ⟨rfl, Below.refl _ _⟩
  have W0 := hide w0
  have W1 := hide w1
  have Hp := hide hp
  have Hn := hide hn
  have k1 := w1.cap
  have hn16 : n0 ≤ 16 := by omega
  have hcase : ((n0 : Int) != 4) = false ∨ ((n0 : Int) != 4) = true ∧ ((n0 : Int) != 16) = false := by rcases hn with rfl | rfl <;> simp
  have Hc1 := hide (fLong_any a0 n0 c0 b0 w no w0 hn)
  have hlo := longOf_length (xs := b0) (by rw [w0.len]; exact hn)
  have Hlo := hide hlo
  clear w0 w1 hn hp hlo
  go_enter Tryd.func4, Tryd.ntmps4
  go_upto_region 1 with (fail)
  go_cut [18] (fun s18 wx => s18 = .bool false ∧ w = wx)
  case first =>
    rcases hcase with t1 | ⟨t1, t2⟩
    · go_wp2_with fail
      go_meet
      case rel => exact ⟨rfl, rfl⟩
    · go_wp2_with fail
      go_meet
      case rel => exact ⟨rfl, rfl⟩
  case rest =>
    obtain ⟨rfl, rfl⟩ := hcut
    clear hcase
    go_wp2_with fail
    with_reducible refine Hc1.out.mono ?_
    rintro e v1 ⟨A1, d1, rfl, h1, hb1⟩
    rw [Hlo.out] at h1 ⊢
    have H1 := hide h1.free
    have Hb1 := hide hb1
    have Hc2 := hide (copied_own a0 n0 c0 b0 v1 no (W0.out.below hb1) (by omega))
    clear h1 hb1
    go_wp2_with fail
    with_reducible refine Hc2.out.mono ?_
    rintro e v2 ⟨v, rfl, h2, hb2⟩
    obtain ⟨A2, d2, rfl, h2'⟩ := RB.of_own h2
    have Hst : Hid (FR v1 (longOf b0) (.slice A2 n0 d2) (.bool false) v2) := hide ⟨A2, n0, d2, b0, false, rfl, rfl, h2', by unfold FInv; simp only [Bool.false_eq_true, if_false]; exact ⟨by rw [W0.out.len]; exact Hn.out, trivial⟩, hb2⟩
    obtain ⟨g5, o5, _, rfl, _, _⟩ := H1.out.at_ (k := 0) (by omega)
    clear h2 hb2 h2'
    go_wp2_with fail
    go_loopw [6, 7, 25] (fun s6 s7 i wr => ∃ k : Nat, k ≤ n1 ∧ i = .int .i64 k ∧ FR v1 (longOf b0) s6 s7 wr) (fun _ _ i _ => n1 - (intOf i).toNat)
    case atStart => exact ⟨0, Nat.zero_le _, rfl, Hst.out⟩
    case round =>
      obtain ⟨k, hk, rfl, hr⟩ := hrel
      have Hr := hide hr
      obtain ⟨B, m, f, xs, lb, rfl, rfl, hB, hI, hbl⟩ := hr
      have hbw : Below w.heap.size w wr := Hb1.out.trans (hbl.mono Hb1.out.size)
      by_cases hlt : k < n1
      · obtain ⟨g, o, y, rfl, hy, hc⟩ := (W1.out.below hbw).at_ hlt
        have hml : xs.length ≤ 16 := by
          cases lb with
          | true => rw [hI.gone]; simp
          | false => unfold FInv at hI; simp only [Bool.false_eq_true, if_false] at hI; omega
        have hmx : m ≤ 16 := by rw [← hB.len]; exact hml
        have Hc3 := hide (copied_own B m f xs wr no hB (by omega))
        have HI := hide hI
        have Hbl := hide hbl
        have Hlx := hide hml
        have Hpw := hide (Hp.out.below hbw)
        clear hy hB hI hbl hbw hml Hr
        cases y with
        | true =>
          go_wp2_with fail
          with_reducible refine Hc3.out.mono ?_
          rintro e v3 ⟨v, rfl, h3, hb3⟩
          obtain ⟨A3, d3, rfl, h3'⟩ := RB.of_own h3
          have hal : Below v3.heap.size v3 (v3.alloc (.cells #[.slice A3 m d3] 22)) := (Below.refl _ _).alloc (Nat.le_refl _) _
          have Hc4 := hide (to4Each_any (some ⟨v3.heap.size, 0, none⟩) 1 1 [xs] _ no (RBB.one 22 h3') (by intro b hb; simp at hb; subst hb; have := Hlx.out; omega) (by omega) ((Hpw.out.below hb3).below hal))
          have Hbl := hide ((Hbl.out.trans (hb3.mono Hbl.out.size)).trans (hal.mono (by have := (Hbl.out.trans (hb3.mono Hbl.out.size)).size; exact this)))
          clear h3 hb3 h3' hal
          go_wp2_with fail
          with_reducible refine Hc4.out.mono ?_
          rintro e v4 ⟨A4, d4, rfl, h4, hb4⟩
          have e1 : (to4Ls [xs]).length = 1 := rfl
          rw [e1] at h4 ⊢
          obtain ⟨g4, o4, D, dn, dc, ys, rfl, hys, hc4, hD⟩ := h4.free.at_ (k := 0) (by omega)
          obtain rfl : to4L xs = ys := by injection hys
          rw [Nat.add_zero] at hc4
          have Hbl := hide (Hbl.out.trans (hb4.mono Hbl.out.size))
          have Hlong := hide (H1.out.below Hbl.out)
          cases lb with
          | true =>
            have e2 : to4L xs = [] := by rw [HI.out.gone]; rfl
            rw [e2] at hD
            obtain rfl : dn = 0 := hD.len.symm
            have HD := hide hD
            clear h4 hb4 hys hD e1 e2
            go_wp2_with fail
            go_roundw
            case rel => exact ⟨k + 1, by omega, by go_num, D, 0, dc, [], true, rfl, rfl, HD.out, FInv.none _, Hbl.out⟩
            case measure => simp [intOf]; omega
          | false =>
            cases hf : fourB (longOf b0) with
            | true =>
              obtain ⟨e2, e3⟩ := HI.out.four hf
              rw [e2] at hD
              obtain rfl : dn = 4 := by rw [← hD.len, List.length_drop, Hlo.out]
              have HD := hide hD
              have H3 := hide e3
              have Hc5 := hide (fIsFour_any (some ⟨g5, o5, none⟩) d1 (longOf b0) v4 no Hlong.out)
              rw [hf] at Hc5
              clear h4 hb4 hys hD e1 e2 e3 hf
              go_wp2_with fail
              with_reducible refine Hc5.out.mono ?_
              rintro e v5 ⟨rfl, hb5⟩
              have Hbl := hide (Hbl.out.trans (hb5.mono Hbl.out.size))
              have k3 := H1.out.cap
              have k4 := H1.out.max
              unfold maxLen at k4
              have Hs := hide (same_any D (some ⟨g5, o5 + 12, none⟩) 4 dc 4 (d1 - 12) _ _ v5 no no (HD.out.below hb5) ((Hlong.out.below hb5).drop (k := 12) rfl (by omega)))
              have hee : eqL ((longOf b0).drop 12) ((longOf b0).drop 12) = true := eqL_iff.2 rfl
              rw [hee] at Hs
              have HD := hide (HD.out.below hb5)
              clear hb5
              go_wp2_with fail
              with_reducible refine Hs.out.mono ?_
              rintro e v6 ⟨rfl, q, rfl⟩
              go_wp2_with fail
              go_roundw
              case rel => exact ⟨k + 1, by omega, by go_num, D, 4, dc, _, false, rfl, rfl, HD.out.drewN q, H3.out, below_drewN Hbl.out q⟩
              case measure => simp [intOf]; omega
            | false =>
              have e2 := HI.out.lost hf
              rw [e2] at hD
              obtain rfl : dn = 0 := hD.len.symm
              have HD := hide hD
              have Hc5 := hide (fIsFour_any (some ⟨g5, o5, none⟩) d1 (longOf b0) v4 no Hlong.out)
              rw [hf] at Hc5
              clear h4 hb4 hys hD e1 e2 hf
              go_wp2_with fail
              with_reducible refine Hc5.out.mono ?_
              rintro e v5 ⟨rfl, hb5⟩
              have Hbl := hide (Hbl.out.trans (hb5.mono Hbl.out.size))
              have HD := hide (HD.out.below hb5)
              clear hb5
              go_wp2_with fail
              go_roundw
              case rel => exact ⟨k + 1, by omega, by go_num, D, 0, dc, [], true, rfl, rfl, HD.out, FInv.none _, Hbl.out⟩
              case measure => simp [intOf]; omega
        | false =>
          go_wp2_with fail
          with_reducible refine Hc3.out.mono ?_
          rintro e v3 ⟨v, rfl, h3, hb3⟩
          obtain ⟨A3, d3, rfl, h3'⟩ := RB.of_own h3
          have hal : Below v3.heap.size v3 (v3.alloc (.cells #[.slice A3 m d3] 22)) := (Below.refl _ _).alloc (Nat.le_refl _) _
          have Hc4 := hide (to16Each_any (some ⟨v3.heap.size, 0, none⟩) 1 1 [xs] _ no (RBB.one 22 h3') (by intro b hb; simp at hb; subst hb; have := Hlx.out; omega) (by omega) ((Hpw.out.below hb3).below hal))
          have Hbl := hide ((Hbl.out.trans (hb3.mono Hbl.out.size)).trans (hal.mono (by have := (Hbl.out.trans (hb3.mono Hbl.out.size)).size; exact this)))
          clear h3 hb3 h3' hal
          go_wp2_with fail
          with_reducible refine Hc4.out.mono ?_
          rintro e v4 ⟨A4, d4, rfl, h4, hb4⟩
          have e1 : (to16Ls [xs]).length = 1 := rfl
          rw [e1] at h4 ⊢
          obtain ⟨g4, o4, D, dn, dc, ys, rfl, hys, hc4, hD⟩ := h4.free.at_ (k := 0) (by omega)
          obtain rfl : to16L xs = ys := by injection hys
          rw [Nat.add_zero] at hc4
          have Hbl := hide (Hbl.out.trans (hb4.mono Hbl.out.size))
          have Hlong := hide (H1.out.below Hbl.out)
          cases lb with
          | true =>
            have e2 : to16L xs = [] := by rw [HI.out.gone]; rfl
            rw [e2] at hD
            obtain rfl : dn = 0 := hD.len.symm
            have HD := hide hD
            clear h4 hb4 hys hD e1 e2
            go_wp2_with fail
            go_roundw
            case rel => exact ⟨k + 1, by omega, by go_num, D, 0, dc, [], true, rfl, rfl, HD.out, FInv.none _, Hbl.out⟩
            case measure => simp [intOf]; omega
          | false =>
            obtain ⟨e2, e3⟩ := HI.out.long
            rw [e2] at hD
            obtain rfl : dn = 16 := by rw [← hD.len, Hlo.out]
            have HD := hide hD
            have H3 := hide e3
            have Hs := hide (same_any D (some ⟨g5, o5, none⟩) 16 dc 16 d1 _ _ v4 no no hD Hlong.out)
            have hee : eqL (longOf b0) (longOf b0) = true := eqL_iff.2 rfl
            rw [hee] at Hs
            clear h4 hb4 hys hD e1 e2 e3
            go_wp2_with fail
            with_reducible refine Hs.out.mono ?_
            rintro e v6 ⟨rfl, q, rfl⟩
            go_wp2_with fail
            go_roundw
            case rel => exact ⟨k + 1, by omega, by go_num, D, 16, dc, _, false, rfl, rfl, HD.out.drewN q, H3.out, below_drewN Hbl.out q⟩
            case measure => simp [intOf]; omega
      · obtain rfl : k = n1 := by omega
        obtain ⟨wx, rfl⟩ : ∃ wx : World, wx = wr := ⟨_, rfl⟩
        have Hc3 := hide (copied_own a0 n0 c0 b0 wx no (W0.out.below hbw) (by omega))
        have Hpw := hide (Hp.out.below hbw)
        have Hbw := hide hbw
        clear hB hI hbl hbw Hr
        go_wp2_with fail
        with_reducible refine Hc3.out.mono ?_
        rintro e v3 ⟨v, rfl, h3, hb3⟩
        obtain ⟨A3, d3, rfl, h3'⟩ := RB.of_own h3
        have hal : Below v3.heap.size v3 (v3.alloc (.cells #[.slice A3 n0 d3] 22)) := (Below.refl _ _).alloc (Nat.le_refl _) _
        have Hc4 := hide (to16Each_any (some ⟨v3.heap.size, 0, none⟩) 1 1 [b0] _ no (RBB.one 22 h3') (by intro b hb; simp at hb; subst hb; have := W0.out.len; omega) (by omega) ((Hpw.out.below hb3).below hal))
        have Hbl := hide ((Hbw.out.trans (hb3.mono Hbw.out.size)).trans (hal.mono (by have := (Hbw.out.trans (hb3.mono Hbw.out.size)).size; exact this)))
        clear h3 hb3 h3' hal
        go_wp2_with fail
        with_reducible refine Hc4.out.mono ?_
        rintro e v4 ⟨A4, d4, rfl, h4, hb4⟩
        have e1 : (to16Ls [b0]).length = 1 := rfl
        rw [e1] at h4 ⊢
        have Hbl := hide (Hbl.out.trans (hb4.mono Hbl.out.size))
        clear h4 hb4 e1
        go_wp2_with fail
        go_ret
        exact ⟨rfl, Hbl.out⟩
end Go.Proofs.YtbpecepegceleaaDoor
