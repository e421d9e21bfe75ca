/-
  The walk of FnApart.
-/
import Derived.Test.YtknajppjgdhbfaaMasks
import Derived.Test.YtknajppjgdhbfaaOnesIn
import Derived.Test.YtknajppjgdhbfaaTwo
import Derived.Deep.DeepCutAuto
namespace Go.Proofs.Ytknajppjgdhbfaa
open Go.RowKit
set_option linter.unusedVariables false

/-- Behind the exchange: two numbers of n bytes, and how many ones each mask has, the fewer ones first. -/
def ApCut (w : World) (n g : Nat) (s0 s1 : Value) (wx : World) : Prop :=
  ∃ (A0 A1 : Option Addr) (c0 c1 : Nat) (x y : List UInt8) (m k : Nat), s0 = .slice A0 n c0 ∧ s1 = .slice A1 n c1 ∧ RB w no A0 n c0 x ∧ RB w no A1 n c1 y ∧ mapd x = false ∧ mapd y = false ∧ m ≤ k ∧ k ≤ 8 * n ∧
    wx.cell? ⟨g, 0, none⟩ = some (.int .i64 (m : Int)) ∧ wx.cell? ⟨g, 1, none⟩ = some (.int .i64 (k : Int)) ∧ g < wx.heap.size ∧ Below w.heap.size w wx

set_option maxRecDepth 100000 in
set_option maxHeartbeats 6400000 in
theorem fnApart_walk (w : World) (a0 : Option Addr) (n0 c0 : Nat) (b0 : List UInt8) (w0 : RB w no a0 n0 c0 b0) (r0 : c0 ≤ 140737488351232)
    (a1 : Option Addr) (n1 c1 : Nat) (b1 : List UInt8) (w1 : RB w no a1 n1 c1 b1) (r1 : c1 ≤ 140737488351232) (a2 : Int) (w2 : (Lit.int .u8 a2).wf = true) (a3 : Int) (w3 : (Lit.int .u8 a3).wf = true)
    (a4 : Option Addr) (n4 c4 : Nat) (b4 : List (List UInt8)) (w4 : RBB w no a4 n4 c4 b4) (r4 : c4 * 24 ≤ 140737488351232) (l4 : ∀ b ∈ b4, b.length ≤ 140737488351232) :
    Calls Try.prog 7 #[.slice a0 n0 c0, .slice a1 n1 c1, .int .u8 a2, .int .u8 a3, .slice a4 n4 c4] w fun e w' => e = .returned (.bool true) ∧ Below w.heap.size w w' := by
  obtain ⟨x2, rfl⟩ := byte_of_wf w2
  obtain ⟨x3, rfl⟩ := byte_of_wf w3
  have W0 := hide w0
  have W1 := hide w1
  have W4 := hide w4
  have L4 := hide l4
  have k0 := w0.cap
  have k1 := w1.cap
  have k4 := w4.cap
  have Hcall := hide (alike_any _ 2 2 n0 [b0, b1] _ (RBB.two 22 w0 w1) (by omega) (by intro b hb; simp at hb; rcases hb with rfl | rfl; (rw [w0.len]; omega); (rw [w1.len]; omega)))
  clear w0 w1 w4 l4 w2 w3
  go_enter Try.func7, Try.ntmps7
  go_wp2_with fail
  with_reducible refine Hcall.out.mono ?_
  rintro e v1 ⟨A1, d1, rfl, h1, hb1⟩
  have hb1' : Below w.heap.size w v1 := ((Below.refl _ _).alloc (Nat.le_refl _) _).trans (hb1.mono (by simp))
  have Hb1 := hide hb1'
  have htwo := alikeL_two b0 b1 n0
  generalize alikeL [b0, b1] n0 = al2 at *
  clear hb1 Hcall h1 hb1'
  rcases htwo with ⟨hg0, hg1, hl2⟩ | hl2
  rotate_left
  · have hne : ((al2.length : Int) != 2) = true := by rw [bne_iff_ne]; omega
    go_wp2_with fail
    go_ret
    exact ⟨rfl, Hb1.out⟩
  obtain ⟨_, hn, hm0⟩ := goodA_out hg0
  obtain ⟨hlb1, _, hm1⟩ := goodA_out hg1
  obtain rfl : n1 = n0 := by rw [← W1.out.len]; exact hlb1
  have Hn := hide hn
  have hn16 : n1 ≤ 16 := by omega
  have Hm0 := hide hm0
  have Hm1 := hide hm1
  rw [hl2]
  have Hones := hide (onesIn_any _ 2 2 n1 [x2, x3] _ no (RB.two (w := v1) x2 x3 5) hn16 (by omega))
  clear hn hm0 hm1 hg0 hg1 hl2 hlb1
  go_wp2_with fail
  with_reducible refine Hones.out.mono ?_
  rintro e v2 ⟨v, rfl, h2, hb2⟩
  have hlen : (onesL [x2, x3] n1).length = 2 := rfl
  rw [hlen] at h2
  obtain ⟨g, cap, rfl, hbg, hglt⟩ := h2.form (by omega)
  have hc0 : v2.cell? ⟨g, 0, none⟩ = some (.int .i64 ((x2.toNat : Int) % (8 * (n1 : Int) + 1))) := by rw [h2.cellAt 0 (by omega)]; rfl
  have hc1 : v2.cell? ⟨g, 1, none⟩ = some (.int .i64 ((x3.toNat : Int) % (8 * (n1 : Int) + 1))) := by rw [h2.cellAt 1 (by omega)]; rfl
  have hf0 : v2.frozen? ⟨g, 0, none⟩ = false := h2.frozenAt 0
  have hf1 : v2.frozen? ⟨g, 1, none⟩ = false := h2.frozenAt 1
  obtain ⟨m, hmm, hm⟩ : ∃ m : Nat, (x2.toNat : Int) % (8 * (n1 : Int) + 1) = (m : Int) ∧ m ≤ 8 * n1 := ⟨x2.toNat % (8 * n1 + 1), by simp, by have := Nat.mod_lt x2.toNat (show 0 < 8 * n1 + 1 by omega); omega⟩
  obtain ⟨k, hkk, hk⟩ : ∃ k : Nat, (x3.toNat : Int) % (8 * (n1 : Int) + 1) = (k : Int) ∧ k ≤ 8 * n1 := ⟨x3.toNat % (8 * n1 + 1), by simp, by have := Nat.mod_lt x3.toNat (show 0 < 8 * n1 + 1 by omega); omega⟩
  have h2 : v2.ownsRow (v1.alloc (.cells #[.int .u8 (x2.toNat : Int), .int .u8 (x3.toNat : Int)] 5)).heap.size 3 1 (.slice (some ⟨g, 0, none⟩) 2 cap) 2 [.int .i64 (m : Int), .int .i64 (k : Int)] := by rw [← hmm, ← hkk]; exact h2
  rw [hmm] at hc0
  rw [hkk] at hc1
  clear hmm hkk
  have hb2' : Below w.heap.size w v2 := (Hb1.out.alloc Hb1.out.size _).trans (hb2.mono (by simp; have := Hb1.out.size; omega))
  have Hb2 := hide hb2'
  have hgw : w.heap.size ≤ g := by have := Hb1.out.size; simp at hbg; omega
  have Hgw := hide hgw
  have H2 := hide h2
  clear h2 hb2 hb2' hlen Hones hbg hgw
  go_wp2_with fail
  go_quiet (fail)
  go_upto_if 41 with (fail)
  go_cut [0, 1] (fun s0 s1 wx => ApCut w n1 g s0 s1 wx)
  case first =>
    by_cases hsw : k < m
    · go_wp2_with fail
      go_meet
      case rel =>
        have q1 := ((own_drewN H2.out nq).stored 0 (.int .i64 (k : Int))).1
        have q2 := (q1.stored 1 (.int .i64 (m : Int))).1
        refine ⟨a1, a0, c1, c0, b1, b0, k, m, rfl, rfl, W1.out, W0.out, Hm1.out, Hm0.out, by omega, hm, ?_, ?_, by simp [World.setCell]; exact hglt, ((below_drewN Hb2.out nq).setCell Hgw.out _).setCell Hgw.out _⟩
        · rw [q2.cellAt 0 (by omega)]; rfl
        · rw [q2.cellAt 1 (by omega)]; rfl
    · go_wp2_with fail
      go_meet
      case rel => exact ⟨a0, a1, c0, c1, b0, b1, m, k, rfl, rfl, W0.out, W1.out, Hm0.out, Hm1.out, by omega, hk, hc0, hc1, hglt, below_drewN Hb2.out nq⟩
  case rest =>
    clear hc0 hc1 hf0 hf1 hm hk H2 Hb2 Hb1 W0 W1 Hm0 Hm1 hglt
    obtain ⟨A0, A1, e0, e1, x, y, m, k, rfl, rfl, hx, hy, hmx, hmy, hmk, hk8, hc0, hc1, hgl, hbx⟩ := hcut
    have HX := hide hx
    have HY := hide hy
    have Hmx := hide hmx
    have Hmy := hide hmy
    have Hbc := hide hbx
    have Hmo := hide (maskOf_any (m : Int) n1 wc Hn.out (by omega) (by omega))
    rw [Int.toNat_natCast] at Hmo
    clear hx hy hmx hmy hbx
    go_wp2_with fail
    with_reducible refine Hmo.out.mono ?_
    rintro e v3 ⟨AX, dX, rfl, h3, hb3⟩
    rw [cidr_length] at h3 ⊢
    have hc1' : v3.cell? ⟨g, 1, none⟩ = some (.int .i64 (k : Int)) := by rw [hb3.cell (p := ⟨g, 1, none⟩) hgl]; exact hc1
    have H3 := hide h3.free
    have Hb3 := hide (Hbc.out.trans (hb3.mono Hbc.out.size))
    have Hmo2 := hide (maskOf_any (k : Int) n1 v3 Hn.out (by omega) (by omega))
    rw [Int.toNat_natCast] at Hmo2
    clear h3 hb3 hc0 hc1 Hmo Hbc
    go_wp2_with fail
    with_reducible refine Hmo2.out.mono ?_
    rintro e v4 ⟨AY, dY, rfl, h4, hb4⟩
    rw [cidr_length] at h4 ⊢
    have H3' := hide (H3.out.below hb4)
    have H4 := hide h4.free
    have Hb4 := hide (Hb3.out.trans (hb4.mono Hb3.out.size))
    have Hco := hide (containsOne_any A0 AX A1 n1 e0 dX e1 x _ y v4 no no no (HX.out.below Hb4.out) H3'.out (HY.out.below Hb4.out) Hn.out Hmx.out Hmy.out)
    clear h4 hb4 hc1' Hmo2 Hb3 H3
    go_wp2_with fail
    with_reducible refine Hco.out.mono ?_
    rintro e v5 ⟨rfl, hb5⟩
    have H3 := hide (H3'.out.below hb5)
    have H4' := hide (H4.out.below hb5)
    have Hb5 := hide (Hb4.out.trans (hb5.mono Hb4.out.size))
    have Hal := hide (alike_any a4 n4 c4 n1 b4 v5 (W4.out.below Hb5.out) (by omega) L4.out)
    clear hb5 Hco Hb4 H4 H3'
    go_wp2_with fail
    with_reducible refine Hal.out.mono ?_
    rintro e v6 ⟨A6, d6, rfl, h6, hb6⟩
    have hall : ∀ b ∈ alikeL b4 n1, b.length = n1 ∧ mapd b = false := fun b hb => ⟨(alikeL_mem hb).1, (alikeL_mem hb).2.2⟩
    have hle : (alikeL b4 n1).length ≤ n4 := by
      have := List.length_filter_le (goodA n1) b4
      have h3 := W4.out.len
      unfold alikeL; omega
    generalize alikeL b4 n1 = al at *
    have Hall := hide hall
    have H6 := hide h6
    have H3' := hide (H3.out.below hb6)
    have H4 := hide (H4'.out.below hb6)
    have Hb6 := hide (Hb5.out.trans (hb6.mono Hb5.out.size))
    have Hce := hide (containsEach_any A0 AX A6 n1 e0 dX al.length d6 x _ al v6 (HX.out.below Hb6.out) H3'.out H6.out Hn.out Hmx.out Hall.out (by omega))
    clear hb6 Hal Hb5 H4' H3 hall h6
    go_wp2_with fail
    with_reducible refine Hce.out.mono ?_
    rintro e v7 ⟨A7, d7, rfl, h7, hb7⟩
    have hlen : (al.map (inNet x (cidr n1 m))).length = al.length := List.length_map _
    rw [hlen] at h7 ⊢
    have H7 := hide h7
    have H6' := hide (H6.out.below hb7)
    have H4' := hide (H4.out.below hb7)
    have Hb7 := hide (Hb6.out.trans (hb7.mono Hb6.out.size))
    have Hce2 := hide (containsEach_any A1 AY A6 n1 e1 dY al.length d6 y _ al v7 (HY.out.below Hb7.out) H4'.out H6'.out Hn.out Hmy.out Hall.out (by omega))
    clear hb7 Hce Hb6 H4 H6 H3' h7 hlen
    go_wp2_with fail
    with_reducible refine Hce2.out.mono ?_
    rintro e v8 ⟨A8, d8, rfl, h8, hb8⟩
    have hlen : (al.map (inNet y (cidr n1 k))).length = al.length := List.length_map _
    rw [hlen] at h8 ⊢
    have hne : ((al.length : Int) != (al.length : Int)) = false := by simp
    have H8 := hide h8
    have H7' := hide (H7.out.below hb8)
    have Hb8 := hide (Hb7.out.trans (hb8.mono Hb7.out.size))
    have Hco2 := hide (containsOne_any A1 AY A1 n1 e1 dY e1 y _ y v8 no no no (HY.out.below Hb8.out) (H4'.out.below hb8) (HY.out.below Hb8.out) Hn.out Hmy.out Hmy.out)
    rw [inNet_refl] at Hco2
    clear hb8 Hce2 Hb7 H7 H4' H6' h8 hlen
    go_wp2_with fail
    with_reducible refine Hco2.out.mono ?_
    rintro e v9 ⟨rfl, hb9⟩
    have H8' := hide (H8.out.below hb9)
    have H7 := hide (H7'.out.below hb9)
    have Hb9 := hide (Hb8.out.trans (hb9.mono Hb8.out.size))
    have hlx := HX.out.len
    have hly := HY.out.len
    have Hkey : Hid (∀ b ∈ al, inNet y (cidr n1 k) b = true → inNet x (cidr n1 m) b = inNet x (cidr n1 m) y) := hide (fun b hb h => inNet_apart hly (Hall.out b hb).1 hmk h)
    generalize inNet x (cidr n1 m) y = ins at *
    clear hb9 Hco2 Hb8 H7' H8 hlx hly
    go_wp2_with fail
    go_loop [105] (fun i => ∃ j : Nat, j ≤ al.length ∧ i = .int .i64 j) (fun i => al.length - (intOf i).toNat)
    case atStart => exact ⟨0, Nat.zero_le _, rfl⟩
    case round =>
      obtain ⟨j, hj, rfl⟩ := hrel
      by_cases hlt : j < al.length
      · obtain ⟨g7, o7, u, rfl, hu, hcu⟩ := H7.out.at_ hlt
        obtain ⟨g8, o8, v, rfl, hv, hcv⟩ := H8'.out.at_ hlt
        have huv : v = true → u = ins := by
          rw [List.getElem?_map, List.getElem?_eq_getElem hlt] at hu hv
          injection hu with hu
          injection hv with hv
          rw [← hu, ← hv]
          exact Hkey.out _ (List.getElem_mem hlt)
        have i1 : (0 : Int) ≤ j := by omega
        have i2 : (j : Int) < al.length := by omega
        clear hu hv
        cases v
        · clear huv
          go_wp2_with fail
          go_round
          case rel => exact ⟨j + 1, by omega, by go_num⟩
          case measure => simp [intOf]; omega
        · obtain rfl := huv rfl
          clear huv
          cases u
          all_goals
            go_wp2_with fail
            go_round
            case rel => exact ⟨j + 1, by omega, by go_num⟩
            case measure => simp [intOf]; omega
      · go_wp2_with fail
        go_ret
        exact ⟨rfl, Hb9.out⟩
end Go.Proofs.Ytknajppjgdhbfaa
