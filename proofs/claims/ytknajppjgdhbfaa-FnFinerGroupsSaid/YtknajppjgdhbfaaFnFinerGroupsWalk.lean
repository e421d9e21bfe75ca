/-
  The walk of FnFinerGroups.
-/
import Derived.Test.YtknajppjgdhbfaaConEach
import Derived.Test.YtknajppjgdhbfaaAlike
import Derived.Test.YtknajppjgdhbfaaPlain2
import Derived.RegionTactic
namespace Go.Proofs.Ytknajppjgdhbfaa
open Go.RowKit
set_option linter.unusedVariables false

/-- The row of bytes v, after k places are joined. -/
def OrRow (v1 : World) (b1 b2 : List UInt8) (n1 : Nat) (v : Value) (k : Nat) (wr : World) : Prop :=
  wr.ownsRow v1.heap.size 5 1 v n1 ((joinTo (· ||| ·) b1 b2 k).map fun b => .int .u8 (b.toNat : Int)) ∧ Below v1.heap.size v1 wr

theorem OrRow.step {v1 wr : World} {b1 b2 : List UInt8} {n1 g d k : Nat} {x y : UInt8} (h : OrRow v1 b1 b2 n1 (.slice (some ⟨g, 0, none⟩) n1 d) k wr) (hg : v1.heap.size ≤ g) (hl : b1.length = b2.length) (hx : b1[k]? = some x) (hy : b2[k]? = some y) :
    OrRow v1 b1 b2 n1 (.slice (some ⟨g, 0, none⟩) n1 d) (k + 1) (wr.setCell ⟨g, k, none⟩ (.int .u8 ((x.toNat ||| y.toNat : Nat) : Int))).drew := by
  obtain ⟨h1, h2⟩ := h
  have h3 := (h1.stored k (.int .u8 ((x.toNat ||| y.toNat : Nat) : Int))).1
  rw [← UInt8.toNat_or] at h3 ⊢
  refine ⟨?_, (h2.setCell hg _).drew⟩
  have e : ((joinTo (· ||| ·) b1 b2 k).map fun b : UInt8 => Value.int .u8 (b.toNat : Int)).set k (.int .u8 ((x ||| y).toNat : Int)) = (joinTo (· ||| ·) b1 b2 (k + 1)).map fun b => .int .u8 (b.toNat : Int) := by
    rw [← joinTo_set hl hx hy, List.map_set]
  rw [e] at h3
  exact h3

set_option maxRecDepth 100000 in
set_option maxHeartbeats 6400000 in
theorem fnFinerGroups_walk (w : World) (a0 : Option Addr) (n0 c0 : Nat) (b0 : List (List UInt8)) (w0 : RBB w none a0 n0 c0 b0) (r0 : c0 * 24 ≤ 140737488351232) (l0 : ∀ b ∈ b0, b.length ≤ 140737488351232)
    (a1 : Option Addr) (n1 c1 : Nat) (b1 : List UInt8) (w1 : RB w none a1 n1 c1 b1) (r1 : c1 ≤ 140737488351232) (a2 : Option Addr) (n2 c2 : Nat) (b2 : List UInt8) (w2 : RB w none a2 n2 c2 b2) (r2 : c2 ≤ 140737488351232) :
    Calls Try.prog 4 #[.slice a0 n0 c0, .slice a1 n1 c1, .slice a2 n2 c2] w fun e w' => e = .returned (.bool true) ∧ Below w.heap.size w w' := by
  by_cases hn12 : n2 = n1
  rotate_left
  · have hne : ((n2 : Int) != (n1 : Int)) = true := by rw [bne_iff_ne]; omega
    go_enter Try.func4, Try.ntmps4
    go_wp2_with fail
    go_ret
    exact ⟨rfl, Below.refl _ _⟩
  subst hn12
  have hne : ((n2 : Int) != (n2 : Int)) = false := by simp
  have W0 := hide w0
  have W1 := hide w1
  have W2 := hide w2
  have k0 := w0.cap
  have k1 := w1.cap
  have Hcall := hide (alike_any a0 n0 c0 n2 b0 w w0 (by omega) l0)
  clear w0 w1 w2 l0
  go_enter Try.func4, Try.ntmps4
  go_wp2_with fail
  with_reducible refine Hcall.out.mono ?_
  rintro e v1 ⟨A1, d1, rfl, h1, hb1⟩
  have hall : ∀ b ∈ alikeL b0 n2, b.length = n2 ∧ (n2 = 4 ∨ n2 = 16) ∧ mapd b = false := fun b hb => alikeL_mem hb
  have hle : (alikeL b0 n2).length ≤ n0 := by
    have := List.length_filter_le (goodA n2) b0
    have h3 := W0.out.len
    unfold alikeL; omega
  generalize alikeL b0 n2 = al at *
  have Hall := hide hall
  have Hb1 := hide hb1
  have H1 := hide h1
  have Hcop := hide (copied_own a1 n2 c1 b1 v1 none (W1.out.below hb1) (by omega))
  clear hall hb1 h1 Hcall
  go_wp2_with fail
  with_reducible refine Hcop.out.mono ?_
  rintro e v2 ⟨vc, rfl, hcv, hcb⟩
  obtain ⟨A8, d8, rfl, _⟩ := RB.of_own hcv
  have Hst : Hid (OrRow v1 b1 b2 n2 (.slice A8 n2 d8) 0 v2) := hide ⟨by rw [joinTo_zero]; exact hcv, hcb⟩
  clear hcv hcb Hcop
  go_wp2_with fail
  go_loopw [32] (fun i wr => ∃ k : Nat, k ≤ n2 ∧ i = .int .i64 k ∧ OrRow v1 b1 b2 n2 (.slice A8 n2 d8) k wr) (fun i _ => n2 - (intOf i).toNat)
  case atStart => exact ⟨0, Nat.zero_le _, rfl, Hst.out⟩
  case round =>
    obtain ⟨k, hk, rfl, hr⟩ := hrel
    have Hr := hide hr
    by_cases hlt : k < n2
    · obtain ⟨g, cap, hv, hbg, _⟩ := hr.1.form (by omega)
      injection hv with e1 _ e3
      subst e1 e3
      have hbw : Below w.heap.size w wr := Hb1.out.trans (hr.2.mono Hb1.out.size)
      obtain ⟨x, hx⟩ : ∃ x, b1[k]? = some x := ⟨_, List.getElem?_eq_getElem (by rw [W1.out.len]; exact hlt)⟩
      obtain ⟨g2, o2, y, rfl, hy, hcy⟩ := (W2.out.below hbw).at_ hlt
      have hcx : wr.cell? ⟨g, k, none⟩ = some (.int .u8 (x.toNat : Int)) := by
        rw [hr.1.cellAt k (by omega), List.getElem?_map, joinTo_at (by rw [W1.out.len, W2.out.len]) (by rw [W1.out.len]; exact hlt), hx]
        rfl
      have hfz : wr.frozen? ⟨g, k, none⟩ = false := hr.1.frozenAt k
      have Hx := hide hx
      have Hy := hide hy
      have hor := u8_or_nat _ _ x.toNat_lt y.toNat_lt
      have i1 : (0 : Int) ≤ k := by omega
      have i2 : (k : Int) < n2 := by omega
      clear hx hy hr hbw
      go_wp2_with fail
      go_region
      go_wp2_with fail
      go_roundw
      case rel => exact ⟨k + 1, by omega, by go_num, OrRow.step Hr.out hbg (by rw [W1.out.len, W2.out.len]) Hx.out Hy.out⟩
      case measure => simp [intOf]; omega
    · obtain rfl : k = n2 := by omega
      obtain ⟨hr1, hr2⟩ := hr
      rw [show joinTo (· ||| ·) b1 b2 k = List.zipWith (· ||| ·) b1 b2 by rw [← joinTo_end (f := (· ||| ·)) (xs := b1) (ys := b2) (by rw [W1.out.len, W2.out.len]), W1.out.len]] at hr1
      obtain ⟨A9, d9, ev, hF⟩ := RB.of_own hr1
      injection ev with e1 _ e3
      subst e1 e3
      have Hf := hide hF
      have Hr2 := hide hr2
      have hsz := hr2.size
      obtain ⟨wm, rfl⟩ : ∃ wm : World, wm = wr := ⟨_, rfl⟩
      clear hr1 hr2 hF Hr Hst
      go_wp2_with fail
      go_loopw [10, 11, 48] (fun c f i wr => ∃ x y z : Nat, x ≤ y ∧ y ≤ z ∧ z ≤ al.length ∧ c = .int .i64 x ∧ f = .int .i64 y ∧ i = .int .i64 z ∧ Below wm.heap.size wm wr) (fun _ _ i _ => al.length - (intOf i).toNat)
      case atStart => exact ⟨0, 0, 0, Nat.le_refl _, Nat.le_refl _, Nat.zero_le _, rfl, rfl, rfl, Below.refl _ _⟩
      case round =>
        obtain ⟨x, y, z, hxy, hyz, hz, rfl, rfl, rfl, hbel⟩ := hrel
        have Hbel := hide hbel
        by_cases hltz : z < al.length
        · have hbm : Below v1.heap.size v1 wr := Hr2.out.trans (hbel.mono Hr2.out.size)
          have hbw : Below w.heap.size w wr := Hb1.out.trans (hbm.mono Hb1.out.size)
          obtain ⟨g, o, B, m, f, b, rfl, hbk, hc, hb⟩ := (H1.out.below hbm).at_ hltz
          have hmem := Hall.out b (List.mem_of_getElem? hbk)
          obtain rfl : m = k := by rw [← hb.len]; exact hmem.1
          have Hcon1 := hide (containsEach_any B a1 _ m f c1 al.length d1 b b1 al wr hb (W1.out.below hbw) (H1.out.below hbm) hmem.2.1 hmem.2.2 (fun b hb => ⟨(Hall.out b hb).1, (Hall.out b hb).2.2⟩) (by omega))
          have Hcon2 := hide (fun wx (hbx : Below wr.heap.size wr wx) => containsEach_any B _ _ m f d8 al.length d1 b _ al wx (hb.below hbx) ((Hf.out.below hbel).below hbx) ((H1.out.below hbm).below hbx) hmem.2.1 hmem.2.2 (fun b hb => ⟨(Hall.out b hb).1, (Hall.out b hb).2.2⟩) (by omega))
          have hfine : ∀ c ∈ al, inNet b (List.zipWith (· ||| ·) b1 b2) c = true → inNet b b1 c = true := by
            intro c hc h
            rw [inNet_or (by rw [W1.out.len]; exact hmem.1) (by rw [W1.out.len]; exact (Hall.out c hc).1) (by rw [W1.out.len, W2.out.len])] at h
            simp at h
            exact h.1
          have Hfine := hide hfine
          clear hb hmem hbk hfine hbel hbm hbw
          go_wp2_with fail
          with_reducible refine Hcon1.out.mono ?_
          rintro e v3 ⟨A3, d3, rfl, h3, hb3⟩
          have hlen : (al.map (inNet b b1)).length = al.length := List.length_map _
          rw [hlen] at h3 ⊢
          have H3 := hide h3
          have Hb3 := hide hb3
          have Hcon3 := hide (Hcon2.out v3 hb3)
          clear h3 hb3 hlen Hcon2 Hcon1
          generalize hfn : List.zipWith (· ||| ·) b1 b2 = fin at *
          clear hfn
          go_wp2_with fail
          with_reducible refine Hcon3.out.mono ?_
          rintro e v4 ⟨A4, d4, rfl, h4, hb4⟩
          have hlen : (al.map (inNet b fin)).length = al.length := List.length_map _
          rw [hlen] at h4 ⊢
          have H4 := hide h4
          have H3' := hide (H3.out.below hb4)
          have Hb4 := hide (Hb3.out.trans (hb4.mono Hb3.out.size))
          have hne2 : ((al.length : Int) != (al.length : Int)) = false := by simp
          clear h4 hb4 hlen Hcon3
          go_wp2_with fail
          go_loop [16, 17, 75] (fun p q i => ∃ (fx fy : Bool) (j : Nat), (fx = true → fy = true) ∧ j ≤ al.length ∧ p = .bool fx ∧ q = .bool fy ∧ i = .int .i64 j) (fun _ _ i => al.length - (intOf i).toNat)
          case atStart => exact ⟨true, true, 0, fun h => h, Nat.zero_le _, rfl, rfl, rfl⟩
          case round =>
            obtain ⟨fx, fy, j, himp, hj, rfl, rfl, rfl⟩ := hrel
            by_cases hltj : j < al.length
            · obtain ⟨g3, o3, u, rfl, hu, hcu⟩ := H3'.out.at_ hltj
              obtain ⟨g4, o4, v, rfl, hv, hcv⟩ := H4.out.at_ hltj
              have huv : v = true → u = true := by
                rw [List.getElem?_map, List.getElem?_eq_getElem hltj] at hu hv
                injection hu with hu
                injection hv with hv
                rw [← hu, ← hv]
                exact Hfine.out _ (List.getElem_mem hltj)
              have i1 : (0 : Int) ≤ j := by omega
              have i2 : (j : Int) < al.length := by omega
              clear hu hv
              by_cases hjz : j < z
              all_goals
                cases fx <;> cases fy <;> cases u <;> cases v <;> first | (simp at himp; done) | (simp at huv; done) | skip
              all_goals
                clear himp huv
                go_wp2_with fail
                go_round
                case rel => exact ⟨_, _, j + 1, by simp, by omega, rfl, rfl, by go_num⟩
                case measure => simp [intOf]; omega
            · cases fx <;> cases fy <;> first | (simp at himp; done) | skip
              all_goals
                clear himp
                go_wp2_with fail
                go_roundw
                case rel => first | exact ⟨x, y, z + 1, by omega, by omega, by omega, rfl, rfl, by go_num, Hbel.out.trans (Hb4.out.mono Hbel.out.size)⟩ | exact ⟨x, y + 1, z + 1, by omega, by omega, by omega, rfl, by go_num, by go_num, Hbel.out.trans (Hb4.out.mono Hbel.out.size)⟩ | exact ⟨x + 1, y + 1, z + 1, by omega, by omega, by omega, by go_num, by go_num, by go_num, Hbel.out.trans (Hb4.out.mono Hbel.out.size)⟩
                case measure => simp [intOf]; omega
        · have t1 : decide ((x : Int) ≤ (y : Int)) = true := by simp; omega
          have t2 : decide ((y : Int) ≤ (al.length : Int)) = true := by simp; omega
          have t3 : decide (x ≤ y) = true := by simp; omega
          have t4 : decide (y ≤ al.length) = true := by simp; omega
          clear hbel
          go_wp2_with fail
          go_ret
          exact ⟨rfl, (Hb1.out.trans (Hr2.out.mono Hb1.out.size)).trans (Hbel.out.mono (Nat.le_trans Hb1.out.size Hr2.out.size))⟩
end Go.Proofs.Ytknajppjgdhbfaa
