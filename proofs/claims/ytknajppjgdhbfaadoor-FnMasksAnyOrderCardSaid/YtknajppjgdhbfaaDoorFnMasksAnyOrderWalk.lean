/-
  The walk of FnMasksAnyOrder.
-/
import Derived.Test.YtknajppjgdhbfaaDoorInARow
import Derived.Test.YtknajppjgdhbfaaDoorSized
import Derived.Test.YtknajppjgdhbfaaDoorSame
import Derived.RegionTactic
import Derived.Deep.DeepCutAuto
namespace Go.Proofs.YtknajppjgdhbfaaDoor
open Go.RowKit
set_option linter.unusedVariables false

theorem and_right (x a b : UInt8) : x &&& a &&& b = x &&& b &&& a := by rw [UInt8.and_assoc, UInt8.and_comm a b, ← UInt8.and_assoc]
theorem masked_comm (x a b : List UInt8) : masked (masked x a) b = masked (masked x b) a := by
  unfold masked
  apply List.ext_getElem?
  intro i
  simp only [List.getElem?_zipWith]
  cases x[i]? <;> cases a[i]? <;> cases b[i]? <;> simp
  exact and_right _ _ _
theorem leftTo_perm {x : List UInt8} {ml m2 : List (List UInt8)} (h : m2.Perm ml) : leftTo x m2 m2.length = leftTo x ml ml.length := by
  unfold leftTo
  rw [List.take_of_length_le (Nat.le_refl _), List.take_of_length_le (Nat.le_refl _)]
  exact h.foldl_eq' (fun a _ b _ z => masked_comm z a b) x

theorem Each.swap {w : World} {av : Nat → Prop} {xs : List Value} {bss : List (List UInt8)} {i k : Nat} (h : Each w av xs bss) (hi : i < bss.length) (hk : k < bss.length) (hi' : i < xs.length) (hk' : k < xs.length) :
    Each w av ((xs.set i xs[k]).set k xs[i]) ((bss.set i bss[k]).set k bss[i]) := by
  refine ⟨by simp [h.1], fun j b hj => ?_⟩
  have hjl : j < bss.length := by have := (List.getElem?_eq_some_iff.1 hj).1; simpa using this
  have hjl' : j < xs.length := by rw [h.1]; exact hjl
  have hpick : ∀ p (hp : p < bss.length) (hp' : p < xs.length), ∃ A n c, xs[p] = Value.slice A n c ∧ RB w av A n c bss[p] := by
    intro p hp hp'
    obtain ⟨A, n, c, e, hr⟩ := h.2 p _ (List.getElem?_eq_getElem hp)
    rw [List.getElem?_eq_getElem hp'] at e
    injection e with e
    exact ⟨A, n, c, e, hr⟩
  by_cases e1 : k = j
  · subst e1
    obtain ⟨A, n, c, e, hr⟩ := hpick i hi hi'
    rw [List.getElem?_set, if_pos rfl, if_pos (by simpa using hk)] at hj
    injection hj with hj
    subst hj
    exact ⟨A, n, c, by rw [List.getElem?_set, if_pos rfl, if_pos (by simpa using hk'), e], hr⟩
  · rw [List.getElem?_set, if_neg e1] at hj
    rw [List.getElem?_set, if_neg e1]
    by_cases e2 : i = j
    · subst e2
      obtain ⟨A, n, c, e, hr⟩ := hpick k hk hk'
      rw [List.getElem?_set, if_pos rfl, if_pos hi] at hj
      injection hj with hj
      subst hj
      exact ⟨A, n, c, by rw [List.getElem?_set, if_pos rfl, if_pos hi', e], hr⟩
    · rw [List.getElem?_set, if_neg e2] at hj
      rw [List.getElem?_set, if_neg e2]
      exact h.2 j b hj

/-- Bits alone are lost. -/
theorem lost_alone (x m : UInt8) : (bits .andNot .u8 ((x &&& m).toNat : Int) (x.toNat : Int) != 0) = false := by
  rw [u8_andNot_nat _ _ (x &&& m).toNat_lt x.toNat_lt]
  have : (x &&& m).toNat &&& (255 - x.toNat) = 0 := by
    apply Nat.eq_of_testBit_eq
    intro i
    rw [UInt8.toNat_and, Nat.testBit_and, Nat.testBit_and, show 255 - x.toNat = 2 ^ 8 - (x.toNat + 1) by omega, Nat.testBit_two_pow_sub_succ x.toNat_lt, Nat.zero_testBit]
    cases x.toNat.testBit i <;> simp
  rw [this]
  rfl

theorem cell_below {v w : World} {a : Addr} {u : Value} (hb : Below v.heap.size v w) (h : v.cell? a = some u) : w.cell? a = some u := by
  rw [hb.cell (World.block_lt_of_cell? v a h)]; exact h

/-- The list 'other' in the middle of the exchange. -/
def OtherR (v1 : World) (ml : List (List UInt8)) (N : Nat) (v : Value) (wr : World) : Prop :=
  ∃ (ys : List Value) (m2 : List (List UInt8)), wr.ownsRow v1.heap.size 22 1 v N ys ∧ Each v1 no ys m2 ∧ m2.Perm ml ∧ m2.length = N ∧ Below v1.heap.size v1 wr

theorem OtherR.swap {v1 wr : World} {ml : List (List UInt8)} {N g d i k : Nat} (h : OtherR v1 ml N (.slice (some ⟨g, 0, none⟩) N d) wr) (hi : i < N) (hk : k < N) :
    v1.heap.size ≤ g ∧ ∃ A n c B m e, wr.cell? ⟨g, i, none⟩ = some (.slice A n c) ∧ wr.cell? ⟨g, k, none⟩ = some (.slice B m e) ∧ wr.frozen? ⟨g, i, none⟩ = false ∧
      (∃ u, (wr.setCell ⟨g, i, none⟩ (.slice B m e)).cell? ⟨g, k, none⟩ = some u) ∧ (wr.setCell ⟨g, i, none⟩ (.slice B m e)).frozen? ⟨g, k, none⟩ = false ∧
      OtherR v1 ml N (.slice (some ⟨g, 0, none⟩) N d) ((wr.setCell ⟨g, i, none⟩ (.slice B m e)).setCell ⟨g, k, none⟩ (.slice A n c)) := by
  obtain ⟨ys, m2, h1, h2, h3, h4, h5⟩ := h
  have hg := (h1.lt g rfl).1
  have hyl : ys.length = N := by rw [h2.1, h4]
  obtain ⟨A, n, c, e1, hr1⟩ := h2.2 i _ (List.getElem?_eq_getElem (by omega))
  obtain ⟨B, m, e, e2, hr2⟩ := h2.2 k _ (List.getElem?_eq_getElem (by omega))
  have q1 := h1.stored i (.slice B m e)
  have q2 := q1.1.stored k (.slice A n c)
  refine ⟨hg, A, n, c, B, m, e, by rw [h1.cellAt i (by omega), e1], by rw [h1.cellAt k (by omega), e2], h1.frozenAt i, ?_, q1.1.frozenAt k, ?_⟩
  · rw [q1.1.cellAt k (by omega)]
    exact ⟨_, List.getElem?_eq_getElem (by simp; omega)⟩
  · rw [List.getElem?_eq_getElem (by omega)] at e1 e2
    injection e1 with e1
    injection e2 with e2
    have hs := h2.swap (i := i) (k := k) (by omega) (by omega) (by omega) (by omega)
    rw [e1, e2] at hs
    exact ⟨_, _, q2.1, hs, (List.set_set_perm (by omega) (by omega)).trans h3, by simp [h4], (h5.setCell hg _).setCell hg _⟩

/-- The row 'due' after p places of the k-th mask. -/
def DueR (wd : World) (x m : List UInt8) (n p : Nat) (v : Value) (wr : World) : Prop :=
  wr.ownsRow wd.heap.size 5 1 v n ((joinTo (· &&& ·) x m p).map fun b => .int .u8 (b.toNat : Int)) ∧ Below wd.heap.size wd wr
theorem DueR.step {wd wr : World} {xs ms : List UInt8} {n g d k : Nat} {x y : UInt8} (h : DueR wd xs ms n k (.slice (some ⟨g, 0, none⟩) n d) wr) (hg : wd.heap.size ≤ g) (hl : xs.length = ms.length) (hx : xs[k]? = some x) (hy : ms[k]? = some y) :
    DueR wd xs ms n (k + 1) (.slice (some ⟨g, 0, none⟩) n d) (wr.setCell ⟨g, k, none⟩ (.int .u8 ((x.toNat &&& y.toNat : Nat) : Int))).drew := by
  obtain ⟨h1, h2⟩ := h
  have h3 := (h1.stored k (.int .u8 ((x.toNat &&& y.toNat : Nat) : Int))).1
  rw [← UInt8.toNat_and] at h3 ⊢
  refine ⟨?_, (h2.setCell hg _).drew⟩
  have e : ((joinTo (· &&& ·) xs ms k).map fun b : UInt8 => Value.int .u8 (b.toNat : Int)).set k (.int .u8 ((x &&& y).toNat : Int)) = (joinTo (· &&& ·) xs ms (k + 1)).map fun b => .int .u8 (b.toNat : Int) := by
    rw [← joinTo_set hl hx hy, List.map_set]
  rw [e] at h3
  exact h3

theorem DueR.drewN {wd wr : World} {x m : List UInt8} {n p : Nat} {v : Value} (h : DueR wd x m n p v wr) (q : Nat) : DueR wd x m n p v (wr.drewN q) := ⟨own_drewN h.1 q, below_drewN h.2 q⟩

set_option maxRecDepth 100000 in
set_option maxHeartbeats 6400000 in
theorem fnMasksAnyOrder_walk (w : World) (a0 : Option Addr) (n0 c0 : Nat) (b0 : List UInt8) (w0 : RB w no a0 n0 c0 b0) (r0 : c0 ≤ 140737488351232)
    (a1 : Option Addr) (n1 c1 : Nat) (b1 : List (List UInt8)) (w1 : RBB w no a1 n1 c1 b1) (r1 : c1 * 24 ≤ 140737488351232) (l1 : ∀ b ∈ b1, b.length ≤ 140737488351232)
    (a2 : Option Addr) (n2 c2 : Nat) (b2 : List UInt8) (w2 : RB w no a2 n2 c2 b2) (r2 : c2 ≤ 140737488351232) :
    Calls Tryd.prog 4 #[.slice a0 n0 c0, .slice a1 n1 c1, .slice a2 n2 c2] w fun e w' => e = .returned (.bool true) ∧ Below w.heap.size w w' := by
  obtain ⟨i0, hi, hz0, hz1, hz2⟩ := info_parts bytes_info
  by_cases hn : n0 = 4 ∨ n0 = 16
  rotate_left
  · have t1 : ((n0 : Int) != 4) = true := by rw [bne_iff_ne]; omega
    have t2 : ((n0 : Int) != 16) = true := by rw [bne_iff_ne]; omega
    go_enter Tryd.func4, Tryd.ntmps4
    go_wp2_with fail
    go_ret
    exact ⟨rfl, Below.refl _ _⟩
  have W0 := hide w0
  have W1 := hide w1
  have W2 := hide w2
  have Hn := hide hn
  have k1 := w1.cap
  have k2 := w2.cap
  have hn16 : n0 ≤ 16 := by omega
  have Hcall := hide (sized_any a1 n1 c1 n0 b1 w w1 (by omega) l1)
  have hcase : ((n0 : Int) != 4) = false ∨ ((n0 : Int) != 4) = true ∧ ((n0 : Int) != 16) = false := by rcases hn with rfl | rfl <;> simp
  clear w0 w1 w2 l1 hn
  go_enter Tryd.func4, Tryd.ntmps4
  go_upto_region 1 with (fail)
  go_cut [27] (fun s27 wx => s27 = .bool false ∧ w = wx)
  case first =>
    rcases hcase with t1 | ⟨t1, t2⟩
    · go_wp2_with fail
      go_meet
      case rel => exact ⟨rfl, rfl⟩
    · go_wp2_with fail
      go_meet
      case rel => exact ⟨rfl, rfl⟩
  case rest =>
    obtain ⟨rfl, rfl⟩ := hcut
    clear hcase
    go_wp2_with fail
    with_reducible refine Hcall.out.mono ?_
    rintro e v1 ⟨A1, d1, rfl, h1, hb1⟩
    have hml : ∀ m ∈ sizedL b1 n0, m.length = n0 := fun m hm => sizedL_mem hm
    have hle : (sizedL b1 n0).length ≤ n1 := by
      have := List.length_filter_le (fun b : List UInt8 => decide (b.length = n0)) b1
      have h4 := W1.out.len
      unfold sizedL; omega
    generalize sizedL b1 n0 = ml at *
    have Hml := hide hml
    have H1 := hide h1.free
    have Hb1 := hide hb1
    obtain ⟨_, _, _, xs, hxs, hex⟩ := h1.free
    have Hxs := hide (hxs.keep (Kept.alloc no v1 (.cells #[] 22)))
    have Hex := hide hex
    have Ho := hide (own_empty v1 v1.heap.size 22 (Nat.le_refl _))
    clear h1 hml hb1 hxs hex Hcall
    go_wp2_with (at_builtin; refine wpList_append_rd _ rfl (.tmp 32) (.tmp 33) _ rfl v1.heap.size 22 i0 _ 24 Tryd.underlying23 hi hz0 hz1 hz2 rfl _ 0 [] rfl Ho.out no A1 ml.length d1 xs rfl Hxs.out ?_ ?_ ?_ ?_ ?_)
    · intro u hu
      obtain ⟨j, hj, he⟩ := List.getElem_of_mem hu
      obtain ⟨A, n, c, e, _⟩ := Hex.out.2 j _ (List.getElem?_eq_getElem (by rw [← Hex.out.1]; exact hj))
      rw [List.getElem?_eq_getElem hj, he] at e
      injection e with e
      rw [e]
      rfl
    · unfold maxLen; omega
    · omega
    · simp
    intro v8 v2 q1 q2 q3
    have Hst : Hid (OtherR v1 ml ml.length v8 v2) := hide ⟨xs, ml, by simpa using q1, Hex.out, List.Perm.refl _, rfl, ((Below.refl _ _).alloc (Nat.le_refl _) _).grown q2 (by simp) (fun k hk => by simp [Value.ownBlock] at hk; omega)⟩
    obtain ⟨A8, d8, rfl, _⟩ := Rd.of_own q1
    clear q1 q2 q3
    go_wp2_with fail
    go_loopw [37] (fun i wr => ∃ k : Nat, k ≤ n2 ∧ i = .int .i64 k ∧ OtherR v1 ml ml.length (.slice A8 ml.length d8) wr) (fun i _ => n2 - (intOf i).toNat)
    case atStart => exact ⟨0, Nat.zero_le _, rfl, Hst.out⟩
    case round =>
      obtain ⟨k, hk, rfl, hr⟩ := hrel
      have Hr := hide hr
      have hbw : Below w.heap.size w wr := Hb1.out.trans (hr.choose_spec.choose_spec.2.2.2.2.mono Hb1.out.size)
      by_cases hlt : k < n2
      · obtain ⟨g, o, x, rfl, hx, hc⟩ := (W2.out.below hbw).at_ hlt
        have hx1 := lt_256 x
        have hx2 : (0 : Int) ≤ (x.toNat : Int) := by omega
        clear hx hbw
        by_cases hl2 : k < ml.length
        · obtain ⟨g8, rfl⟩ : ∃ g8, A8 = some ⟨g8, 0, none⟩ := by
            obtain ⟨ys, m2, hown, _⟩ := hr
            rcases hown.2 with ⟨h', h''⟩ | ⟨g', cap', cur, h', _⟩
            · omega
            · injection h' with h'; exact ⟨g', h'⟩
          have hpos : (0 : Int) < (ml.length : Int) - (k : Int) := by omega
          have hne : ¬ ((ml.length : Int) - (k : Int) = 0) := by omega
          have hm1 := Int.emod_lt_of_pos (x.toNat : Int) hpos
          have hm2 := Int.emod_nonneg (x.toNat : Int) hne
          obtain ⟨kk, hkk⟩ : ∃ kk : Nat, (k : Int) + (x.toNat : Int) % ((ml.length : Int) - (k : Int)) = (kk : Int) := ⟨((k : Int) + (x.toNat : Int) % ((ml.length : Int) - (k : Int))).toNat, by omega⟩
          have hkl : kk < ml.length := by omega
          have hkl' : (kk : Int) < ml.length := by omega
          have hk0 : (0 : Int) ≤ kk := by omega
          obtain ⟨_, A, p, c, B, q, e, hq1, hq2, hq3, ⟨u, hq4⟩, hq5, hq6⟩ := hr.swap hl2 hkl
          have Hq6 := hide hq6
          clear hq6 hr
          go_wp2_with fail
          go_roundw
          case rel => exact ⟨k + 1, by omega, by go_num, Hq6.out⟩
          case measure => simp [intOf]; omega
        · clear hr
          go_wp2_with fail
          go_roundw
          case rel => exact ⟨k + 1, by omega, by go_num, Hr.out⟩
          case measure => simp [intOf]; omega
      · obtain rfl : k = n2 := by omega
        obtain ⟨wo, rfl⟩ : ∃ wo : World, wo = wr := ⟨_, rfl⟩
        obtain ⟨ys, m2, hown, hech, hperm, hlen, hbel⟩ := hr
        have Hbw := hide hbw
        have Hperm := hide hperm
        have Hlen := hide hlen
        obtain ⟨A8', d8', e8, h8⟩ := RBB.of_own hown (hech.keep (Kept.of_below hbel no))
        injection e8 with e8 _ e9
        subst e8 e9
        have Ha0 := hide (W0.out.below hbw)
        have Ha7 := hide (H1.out.below hbel)
        have Ha8 := hide h8
        have Hc1 := hide (copied_own a0 n0 c0 b0 wo no Ha0.out (by omega))
        have hmm2 : Hid (∀ m ∈ m2, m.length = n0) := hide fun m hm => Hml.out m (hperm.subset hm)
        clear hown hech hperm hlen hbel h8 hbw Hr
        go_wp2_with fail
        with_reducible refine Hc1.out.mono ?_
        rintro e v3 ⟨v, rfl, h3, hb3⟩
        obtain ⟨A3, d3, rfl, h3'⟩ := RB.of_own h3
        have Hc2 := hide (inARow_any A3 A1 n0 d3 ml.length d1 b0 ml v3 no no h3' (Ha7.out.below hb3) Hn.out Hml.out (by omega))
        have Ha0 := hide (Ha0.out.below hb3)
        have Ha7 := hide (Ha7.out.below hb3)
        have Ha8 := hide (Ha8.out.below hb3)
        have Hbw : Hid (Below w.heap.size w v3) := hide (Hbw.out.trans (hb3.mono Hbw.out.size))
        clear h3 hb3 h3'
        go_wp2_with fail
        with_reducible refine Hc2.out.mono ?_
        rintro e v4 ⟨A4, d4, rfl, h4, hb4⟩
        rw [rowTo_length] at h4 ⊢
        have Ha0 := hide (Ha0.out.below hb4)
        have Ha7 := hide (Ha7.out.below hb4)
        have Ha8 := hide (Ha8.out.below hb4)
        have Ha13 := hide h4.free
        have Hbw : Hid (Below w.heap.size w v4) := hide (Hbw.out.trans (hb4.mono Hbw.out.size))
        have Hc1 := hide (copied_own a0 n0 c0 b0 v4 no Ha0.out (by omega))
        clear hb4 h4
        go_wp2_with fail
        with_reducible refine Hc1.out.mono ?_
        rintro e v5 ⟨v, rfl, h5, hb5⟩
        obtain ⟨A5, d5, rfl, h5'⟩ := RB.of_own h5
        have Hc2 := hide (inARow_any A5 A8 n0 d5 ml.length d8 b0 m2 v5 no no h5' (Ha8.out.below hb5) Hn.out hmm2.out (by omega))
        have Ha0 := hide (Ha0.out.below hb5)
        have Ha7 := hide (Ha7.out.below hb5)
        have Ha13 := hide (Ha13.out.below hb5)
        have Hbw : Hid (Below w.heap.size w v5) := hide (Hbw.out.trans (hb5.mono Hbw.out.size))
        clear h5 hb5 h5'
        go_wp2_with fail
        with_reducible refine Hc2.out.mono ?_
        rintro e v6 ⟨A6, d6, rfl, h6, hb6⟩
        rw [rowTo_length] at h6 ⊢
        have Ha0 := hide (Ha0.out.below hb6)
        have Ha7 := hide (Ha7.out.below hb6)
        have Ha13 := hide (Ha13.out.below hb6)
        have Ha14 := hide h6.free
        have Hbw : Hid (Below w.heap.size w v6) := hide (Hbw.out.trans (hb6.mono Hbw.out.size))
        have Hc1 := hide (copied_own a0 n0 c0 b0 v6 no Ha0.out (by omega))
        clear hb6 h6
        go_wp2_with fail
        with_reducible refine Hc1.out.mono ?_
        rintro e vd ⟨v, rfl, h7, hb7⟩
        obtain ⟨g15, d15, rfl, hg15⟩ : ∃ g15 d15, v = .slice (some ⟨g15, 0, none⟩) n0 d15 ∧ v6.heap.size ≤ g15 := by
          rcases h7.2 with ⟨h', h''⟩ | ⟨g', cap', cur, h', h'', _⟩
          · exfalso; have := Hn.out; omega
          · exact ⟨g', cap', h', h''⟩
        have hcap15 : n0 ≤ d15 ∧ d15 ≤ maxLen := by
          obtain ⟨A, c, e, q1, q2, _⟩ := Rd.of_own h7
          injection e with _ _ e
          subst e
          exact ⟨q1, q2⟩
        have Hst : Hid (DueR v6 (leftTo b0 ml 0) [] n0 0 (.slice (some ⟨g15, 0, none⟩) n0 d15) vd) := hide ⟨by rw [joinTo_zero, leftTo_zero]; exact h7, hb7⟩
        clear h7 hb7
        go_wp2_with fail
        clear W1 W2 H1 Hb1 Hxs Hex Ho Hc1 Hc2
        go_loopw [16, 96] (fun s16 i wr => ∃ (k : Nat) (B : Option Addr) (f : Nat), k ≤ ml.length ∧ s16 = .slice B n0 f ∧ i = .int .i64 k ∧ RB v6 no B n0 f (leftTo b0 ml k) ∧ DueR v6 (leftTo b0 ml k) [] n0 0 (.slice (some ⟨g15, 0, none⟩) n0 d15) wr) (fun _ i _ => ml.length - (intOf i).toNat)
        case atStart => exact ⟨0, a0, c0, Nat.zero_le _, rfl, rfl, by rw [leftTo_zero]; exact Ha0.out, Hst.out⟩
        case round =>
          obtain ⟨k, B, f, hk, rfl, rfl, hB, hr⟩ := hrel
          have Hr := hide hr
          have HB := hide hB
          have Hl0 := hide (leftTo_length (x := b0) (ml := ml) W0.out.len Hml.out k)
          by_cases hlt : k < ml.length
          · obtain ⟨g1, o1, M, mb, q, m, rfl, hmk, hc1, hm⟩ := Ha7.out.at_ hlt
            obtain rfl : mb = n0 := by rw [← hm.len]; exact Hml.out m (List.mem_of_getElem? hmk)
            obtain ⟨g4, o4, D, dn, dc, b4, rfl, hb4, hc4, hD⟩ := Ha13.out.at_ hlt
            rw [rowTo_at hlt] at hb4
            injection hb4 with hb4
            subst hb4
            obtain rfl : dn = mb := by rw [← hD.len]; exact leftTo_length W0.out.len Hml.out (k + 1)
            obtain ⟨g6, o6, E, en, ec, b6, rfl, hb6, hc6, hE⟩ := Ha14.out.at_ hlt
            rw [rowTo_at hlt] at hb6
            injection hb6 with hb6
            subst hb6
            obtain rfl : en = dn := by rw [← hE.len]; exact leftTo_length W0.out.len hmm2.out (k + 1)
            have HM := hide hm
            have HD := hide hD
            have Hmk := hide hmk
            have Hc4 := hide hc4
            have Hmn := hide hm.len
            rw [leftTo_succ hmk] at HD
            replace hc1 := cell_below hr.2 hc1
            replace hc4 := cell_below hr.2 hc4
            replace hc6 := cell_below hr.2 hc6
            have i1 : (0 : Int) ≤ k := by omega
            have i2 : (k : Int) < ml.length := by omega
            clear hB hr hm hD hE hmk
            go_wp2_with fail
            clear hc1 hc4 hc6
            go_loopw [121] (fun i wr => ∃ p : Nat, p ≤ en ∧ i = .int .i64 p ∧ DueR v6 (leftTo b0 ml k) m en p (.slice (some ⟨g15, 0, none⟩) en d15) wr) (fun i _ => en - (intOf i).toNat)
            case atStart => exact ⟨0, Nat.zero_le _, rfl, Hr.out⟩
            case round =>
              obtain ⟨p, hp, rfl, hr⟩ := hrel
              have Hr2 := hide hr
              have hc4 := cell_below hr.2 Hc4.out
              by_cases hltp : p < en
              · obtain ⟨gb, ob, x, rfl, hx, hcb⟩ := HB.out.at_ hltp
                obtain ⟨gm, om, y, rfl, hy, hcm⟩ := HM.out.at_ hltp
                obtain ⟨gd, od, z, rfl, hz, hcd⟩ := HD.out.at_ hltp
                obtain rfl : z = x &&& y := by
                  unfold masked at hz
                  rw [List.getElem?_zipWith, hx, hy] at hz
                  injection hz with hz
                  exact hz.symm
                have hcx : wr.cell? ⟨g15, p, none⟩ = some (.int .u8 (x.toNat : Int)) := by
                  rw [hr.1.cellAt p (by omega), List.getElem?_map, joinTo_at (by rw [Hl0.out, Hmn.out]) (by rw [Hl0.out]; exact hltp), hx]
                  rfl
                have hfz : wr.frozen? ⟨g15, p, none⟩ = false := hr.1.frozenAt p
                have hcm' := cell_below hr.2 hcm
                have hand := u8_and_nat _ _ x.toNat_lt y.toNat_lt
                have i3 : (0 : Int) ≤ p := by omega
                have i4 : (p : Int) < en := by omega
                have Hs := hide (Hr2.out.step hg15 (by rw [Hl0.out, Hmn.out]) hx hy)
                have Hcb := hide hcb
                have Hcd := hide hcd
                have hla := lost_alone x y
                rw [UInt8.toNat_and] at hla
                clear hx hy hz hr hcm hcb hcd hc4
                go_wp2_with fail
                go_region
                generalize hww : (wr.setCell ⟨g15, p, none⟩ (.int .u8 ((x.toNat &&& y.toNat : Nat) : Int))).drew = ww at *
                have hs2 := Hs.out.2
                have hc4 := cell_below hs2 Hc4.out
                have hcb := cell_below hs2 Hcb.out
                have hcd := cell_below hs2 Hcd.out
                clear hs2 hww hcx hfz hcm'
                go_wp2_with fail
                go_quiet (fail)
                go_wp2_with fail
                go_roundw
                case rel => exact ⟨p + 1, by omega, by go_num, Hs.out.drewN _⟩
                case measure => simp [intOf]; omega
              · obtain rfl : p = en := by omega
                have Hs : Hid (DueR v6 (leftTo b0 ml (k + 1)) [] p 0 (.slice (some ⟨g15, 0, none⟩) p d15) wr) := hide ⟨by
                  have h := Hr2.out.1
                  rw [joinTo_zero, leftTo_succ Hmk.out]
                  unfold masked
                  rw [← joinTo_end (f := (· &&& ·)) (xs := leftTo b0 ml k) (ys := m) (by rw [Hl0.out, Hmn.out]), Hl0.out]
                  exact h, Hr2.out.2⟩
                rw [← leftTo_succ Hmk.out] at HD
                clear hr
                go_wp2_with fail
                go_roundw
                case rel => exact ⟨k + 1, D, dc, by omega, rfl, by go_num, HD.out, Hs.out⟩
                case measure => simp [intOf]; omega
          · obtain rfl : k = ml.length := by omega
            by_cases hz : ml.length = 0
            · have hzz : ((ml.length : Int) == 0) = true := by rw [hz]; rfl
              clear hr hB
              go_wp2_with fail
              go_ret
              exact ⟨rfl, Hbw.out.trans (Hr.out.2.mono Hbw.out.size)⟩
            · have hzz : ((ml.length : Int) == 0) = false := by rw [beq_eq_false_iff_ne]; omega
              obtain ⟨N1, hN1⟩ : ∃ N1 : Nat, (ml.length : Int) - 1 = (N1 : Int) := ⟨ml.length - 1, by omega⟩
              have hlt1 : N1 < ml.length := by omega
              have i1 : (0 : Int) ≤ N1 := by omega
              have i2 : (N1 : Int) < ml.length := by omega
              have e1 : N1 + 1 = ml.length := by omega
              obtain ⟨g4, o4, D, dn, dc, b4, rfl, hb4, hc4, hD⟩ := Ha13.out.at_ hlt1
              rw [rowTo_at hlt1, e1] at hb4
              injection hb4 with hb4
              subst hb4
              obtain ⟨g6, o6, E, en, ec, b6, rfl, hb6, hc6, hE⟩ := Ha14.out.at_ hlt1
              rw [rowTo_at hlt1, e1, ← Hlen.out, leftTo_perm Hperm.out] at hb6
              injection hb6 with hb6
              subst hb6
              have hdue : RB wr no (some ⟨g15, 0, none⟩) n0 d15 (leftTo b0 ml ml.length) := by
                have h := hr.1
                rw [joinTo_zero] at h
                obtain ⟨A, c, e, h'⟩ := RB.of_own h
                injection e with e _ e'
                subst e e'
                exact h'
              have Hs1 := hide (same_any D (some ⟨g15, 0, none⟩) dn dc n0 d15 _ _ wr no no (hD.below hr.2) hdue)
              have Hs2 := hide (fun q => same_any E (some ⟨g15, 0, none⟩) en ec n0 d15 _ _ (wr.drewN q) no no ((hE.below hr.2).drewN q) (hdue.drewN q))
              have Hc6 := hide (fun q => ((Kept.drewN no wr q)))
              replace hc4 := cell_below hr.2 hc4
              replace hc6 := cell_below hr.2 hc6
              have Hbw2 : Hid (Below w.heap.size w wr) := hide (Hbw.out.trans (hr.2.mono Hbw.out.size))
              have hee : eqL (leftTo b0 ml ml.length) (leftTo b0 ml ml.length) = true := eqL_iff.2 rfl
              clear hr hB hD hE hdue e1
              rw [hee] at Hs1 Hs2
              go_wp2_with fail
              with_reducible refine Hs1.out.mono ?_
              rintro e v7 ⟨rfl, q1, rfl⟩
              have hc6' : (wr.drewN q1).cell? ⟨g6, o6 + N1, none⟩ = some (.slice E en ec) := hc6
              go_wp2_with fail
              with_reducible refine (Hs2.out q1).mono ?_
              rintro e v8 ⟨rfl, q2, rfl⟩
              go_wp2_with fail
              go_ret
              exact ⟨rfl, below_drewN Hbw2.out (q1 + q2)⟩
end Go.Proofs.YtknajppjgdhbfaaDoor
