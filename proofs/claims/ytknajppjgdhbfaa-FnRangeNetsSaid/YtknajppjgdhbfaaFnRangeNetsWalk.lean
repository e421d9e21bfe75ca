/-
  The walk of FnRangeNets.
-/
import Derived.Test.YtknajppjgdhbfaaHolding
import Derived.Test.YtknajppjgdhbfaaNums
import Derived.Test.YtknajppjgdhbfaaSame
import Derived.Test.YtknajppjgdhbfaaTwo
import Derived.Deep.CutRange
import Derived.Deep.DeepCutAuto
namespace Go.Proofs.Ytknajppjgdhbfaa
open Go.RowKit
set_option linter.unusedVariables false

def vlen : Value → Nat
  | .slice _ n _ => n
  | _ => 0
theorem own_base {w : World} {b b' : Nat} {e : TypeId} {v : Value} {n : Nat} {xs : List Value} (h : w.ownsRow b e 1 v n xs) (hb : b' ≤ b) : w.ownsRow b' e 1 v n xs := by
  obtain ⟨h1, h2⟩ := h
  refine ⟨h1, ?_⟩
  rcases h2 with h2 | ⟨g, cap, cur, hv, hg, r⟩
  · exact Or.inl h2
  · exact Or.inr ⟨g, cap, cur, hv, by omega, r⟩

/-- What stands ahead of each round. -/
def RgR (w : World) (F T : Nat) (vN vO vA : Value) (wr : World) : Prop :=
  ∃ (al : List (List UInt8)) (os : List Int) (ab : List UInt8), Nums w al os vN vO (rowOf vA) wr ∧ wr.ownsRow w.heap.size 5 1 vA 4 (byL ab) ∧ ab.length = 4 ∧ F ≤ valOf ab ∧ valOf ab ≤ T ∧ Cover al os F (valOf ab) ∧ Ph (valOf ab) T al.length

theorem own_rb {wr : World} {b : Nat} {A : Option Addr} {n c : Nat} {bs : List UInt8} (h : wr.ownsRow b 5 1 (.slice A n c) n (byL bs)) : RB wr no A n c bs := by
  obtain ⟨A', c', e, hr⟩ := RB.of_own h
  injection e with e1 _ e3
  subst e1 e3
  exact hr
theorem own_rowN {wr w' : World} {b : Nat} {u v : Value} {n m : Nat} {bs : List UInt8} {xs : List Value} {o : Obj} {e : TypeId} (h : wr.ownsRow b 5 1 u n (byL bs)) (h1 : wr.ownsRow b e 1 v m xs) (hg : (wr.alloc o).grownBy w' v.ownBlock) (he : (5 : TypeId) ≠ e) : w'.ownsRow b 5 1 u n (byL bs) :=
  (h.alloc o).kept hg (own_apart (h.alloc o) (h1.alloc o) he)

theorem same_len (A B : Option Addr) (n c m d : Nat) (xs ys : List UInt8) (w W : World) (ha : RB w no A n c xs) (hb : RB w no B m d ys) (hW : Below w.heap.size w W) :
    Calls Try.prog 24 #[.slice A n c, .slice B m d] W fun e w' => e = .returned (.bool (eqL xs ys)) ∧ Below w.heap.size w w' :=
  (same_any A B n c m d xs ys W no no (ha.below hW) (hb.below hW)).mono fun e w' ⟨h, q, hq⟩ => ⟨h, hq ▸ below_drewN hW q⟩
theorem holding_len (L J B : Option Addr) (N e f n c : Nat) (al : List (List UInt8)) (os : List Int) (b : List UInt8) (w W : World) (hL : RBB w no L N e al) (hJ : RI w no J N f os) (hB : RB w no B n c b)
    (hn : n = 4 ∨ n = 16) (hal : ∀ a ∈ al, a.length = n ∧ mapd a = false) (hos : ∀ z ∈ os, 0 ≤ z ∧ z ≤ 8 * (n : Int)) (hmb : mapd b = false) (hW : Below w.heap.size w W) :
    Calls Try.prog 22 #[.slice L N e, .slice J N f, .slice B n c] W fun e w' => e = .returned (.int .i64 (holdL al os b : Int)) ∧ Below w.heap.size w w' :=
  (holding_any L J B N e f n c al os b W (hL.below hW) (hJ.below hW) (hB.below hW) hn hal hos hmb).mono fun e w' h => ⟨h.1, hW.trans (h.2.mono hW.size)⟩

set_option maxRecDepth 100000 in
set_option maxHeartbeats 6400000 in
theorem fnRangeNets_walk (w : World) (a0 : Option Addr) (n0 c0 : Nat) (b0 : List UInt8) (w0 : RB w no a0 n0 c0 b0) (r0 : c0 ≤ 140737488351232)
    (a1 : Option Addr) (n1 c1 : Nat) (b1 : List UInt8) (w1 : RB w no a1 n1 c1 b1) (r1 : c1 ≤ 140737488351232)
    (a2 : Option Addr) (n2 c2 : Nat) (b2 : List UInt8) (w2 : RB w no a2 n2 c2 b2) (r2 : c2 ≤ 140737488351232) :
    Calls Try.prog 10 #[.slice a0 n0 c0, .slice a1 n1 c1, .slice a2 n2 c2] w fun e w' => e = .returned (.bool true) ∧ Below w.heap.size w w' := by
  obtain ⟨i0, hi, hz0, hz1, hz2⟩ := info_parts bytes_info
  obtain ⟨j0, hj, hy0, hy1, hy2⟩ := info_parts int_info
  have nets : ∀ n : Nat, n ≠ 4 → ((n : Int) != 4) = true := fun n h => by simp; omega
  by_cases h0 : n0 = 4
  case neg =>
    have t0 := nets n0 h0
    clear nets w0 w1 w2
    go_enter Try.func10, Try.ntmps10
    go_wp2_with fail
    go_ret
    exact ⟨rfl, Below.refl _ _⟩
  by_cases h1 : n1 = 4
  case neg =>
    subst h0
    have t0 := nets n1 h1
    clear nets w0 w1 w2
    go_enter Try.func10, Try.ntmps10
    go_wp2_with fail
    go_ret
    exact ⟨rfl, Below.refl _ _⟩
  by_cases h2 : n2 = 4
  case neg =>
    subst h0 h1
    have t0 := nets n2 h2
    clear nets w0 w1 w2
    go_enter Try.func10, Try.ntmps10
    go_wp2_with fail
    go_ret
    exact ⟨rfl, Below.refl _ _⟩
  subst h0 h1 h2
  have W0 := hide w0
  have W1 := hide w1
  have W2 := hide w2
  have He := hide (earlier_any a1 a0 4 c1 c0 b1 b0 w no no w1 w0)
  have Hev := hide (earlier_val w1.len w0.len)
  clear w0 w1 w2 nets
  go_enter Try.func10, Try.ntmps10
  go_wp2_with fail
  with_reducible refine He.out.mono ?_
  rintro e wq ⟨rfl, q, rfl⟩
  clear He
  go_upto_if 31 with (fail)
  go_cut [0, 1, 7] (fun s0 s1 s7 wx => ∃ (FA TA : Option Addr) (fc tc : Nat) (fb tb : List UInt8), s0 = .slice FA 4 fc ∧ s1 = .slice TA 4 tc ∧ RB w no FA 4 fc fb ∧ RB w no TA 4 tc tb ∧ valOf fb ≤ valOf tb ∧ wx = w.drewN q)
  case first =>
    by_cases hlt : valOf b1 < valOf b0
    · rw [Hev.out, decide_eq_true hlt]
      go_wp2_with fail
      go_meet
      case rel => exact ⟨a1, a0, c1, c0, b1, b0, rfl, rfl, W1.out, W0.out, by omega, rfl⟩
    · rw [Hev.out, decide_eq_false hlt]
      go_wp2_with fail
      go_meet
      case rel => exact ⟨a0, a1, c0, c1, b0, b1, rfl, rfl, W0.out, W1.out, by omega, rfl⟩
  case rest =>
    obtain ⟨FA, TA, fc, tc, fb, tb, rfl, rfl, hF, hT, hle, rfl⟩ := hcut
    have HF := hide hF
    have HT := hide hT
    have hbw : Below w.heap.size w (w.drewN q) := below_drewN (Below.refl _ _) q
    have Hbw := hide hbw
    have Hc := hide (copied_own FA 4 fc fb (w.drewN q) no (hF.drewN q) (by omega))
    have HTlt := hide (valOf_lt hT.len)
    have Hle := hide hle
    generalize w.drewN q = wa at *
    clear hF hT hle hbw W0 W1 Hev
    go_wp2_with fail
    with_reducible refine Hc.out.mono ?_
    rintro e wb ⟨vA, rfl, hA, hbb⟩
    have Hst : Hid (RgR w (valOf fb) (valOf tb) (.slice none 0 0) (.slice none 0 0) vA wb) := hide
      ⟨[], [], fb, Nums.start w wb (Hbw.out.trans (hbb.mono Hbw.out.size)) _, own_base hA Hbw.out.size, HF.out.len, Nat.le_refl _, Hle.out, Cover.start _, Ph.start _ _⟩
    clear hA hbb Hc
    go_wp2_with fail
    go_loopw [8, 9, 10] (fun vN vO vA wr => RgR w (valOf fb) (valOf tb) vN vO vA wr) (fun vN _ _ _ => 65 - vlen vN)
    case atStart => exact Hst.out
    case round =>
      obtain ⟨al, os, ab, hN, hA, hab, hFx, hxT, hcov, hph⟩ := hrel
      obtain ⟨wo, rfl⟩ : ∃ wo : World, wo = wr := ⟨_, rfl⟩
      have HN := hide hN
      have Hab := hide hab
      have HFx := hide hFx
      have HxT := hide hxT
      have Hcov := hide hcov
      have Hph := hide hph
      have Hvl : Hid (vlen u8 = al.length) := hide (by obtain ⟨ys, hy, _⟩ := hN.row; obtain ⟨A, c, e, _⟩ := Rd.of_own hy; rw [e]; rfl)
      obtain ⟨AA, ca, rfl, hca1, hca2⟩ : ∃ A c, u10 = .slice A 4 c ∧ 4 ≤ c ∧ c ≤ maxLen := by
        obtain ⟨A, c, e, hr⟩ := RB.of_own hA
        exact ⟨A, c, e, hr.cap, hr.max⟩
      have HA := hide hA
      have hrb : RB wo no AA 4 ca ab := by
        obtain ⟨A', c', e, hr⟩ := RB.of_own hA
        injection e with e1 _ e3
        subst e1 e3
        exact hr
      have Hrb := hide hrb
      have Hl0 : Hid (okB (valOf ab) (valOf tb) (32 - 32)) := hide (okB_zero hxT)
      have Hf := hide (fun (W : World) (n : Nat) (on : Bool) (hW : Below wo.heap.size wo W) (hn : n ≤ 128) => filled_own AA 4 ca n on ab W (hrb.below hW) (by omega) hn)
      clear hN hA hab hFx hxT hcov hph hrb hca1 hca2
      go_wp2_with fail
      go_loopw [11] (fun i wx => ∃ n : Nat, n ≤ 32 ∧ i = .int .i64 n ∧ okB (valOf ab) (valOf tb) (32 - n) ∧ Below wo.heap.size wo wx) (fun i _ => (intOf i).toNat)
      case atStart => exact ⟨32, Nat.le_refl _, rfl, Hl0.out, Below.refl _ _⟩
      case round =>
        obtain ⟨n, hn, rfl, hok, hbx⟩ := hrel
        have Hok := hide hok
        have Hbx := hide hbx
        clear hok hbx
        go_upto_region 11 with (fail)
        go_cut [55] from 37 to 57 (fun s55 wx => ∃ cb : Bool, s55 = .bool cb ∧ (cb = true ↔ 0 < n ∧ okB (valOf ab) (valOf tb) (32 - (n - 1))) ∧ Below wo.heap.size wo wx)
        case first =>
          by_cases hn0 : n = 0
          · subst hn0
            go_wp2_with fail
            go_meet
            case rel => exact ⟨false, rfl, by simp, Hbx.out⟩
          · obtain ⟨m, rfl⟩ : ∃ m, n = m + 1 := ⟨n - 1, by omega⟩
            have Hf1 := hide (Hf.out wr m false Hbx.out (by omega))
            have Hiff := hide (okB_iff (n := m) (by omega) Hab.out HT.out.len)
            have hm0 : (0 : Int) < (m : Int) + 1 := by omega
            clear hn0
            go_wp2_with fail
            with_reducible refine Hf1.out.mono ?_
            rintro e w1 ⟨v1, rfl, h1⟩
            obtain ⟨A1, d1, rfl, _, _⟩ := h1.form
            have Hb1 := hide (Hbx.out.trans (h1.2.mono Hbx.out.size))
            have Hs1 := hide (same_any A1 AA 4 d1 4 ca _ ab w1 no no h1.rb (Hrb.out.below Hb1.out))
            clear h1 Hf1
            cases hq1 : eqL (filledL ab m false) ab with
            | false =>
              rw [hq1] at Hs1
              have Hq1 := hide hq1
              clear hq1
              go_wp2_with fail
              with_reducible refine Hs1.out.mono ?_
              rintro e w2 ⟨rfl, q2, hq2⟩
              have Hb2 : Hid (Below wo.heap.size wo w2) := hide (hq2 ▸ below_drewN Hb1.out q2)
              clear hq2
              go_wp2_with fail
              go_meet
              case rel =>
                refine ⟨false, rfl, ?_, Hb2.out⟩
                have h := Hiff.out
                rw [Hq1.out] at h
                simp at h
                simp [h]
            | true =>
              rw [hq1] at Hs1
              have Hq1 := hide hq1
              clear hq1
              go_wp2_with fail
              with_reducible refine Hs1.out.mono ?_
              rintro e w2 ⟨rfl, q2, hq2⟩
              have Hb2 : Hid (Below wo.heap.size wo w2) := hide (hq2 ▸ below_drewN Hb1.out q2)
              have Hf2 := hide (Hf.out w2 m true Hb2.out (by omega))
              clear hq2
              go_wp2_with fail
              with_reducible refine Hf2.out.mono ?_
              rintro e w3 ⟨v3, rfl, h3⟩
              obtain ⟨A3, d3, rfl, _, _⟩ := h3.form
              have Hb3 := hide (Hb2.out.trans (h3.2.mono Hb2.out.size))
              have hbw3 : Below w.heap.size w w3 := HN.out.bel.trans (Hb3.out.mono HN.out.bel.size)
              have He3 := hide (earlier_any TA A3 4 tc d3 tb _ w3 no no (HT.out.below hbw3) h3.rb)
              have Hiff2 : Hid ((!earlierL tb (filledL ab m true)) = true ↔ okB (valOf ab) (valOf tb) (32 - m)) := hide (by
                have h := Hiff.out
                rw [Hq1.out, Bool.true_and] at h
                exact h)
              generalize earlierL tb (filledL ab m true) = eb at *
              clear h3 Hf2 hbw3
              go_wp2_with fail
              with_reducible refine He3.out.mono ?_
              rintro e w4 ⟨rfl, q4, hq4⟩
              have Hb4 : Hid (Below wo.heap.size wo w4) := hide (hq4 ▸ below_drewN Hb3.out q4)
              clear hq4
              go_wp2_with fail
              go_meet
              case rel => exact ⟨!eb, rfl, by rw [Hiff2.out]; simp, Hb4.out⟩
        case rest =>
          obtain ⟨cb, rfl, hcb, hbc⟩ := hcut
          have Hcb := hide hcb
          have Hbc := hide hbc
          clear hcb hbc Hbx
          cases cb with
          | true =>
            have hcb := Hcb.out.1 rfl
            have hn0 := hcb.1
            have Hok2 := hide hcb.2
            clear hcb
            go_wp2_with fail
            go_roundw
            case rel => exact ⟨n - 1, by omega, by rw [show ((n - 1 : Nat) : Int) = (n : Int) - 1 by omega], Hok2.out, Hbc.out⟩
            case measure => simp [intOf]; omega
          | false =>
            have Hno : Hid (32 - n = 32 ∨ ¬ okB (valOf ab) (valOf tb) (32 - n + 1)) := hide (by
              by_cases hn0 : n = 0
              · left; omega
              · right
                intro h
                have := Hcb.out.2 ⟨by omega, by rw [show 32 - (n - 1) = 32 - n + 1 by omega]; exact h⟩
                cases this)
            obtain ⟨hlen, hph'⟩ := Hph.out.step (by omega) HTlt.out Hok.out Hno.out
            have Hph' := hide hph'
            have Hcov' := hide (Cover.step hn Hcov.out Hab.out HFx.out Hok.out.1)
            have Hlast := hide (val_last hn Hab.out Hok.out)
            have Hos : Hid (os.length = al.length) := hide Hcov.out.1.symm
            have Hcp := hide (copied_own AA 4 ca ab wc no (Hrb.out.below Hbc.out) (by omega))
            clear Hcb Hno hph' Hf
            go_wp2_with fail
            -- numbers = append(numbers, copied(at))
            with_reducible refine Hcp.out.mono ?_
            rintro e w1 ⟨vC, rfl, hC, hbC⟩
            have hb1 : Below wo.heap.size wo w1 := Hbc.out.trans (hbC.mono Hbc.out.size)
            have hN1 := HN.out.below hb1
            have hA1 := own_below HA.out hb1
            obtain ⟨⟨xs, hx1, hx2⟩, hx3, hx4⟩ := hN1
            obtain ⟨AC, cc, rfl, hrC⟩ := RB.of_own_av (av := fun g => rowOf (.slice AA 4 ca) g ∨ rowOf u8 g ∨ rowOf u9 g) hC (by
              intro g hg
              have hsz := Hbc.out.size
              rcases hg with hg | hg | hg
              · have := (HA.out.lt g hg).2; omega
              · obtain ⟨ys, hy, _⟩ := HN.out.row
                have := (hy.lt g hg).2; omega
              · have := (HN.out.ones.lt g hg).2; omega)
            have Hx1 := hide hx1
            have Hx2 := hide hx2
            have Hx3 := hide hx3
            have Hx4 := hide hx4
            have HrC := hide hrC
            have HA1 := hide hA1
            have hsz := hx4.size
            have Hx1a := hide (hx1.alloc (.cells #[.slice AC 4 cc] 22))
            generalize hkn : al.length = kn at *
            have Hkn := hide hkn
            clear hC hbC hb1 hA1 hx1 hx2 hx3 hx4 hrC Hcp hkn HN
            go_wp2_with (at_builtin; refine wpList_append_rd _ rfl (.tmp 58) (.tmp 61) _ rfl w.heap.size 22 i0 _ 24 Try.underlying23 hi hz0 hz1 hz2 rfl _ kn _ rfl Hx1a.out no (some ⟨w1.heap.size, 0, none⟩) 1 1 [.slice AC 4 cc] rfl ?_ ?_ ?_ ?_ ?_ ?_)
            · exact Rd.one w1 _ _ no (fun h => h)
            · intro u hu; simp at hu; subst hu; rfl
            · unfold maxLen; omega
            · omega
            · simp; omega
            intro vN' w2 g1 g2 g3
            have hN2 := Nums.addN (by rw [Hkn.out]; exact Hx1.out) Hx2.out Hx3.out Hx4.out HrC.out (by rw [Hkn.out]; exact g1) g2 g3
            have HN2 := hide hN2
            have HA2 := hide (own_rowN HA1.out Hx1.out g2 (by decide))
            have hones := hN2.ones
            rw [Hos.out] at hones
            have Hones := hide hones
            have Honesa := hide (hones.alloc (.cells #[.int .i64 (n : Int)] 3))
            have hsz2 := hN2.bel.size
            generalize hom : os.map (Value.int .i64) = om at *
            have Hom := hide hom
            clear g1 g2 g3 hN2 hones Hx1 Hx2 Hx3 Hx4 Hx1a HrC HA1 hom
            go_wp2_with (at_builtin; refine wpList_append_rd _ rfl (.tmp 63) (.tmp 65) _ rfl w.heap.size 3 j0 _ 8 Try.underlying34 hj hy0 hy1 hy2 rfl _ kn _ rfl Honesa.out no (some ⟨w2.heap.size, 0, none⟩) 1 1 [.int .i64 (n : Int)] rfl ?_ ?_ ?_ ?_ ?_ ?_)
            · exact Rd.one w2 _ _ no (fun h => h)
            · intro u hu; simp at hu; subst hu; rfl
            · unfold maxLen; omega
            · omega
            · simp; omega
            intro vO' w3 g1 g2 g3
            have hN3 := HN2.out.addO (by rw [Hos.out, Hom.out]; exact g1) g2 g3
            have HN3 := hide hN3
            have hA3 := own_rowN HA2.out Hones.out g2 (by decide)
            have Hf3 := hide (filled_own AA 4 ca n true ab w3 (own_rb hA3) (by omega) (by omega))
            clear g1 g2 g3 hN3 hA3 HN2 HA2 Hones Honesa
            go_wp2_with fail
            -- last := filled(at, n, true)
            with_reducible refine Hf3.out.mono ?_
            rintro e w4 ⟨vL, rfl, h4⟩
            obtain ⟨AL, cl, rfl, _, _⟩ := h4.form
            have hN4 : Nums w (al ++ [ab]) (os ++ [(n : Int)]) vN' vO' (rowOf (.slice AL 4 cl)) w4 := (HN3.out.turn _ (fun g hg => (h4.1.lt g hg).1)).below h4.2
            have HN4 := hide hN4
            have HL4 := hide (own_base h4.1 HN3.out.bel.size)
            have Hs4 := hide (same_any AL TA 4 cl 4 tc _ tb w4 no no h4.rb (HT.out.below hN4.bel))
            have Hsv := hide (same_val (by rw [filledL_length]; exact Hab.out) HT.out.len (a := filledL ab n true))
            have Hfl : Hid ((filledL ab n true).length = 4) := hide (by rw [filledL_length]; exact Hab.out)
            generalize filledL ab n true = lb at *
            clear h4 hN4 Hf3 HN3
            rw [Hsv.out] at Hs4
            by_cases hend : valOf lb = valOf tb
            · rw [decide_eq_true hend] at Hs4
              have Hend := hide hend
              clear hend
              go_wp2_with fail
              with_reducible refine Hs4.out.mono ?_
              rintro e w5 ⟨rfl, q5, hq5⟩
              have HN5 : Hid (Nums w (al ++ [ab]) (os ++ [(n : Int)]) vN' vO' (rowOf (.slice AL 4 cl)) w5) := hide (hq5 ▸ HN4.out.drewN q5)
              obtain ⟨AN, dN, BO, dO, rfl, rfl⟩ := HN5.out.form (n := kn + 1) (by rw [List.length_append, Hkn.out]; rfl) (by rw [List.length_append, Hos.out]; rfl)
              have Hhold : Hid (holdL (al ++ [ab]) (os ++ [(n : Int)]) b2 = (decide (valOf fb ≤ valOf b2 ∧ valOf b2 ≤ valOf tb)).toNat) := hide (by
                rw [Hcov'.out.2.2.2 b2 W2.out.len]
                have h1 := Hlast.out
                have h2 := Hend.out
                have e : decide (valOf fb ≤ valOf b2 ∧ valOf b2 < valOf ab + 2 ^ (32 - n)) = decide (valOf fb ≤ valOf b2 ∧ valOf b2 ≤ valOf tb) := decide_eq_decide.2 (by omega)
                rw [e])
              have Hall : Hid (∀ a ∈ al ++ [ab], a.length = 4 ∧ mapd a = false) := hide (fun a ha => ⟨Hcov'.out.2.1 a ha, mapd_len (by rw [Hcov'.out.2.1 a ha]; omega)⟩)
              have Hosl : Hid (∀ z ∈ os ++ [(n : Int)], 0 ≤ z ∧ z ≤ 8 * ((4 : Nat) : Int)) := hide (fun z hz => Hcov'.out.2.2.1 z hz)
              have Hln : Hid ((al ++ [ab]).length = kn + 1) := hide (by rw [List.length_append, Hkn.out]; rfl)
              have Hlo : Hid ((os ++ [(n : Int)]).length = kn + 1) := hide (by rw [List.length_append, Hos.out]; rfl)
              have Hv1 := hide (earlier_val W2.out.len HF.out.len)
              have Hv2 := hide (earlier_val HT.out.len W2.out.len)
              clear hq5 HN4 HL4 Hs4 Hcov Hcov' Hph Hph' Hvl Hlast Hend Hok HFx HxT
              generalize al ++ [ab] = al2 at *
              generalize os ++ [(n : Int)] = os2 at *
              go_upto_region 24 with (fail)
              go_cut [98] (fun s98 wx => ∃ db : Bool, s98 = .bool db ∧ db = decide (valOf fb ≤ valOf b2 ∧ valOf b2 ≤ valOf tb) ∧ Below w5.heap.size w5 wx)
              case first =>
                have He1 := hide (earlier_any a2 FA 4 c2 fc b2 fb w5 no no (W2.out.below HN5.out.bel) (HF.out.below HN5.out.bel))
                rw [Hv1.out] at He1
                by_cases c1 : valOf b2 < valOf fb
                · rw [decide_eq_true c1] at He1
                  have Hc1 := hide c1
                  clear c1
                  go_wp2_with fail
                  with_reducible refine He1.out.mono ?_
                  rintro e w6 ⟨rfl, q6, hq6⟩
                  have Hb6 : Hid (Below w5.heap.size w5 w6) := hide (hq6 ▸ below_drewN (Below.refl _ _) q6)
                  clear hq6
                  go_wp2_with fail
                  go_meet
                  case rel => exact ⟨false, rfl, (decide_eq_false (by have := Hc1.out; omega)).symm, Hb6.out⟩
                · rw [decide_eq_false c1] at He1
                  have Hc1 := hide c1
                  clear c1
                  go_wp2_with fail
                  with_reducible refine He1.out.mono ?_
                  rintro e w6 ⟨rfl, q6, hq6⟩
                  have Hb6 : Hid (Below w5.heap.size w5 w6) := hide (hq6 ▸ below_drewN (Below.refl _ _) q6)
                  have hb6 : Below w.heap.size w w6 := HN5.out.bel.trans (Hb6.out.mono HN5.out.bel.size)
                  have He2 := hide (earlier_any TA a2 4 tc c2 tb b2 w6 no no (HT.out.below hb6) (W2.out.below hb6))
                  rw [Hv2.out] at He2
                  have Heb : Hid ((!decide (valOf tb < valOf b2)) = decide (valOf fb ≤ valOf b2 ∧ valOf b2 ≤ valOf tb)) := hide (by
                    have := Hc1.out
                    by_cases c2 : valOf tb < valOf b2
                    · rw [decide_eq_true c2, decide_eq_false (by omega)]; rfl
                    · rw [decide_eq_false c2, decide_eq_true (by omega)]; rfl)
                  generalize decide (valOf tb < valOf b2) = eb at *
                  clear hq6 hb6 He1
                  go_wp2_with fail
                  with_reducible refine He2.out.mono ?_
                  rintro e w7 ⟨rfl, q7, hq7⟩
                  have Hb7 : Hid (Below w5.heap.size w5 w7) := hide (hq7 ▸ below_drewN Hb6.out q7)
                  clear hq7
                  go_wp2_with fail
                  go_meet
                  case rel => exact ⟨!eb, rfl, Heb.out, Hb7.out⟩
              case rest =>
                obtain ⟨db, rfl, hdb, hb6⟩ := hcut
                have Hdb := hide hdb
                have HN6 := hide (HN5.out.below hb6)
                clear hdb hb6 HN5
                obtain ⟨w6, rfl⟩ : ∃ w6 : World, w6 = wc := ⟨_, rfl⟩
                go_upto_if 98 with (fail)
                go_cut [14] (fun s14 wx => s14 = .int .i64 (db.toNat : Int) ∧ wx = w6)
                case first =>
                  cases db
                  · go_wp2_with fail
                    go_meet
                    case rel => exact ⟨rfl, rfl⟩
                  · go_wp2_with fail
                    go_meet
                    case rel => exact ⟨rfl, rfl⟩
                case rest =>
                  obtain ⟨rfl, rfl⟩ := hcut
                  rw [← Hdb.out] at Hhold
                  clear Hdb
                  generalize hdn : db.toNat = dn at *
                  have hbw6 := HN6.out.bel
                  have Hbw6 := hide hbw6
                  have Hm6 := hide (maskOf_len 32 4 wc wc (Or.inl rfl) (by omega) (by omega) (Below.refl _ _))
                  rw [show ((4 : Nat) : Int) = (4 : Int) from rfl] at Hm6
                  have Hsm : Hid (inNet fb (cidr 4 32) tb = eqL fb tb) := hide (by
                    rw [inNet_val (by omega) HF.out.len HT.out.len, same_val HF.out.len HT.out.len]; simp)
                  clear hdn hbw6
                  go_wp2_with fail
                  with_reducible refine Hm6.out.mono ?_
                  rintro e w8 ⟨M, dm, rfl, hM, hb8⟩
                  have hbw8 : Below w.heap.size w w8 := Hbw6.out.trans (hb8.mono Hbw6.out.size)
                  have Hce := hide (containsEach_any FA M _ 4 fc dm 2 2 fb (cidr 4 32) [fb, tb] _ ((HF.out.below hbw8).alloc _) (hM.alloc _) (RBB.two 22 (HF.out.below hbw8) (HT.out.below hbw8)) (Or.inl rfl) (mapd_len (by rw [HF.out.len]; omega))
                    (by intro b hb; simp at hb; rcases hb with rfl | rfl
                        · exact ⟨HF.out.len, mapd_len (by rw [HF.out.len]; omega)⟩
                        · exact ⟨HT.out.len, mapd_len (by rw [HT.out.len]; omega)⟩) (by omega))
                  have Hb8 := hide hb8
                  clear hM hb8 hbw8 Hm6
                  go_wp2_with fail
                  with_reducible refine Hce.out.mono ?_
                  rintro e w9 ⟨AR, dr, rfl, hR, hb9⟩
                  rw [show (List.map (inNet fb (cidr 4 32)) [fb, tb]).length = 2 from rfl] at hR ⊢
                  have hb69 : Below wc.heap.size wc w9 := Hb8.out.trans ((((Below.refl _ _).alloc (Nat.le_refl _) _).trans (hb9.mono (by simp))).mono Hb8.out.size)
                  obtain ⟨gr, og, x0, rfl, hx0, hc0⟩ := hR.at_ (k := 0) (by omega)
                  obtain ⟨gr', og', x1, e1, hx1, hc1⟩ := hR.at_ (k := 1) (by omega)
                  injection e1 with e1; injection e1 with e1 e2; subst e1 e2
                  simp at hx0 hx1
                  rw [inNet_refl] at hx0
                  subst hx0
                  rw [Hsm.out] at hx1
                  subst hx1
                  have hN9 := HN6.out.below hb69
                  have hbw9 := hN9.bel
                  have Hbw9 := hide hbw9
                  have Hh := hide (fun (W : World) (hW : Below w9.heap.size w9 W) => holding_len AN BO a2 (kn + 1) dN dO 4 c2 al2 os2 b2 w9 W (hN9.rbb Hln.out) (hN9.ri Hlo.out) (W2.out.below hbw9) (Or.inl rfl) Hall.out Hosl.out (mapd_len (by rw [W2.out.len]; omega)) hW)
                  rw [Hhold.out] at Hh
                  have Hs9 := hide (fun (W : World) (hW : Below w9.heap.size w9 W) => same_len FA TA 4 fc 4 tc fb tb w9 W (HF.out.below hbw9) (HT.out.below hbw9) hW)
                  have Hk := hide (fun (W : World) (hW : Below w9.heap.size w9 W) => show Below w9.heap.size w9 W ∧ W.cell? ⟨gr, og, none⟩ = some (.bool true) ∧ W.cell? ⟨gr, og + 1, none⟩ = some (.bool (eqL fb tb)) from
                    ⟨hW, (World.cell?_of_block (hW.block gr (World.block_lt_of_cell? _ _ hc0))).trans hc0, (World.cell?_of_block (hW.block gr (World.block_lt_of_cell? _ _ hc1))).trans hc1⟩)
                  have hd0 : Below w9.heap.size w9 w9.drew := (Below.refl _ _).drew
                  have k1 : ((kn : Int) + 1 ≤ 64) := by omega
                  have k2 : ((dn : Int) == (dn : Int)) = true := by simp
                  generalize eqL fb tb = eqb at *
                  have k3 : (eqb == eqb) = true := by simp
                  clear hR hb9 hb69 hN9 hbw9 hc0 hc1 Hce
                  go_wp2_with fail
                  go_region_held3 (fun W => Below w9.heap.size w9 W ∧ W.cell? ⟨gr, og, none⟩ = some (.bool true) ∧ W.cell? ⟨gr, og + 1, none⟩ = some (.bool eqb)) (exact Hk.out _ (by assumption))
                    (first
                      | (go_at_call 24; refine (Hs9.out _ ?_).mono ?_; (assumption); rintro e w10 ⟨rfl, hb10⟩)
                      | (go_at_call 22; refine (Hh.out _ ?_).mono ?_; (assumption); rintro e w11 ⟨rfl, hb11⟩))
                  go_wp2_with fail
                  go_ret
                  exact ⟨rfl, Hbw9.out.trans (hb11.mono Hbw9.out.size)⟩
            · rw [decide_eq_false hend] at Hs4
              have hV : valOf ab + 2 ^ (32 - n) ≤ valOf tb := by
                have h1 := Hlast.out
                have h2 := Hok.out.2
                omega
              have HV := hide hV
              have Hcov2 := hide Hcov'.out
              have Hph2 := hide (Hph'.out hV)
              rw [← Hlast.out] at HV Hcov2 Hph2
              clear hend hV
              go_wp2_with fail
              with_reducible refine Hs4.out.mono ?_
              rintro e w5 ⟨rfl, q5, hq5⟩
              have HN5 : Hid (Nums w (al ++ [ab]) (os ++ [(n : Int)]) vN' vO' (rowOf (.slice AL 4 cl)) w5) := hide (hq5 ▸ HN4.out.drewN q5)
              have HL5 : Hid (w5.ownsRow w.heap.size 5 1 (.slice AL 4 cl) 4 (byL lb)) := hide (hq5 ▸ own_drewN HL4.out q5)
              clear hq5 HN4 HL4 Hs4
              go_wp2_with fail
              go_loopw [13] (fun i wx => ∃ (p : Nat) (cur : List UInt8), p ≤ 3 ∧ i = .int .i64 p ∧ Nums w (al ++ [ab]) (os ++ [(n : Int)]) vN' vO' (rowOf (.slice AL 4 cl)) wx ∧ wx.ownsRow w.heap.size 5 1 (.slice AL 4 cl) 4 (byL cur) ∧ Inc (valOf lb) cur (3 - p)) (fun i _ => (intOf i).toNat)
              case atStart => exact ⟨3, lb, Nat.le_refl _, rfl, HN5.out, HL5.out, Hfl.out, rfl⟩
              case round =>
                obtain ⟨p, cur, hp, rfl, hNp, hLp, hinc⟩ := hrel
                obtain ⟨g, o, x, rfl, hx, hcx⟩ := (own_rb hLp).at_ (k := p) (by omega)
                obtain ⟨hg1, hg2⟩ := hLp.lt g rfl
                obtain rfl : o = 0 := by
                  rcases hLp.2 with ⟨h, _⟩ | ⟨g', cap', cur', h, _⟩
                  · cases h
                  · injection h with h _ _; injection h with h; injection h
                rw [Nat.zero_add] at hcx
                have hfz := hLp.frozenAt p
                have Hup := hide (byte_up x)
                have Hst3 := hide (hLp.stored p (.int .u8 ((x + 1).toNat : Int)))
                rw [byL_set] at Hst3
                have HNp2 := hide (hNp.store hLp rfl hg1 p (.int .u8 ((x + 1).toNat : Int)))
                have Hb0 := hide (byte_up0 x)
                have i1 : (0 : Int) ≤ p := by omega
                have i2 : (p : Int) < 4 := by omega
                have i3 : (p : Int) ≥ 0 := by omega
                have hx255 := lt_256 x
                have hpe : 3 - (3 - p) = p := by omega
                by_cases hf : x = 255
                · have hi2 := hinc.full (by omega) (x := x) (by rw [hpe]; exact hx) hf
                  rw [hpe] at hi2
                  have hp0 : p ≠ 0 := by
                    intro h0
                    subst h0
                    have h1 := hi2.2
                    have h2 := HV.out
                    have h3 := HTlt.out
                    simp at h1
                    omega
                  have Hi2 := hide hi2
                  have hb1 : (((x.toNat : Int) + 1) % 256 != 0) = false := by rw [Hup.out, Hb0.out]; exact decide_eq_false (fun h => h hf)
                  clear hi2 hf hinc hx hNp hLp
                  generalize x + 1 = y at *
                  go_wp2_with fail
                  rw [Hup.out]
                  go_roundw
                  case rel => exact ⟨p - 1, _, by omega, by rw [show ((p - 1 : Nat) : Int) = (p : Int) - 1 by omega], HNp2.out, Hst3.out.1, by rw [show 3 - (p - 1) = 3 - p + 1 by omega]; exact Hi2.out⟩
                  case measure => simp [intOf]; omega
                · obtain ⟨hi2, hi3⟩ := hinc.stop (by omega) (x := x) (by rw [hpe]; exact hx) hf
                  rw [hpe] at hi2 hi3
                  have Hi2 := hide hi2
                  have Hi3 := hide hi3
                  have hb1 : (((x.toNat : Int) + 1) % 256 != 0) = true := by rw [Hup.out, Hb0.out]; exact decide_eq_true hf
                  clear hi2 hi3 hf hinc hx hNp hLp
                  generalize x + 1 = y at *
                  go_wp2_with fail
                  rw [Hup.out]
                  go_roundw
                  case rel =>
                    refine ⟨_, _, _, HNp2.out, Hst3.out.1, Hi2.out, ?_, ?_, ?_, ?_⟩
                    · rw [Hi3.out, Hlast.out]; have := HFx.out; have : 0 < 2 ^ (32 - n) := Nat.pow_pos (by omega); omega
                    · rw [Hi3.out]; exact HV.out
                    · rw [Hi3.out]; exact Hcov2.out
                    · rw [Hi3.out, List.length_append, Hkn.out]; exact Hph2.out
                  case measure =>
                    obtain ⟨A9, d9, B9, e9, h91, h92⟩ := HN5.out.form (n := kn + 1) (by rw [List.length_append, Hkn.out]; rfl) (by rw [List.length_append, Hos.out]; rfl)
                    rw [h91]
                    show 65 - (kn + 1) < 65 - vlen u8
                    have := Hvl.out
                    omega
end Go.Proofs.Ytknajppjgdhbfaa
