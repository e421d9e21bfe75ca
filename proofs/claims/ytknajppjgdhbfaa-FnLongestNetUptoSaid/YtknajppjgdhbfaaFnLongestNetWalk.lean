/-
  The walk of FnLongestNet.
-/
import Derived.Test.YtknajppjgdhbfaaHolding
import Derived.Test.YtknajppjgdhbfaaOnesIn
import Derived.Test.YtknajppjgdhbfaaAlike
import Derived.Test.YtknajppjgdhbfaaTwo
import Derived.Test.YtknajppjgdhbfaaUp
import Derived.Deep.CutRange
import Derived.Deep.DeepCutAuto
namespace Go.Proofs.Ytknajppjgdhbfaa
open Go.RowKit
set_option linter.unusedVariables false

/-- A network with more ones that shares an address lies in the one with fewer. -/
theorem inNet_inside {a b p r : List UInt8} {n x y : Nat} (ha : a.length = n) (hb : b.length = n) (hp : p.length = n) (hr : r.length = n) (hxy : x ≤ y) (h1 : inNet a (cidr n x) p = true) (h2 : inNet b (cidr n y) p = true) (h3 : inNet b (cidr n y) r = true) : inNet a (cidr n x) r = true := by
  rw [inNet_cidr _ ha hr]
  intro j hj hk
  rw [(inNet_cidr _ ha hp).1 h1 j hj hk, ← (inNet_cidr _ hb hp).1 h2 j hj (by omega)]
  exact (inNet_cidr _ hb hr).1 h3 j hj (by omega)

theorem mem_le_sum {b : List UInt8} : ∀ {l : List (List UInt8)}, b ∈ l → b.length ≤ (l.map List.length).sum
  | [], h => by simp at h
  | x :: l, h => by
    rcases List.mem_cons.1 h with h | h
    · subst h; simp
    · have := mem_le_sum h; simp; omega

set_option maxRecDepth 100000 in
set_option maxHeartbeats 6400000 in
theorem fnLongestNet_walk (w : World) (a0 : Option Addr) (n0 c0 : Nat) (b0 : List (List UInt8)) (w0 : RBB w no a0 n0 c0 b0) (r0 : c0 ≤ 1048576) (l0 : (b0.map List.length).sum ≤ 1048576)
    (a1 : Option Addr) (n1 c1 : Nat) (b1 : List UInt8) (w1 : RB w no a1 n1 c1 b1) (r1 : c1 ≤ 1048576)
    (a2 : Option Addr) (n2 c2 : Nat) (b2 : List UInt8) (w2 : RB w no a2 n2 c2 b2) (r2 : c2 ≤ 1048576)
    (a3 : Option Addr) (n3 c3 : Nat) (b3 : List (List UInt8)) (w3 : RBB w no a3 n3 c3 b3) (r3 : c3 ≤ 1048576) (l3 : (b3.map List.length).sum ≤ 1048576) :
    Calls Try.prog 9 #[.slice a0 n0 c0, .slice a1 n1 c1, .slice a2 n2 c2, .slice a3 n3 c3] w fun e w' => e = .returned (.bool true) ∧ Below w.heap.size w w' := by
  have W0 := hide w0
  have W1 := hide w1
  have W2 := hide w2
  have W3 := hide w3
  have k0 := w0.cap
  have k1 := w1.cap
  have k2 := w2.cap
  have k3 := w3.cap
  have L0 : Hid (∀ b ∈ b0, b.length ≤ 1048576) := hide (fun b hb => Nat.le_trans (mem_le_sum hb) l0)
  have L3 : Hid (∀ b ∈ b3, b.length ≤ 1048576) := hide (fun b hb => Nat.le_trans (mem_le_sum hb) l3)
  have Hcall := hide (alike_any _ 1 1 n2 [b2] _ (RBB.one 22 w2) (by omega) (by intro b hb; simp at hb; subst hb; rw [w2.len]; omega))
  clear w0 w1 w2 w3 l0 l3
  go_enter Try.func9, Try.ntmps9
  go_wp2_with fail
  with_reducible refine Hcall.out.mono ?_
  rintro e v1 ⟨A1, d1, rfl, h1, hb1⟩
  have hb1' : Below w.heap.size w v1 := ((Below.refl _ _).alloc (Nat.le_refl _) _).trans (hb1.mono (by simp))
  have Hb1 := hide hb1'
  clear hb1 Hcall h1 hb1'
  rw [alikeL_one]
  cases hg : goodA n2 b2 with
  | false =>
    clear hg
    rw [if_neg (by simp), List.length_nil]
    go_wp2_with fail
    go_ret
    exact ⟨rfl, Hb1.out⟩
  | true =>
    obtain ⟨_, hn, hm2⟩ := goodA_out hg
    have Hn := hide hn
    have hn16 : n2 ≤ 16 := by omega
    have Hm2 := hide hm2
    have Ha := hide (alike_any a0 n0 c0 n2 b0 v1 (W0.out.below Hb1.out) (by omega) (fun b hb => by have := L0.out b hb; omega))
    rw [if_pos rfl, show [b2].length = 1 from rfl]
    clear hg hn hm2
    go_wp2_with fail
    with_reducible refine Ha.out.mono ?_
    rintro e v2 ⟨AL, dL, rfl, hL, hb2⟩
    have hbw2 : Below w.heap.size w v2 := Hb1.out.trans (hb2.mono Hb1.out.size)
    have Hbw2 := hide hbw2
    have HL := hide hL
    have Hlm : Hid (∀ b ∈ alikeL b0 n2, b.length = n2 ∧ mapd b = false) := hide (fun b hb => ⟨(alikeL_mem hb).1, (alikeL_mem hb).2.2⟩)
    generalize alikeL b0 n2 = al at *
    generalize hal : al.length = nl at *
    have Ho := hide (onesIn_any a1 n1 c1 n2 b1 v2 no (W1.out.below hbw2) hn16 (by omega))
    clear hL hb2 hbw2 Ha hal
    go_wp2_with fail
    with_reducible refine Ho.out.mono ?_
    rintro e v3 ⟨vO, rfl, hO, hb3⟩
    rw [onesL_length, W1.out.len] at hO
    obtain ⟨AO, dO, rfl, hOr⟩ := RI.of_own hO
    have hbw3 : Below w.heap.size w v3 := Hbw2.out.trans (hb3.mono Hbw2.out.size)
    have Hbw3 := hide hbw3
    have HO := hide hOr
    have HL3 := hide (HL.out.below hb3)
    have Hzs : Hid (∀ z ∈ onesL b1 n2, 0 ≤ z ∧ z ≤ 8 * (n2 : Int)) := hide (fun z hz => onesL_mem hz)
    generalize onesL b1 n2 = zs at *
    have Ha := hide (alike_any a3 n3 c3 n2 b3 v3 (W3.out.below hbw3) (by omega) (fun b hb => by have := L3.out b hb; omega))
    clear hO hOr hb3 hbw3 Ho HL
    go_wp2_with fail
    with_reducible refine Ha.out.mono ?_
    rintro e v4 ⟨AR, dR, rfl, hR, hb4⟩
    have hbw4 : Below w.heap.size w v4 := Hbw3.out.trans (hb4.mono Hbw3.out.size)
    have Hbw4 := hide hbw4
    have HR := hide hR
    have HL4 := hide (HL3.out.below hb4)
    have HO4 := hide (HO.out.below hb4)
    have HP4 := hide (W2.out.below hbw4)
    have Hrm : Hid (∀ b ∈ alikeL b3 n2, b.length = n2 ∧ mapd b = false) := hide (fun b hb => ⟨(alikeL_mem hb).1, (alikeL_mem hb).2.2⟩)
    have hnr3 : (alikeL b3 n2).length ≤ 1048576 := by
      have := alikeL_le b3 n2 n3
      rw [List.take_of_length_le (by rw [W3.out.len]; omega)] at this
      omega
    generalize alikeL b3 n2 = rl at *
    generalize hrl : rl.length = nr at *
    have Hrl := hide hrl
    have Hmk := hide (maskOf_len (8 * (n2 : Int)) n2 v4 v4 Hn.out (by omega) (by omega) (Below.refl _ _))
    clear hR hb4 hbw4 Ha hrl HL3 HO
    go_wp2_with fail
    with_reducible refine Hmk.out.mono ?_
    rintro e v5 ⟨M5, d5, rfl, hM5, hb5⟩
    have Hco := hide (contains_len a2 M5 a2 n2 c2 d5 c2 b2 _ b2 v4 v5 HP4.out hM5 HP4.out Hn.out Hm2.out Hm2.out hb5)
    rw [inNet_refl] at Hco
    clear hM5 hb5 Hmk
    go_wp2_with fail
    with_reducible refine Hco.out.mono ?_
    rintro e v6 ⟨rfl, hb6⟩
    have Hb6 := hide hb6
    clear hb6 Hco
    go_upto_region 8 with (fail)
    go_cut [52, 53] (fun s52 s53 wx => ∃ t : Nat, s52 = .int .i64 t ∧ s53 = .int .i64 0 ∧ t ≤ nl ∧ t ≤ n1 ∧ wx = v6)
    case first =>
      by_cases hlt : n1 < nl
      · have t1 : (n1 : Int) < (nl : Int) := by omega
        go_wp2_with fail
        go_meet
        case rel => exact ⟨n1, rfl, rfl, by omega, Nat.le_refl _, rfl⟩
      · have t1 : ¬ ((n1 : Int) < (nl : Int)) := by omega
        go_wp2_with fail
        go_meet
        case rel => exact ⟨nl, rfl, rfl, Nat.le_refl _, by omega, rfl⟩
    case rest =>
      obtain ⟨t, rfl, rfl, ht1, ht2, rfl⟩ := hcut
      go_wp2_with fail
      go_loopw [53] (fun i wr => ∃ ii : Nat, ii ≤ t ∧ i = .int .i64 ii ∧ Below v4.heap.size v4 wr) (fun i _ => t - (intOf i).toNat)
      case atStart => exact ⟨0, Nat.zero_le _, rfl, Hb6.out⟩
      case round =>
        obtain ⟨ii, hii, rfl, hbr⟩ := hrel
        have Hbr := hide hbr
        by_cases hlt : ii < t
        · obtain ⟨wo, rfl⟩ : ∃ wo : World, wo = wr := ⟨_, rfl⟩
          clear hbr
          go_upto_region 11 with (fail)
          go_cut [60, 61] from 54 to 164 (fun s60 s61 wx => ∃ t : Nat, s60 = .int .i64 t ∧ s61 = .int .i64 0 ∧ t ≤ nl ∧ t ≤ n1 ∧ wx = wo)
          case first =>
            by_cases hlt : n1 < nl
            · have t1 : (n1 : Int) < (nl : Int) := by omega
              go_wp2_with fail
              go_meet
              case rel => exact ⟨n1, rfl, rfl, by omega, Nat.le_refl _, rfl⟩
            · have t1 : ¬ ((n1 : Int) < (nl : Int)) := by omega
              go_wp2_with fail
              go_meet
              case rel => exact ⟨nl, rfl, rfl, Nat.le_refl _, by omega, rfl⟩
          case rest =>
            obtain ⟨t2, rfl, rfl, ht3, ht4, rfl⟩ := hcut
            go_wp2_with fail
            go_loopw [61] (fun i wr => ∃ kk : Nat, kk ≤ t2 ∧ i = .int .i64 kk ∧ Below v4.heap.size v4 wr) (fun i _ => t2 - (intOf i).toNat)
            case atStart => exact ⟨0, Nat.zero_le _, rfl, Hbr.out⟩
            case round =>
              obtain ⟨kk, hkk, rfl, hbk⟩ := hrel
              have Hbk := hide hbk
              by_cases hltk : kk < t2
              · obtain ⟨wi, rfl⟩ : ∃ wi : World, wi = wr := ⟨_, rfl⟩
                obtain ⟨gl, ol, Bi, mi, di, ai, e1, hai, hci, hbi⟩ := (HL4.out.below hbk).at_ (k := ii) (by omega)
                obtain ⟨gl', ol', Bk, mk, dk, ak, e2, hak, hck, hbk'⟩ := (HL4.out.below hbk).at_ (k := kk) (by omega)
                subst e1
                injection e2 with e2; injection e2 with e21 e22; subst e21 e22
                obtain ⟨go, oo, zi, e1, hzi, hczi⟩ := (HO4.out.below hbk).at_ (k := ii) (by omega)
                obtain ⟨go', oo', zk, e2, hzk, hczk⟩ := (HO4.out.below hbk).at_ (k := kk) (by omega)
                subst e1
                injection e2 with e2; injection e2 with e21 e22; subst e21 e22
                obtain ⟨hli, hmi⟩ := Hlm.out ai (List.mem_of_getElem? hai)
                obtain ⟨hlk, hmk⟩ := Hlm.out ak (List.mem_of_getElem? hak)
                obtain rfl : mi = n2 := by rw [← hbi.len, hli]
                obtain rfl : mk = mi := by rw [← hbk'.len, hlk]
                have hzi2 := Hzs.out zi (List.mem_of_getElem? hzi)
                have hzk2 := Hzs.out zk (List.mem_of_getElem? hzk)
                have i1 : (0 : Int) ≤ ii := by omega
                have i2 : (ii : Int) < n1 := by omega
                have i3 : (ii : Int) < nl := by omega
                have i4 : (0 : Int) ≤ kk := by omega
                have i5 : (kk : Int) < n1 := by omega
                have i6 : (kk : Int) < nl := by omega
                have HBi := hide hbi
                have HBk := hide hbk'
                have Hmi := hide hmi
                have Hmk := hide hmk
                have Hli := hide hli
                have Hlk := hide hlk
                have HP := hide (HP4.out.below hbk)
                have HRi := hide (HR.out.below hbk)
                have Hx := hide (maskOf_len zi mk wi wi Hn.out hzi2.1 hzi2.2 (Below.refl _ _))
                have Hcells := hide (fun (W : World) (hW : Below wi.heap.size wi W) => show Below wi.heap.size wi W ∧ W.cell? ⟨gl, ol + ii, none⟩ = some (.slice Bi mk di) ∧ W.cell? ⟨gl, ol + kk, none⟩ = some (.slice Bk mk dk) ∧ W.cell? ⟨go, oo + ii, none⟩ = some (.int .i64 zi) ∧ W.cell? ⟨go, oo + kk, none⟩ = some (.int .i64 zk) from
                  ⟨hW, (World.cell?_of_block (hW.block gl (World.block_lt_of_cell? _ _ hci))).trans hci, (World.cell?_of_block (hW.block gl (World.block_lt_of_cell? _ _ hck))).trans hck, (World.cell?_of_block (hW.block go (World.block_lt_of_cell? _ _ hczi))).trans hczi, (World.cell?_of_block (hW.block go (World.block_lt_of_cell? _ _ hczk))).trans hczk⟩)
                have Hzik := hide (⟨hzi2.1, hzi2.2, hzk2.1, hzk2.2⟩ : 0 ≤ zi ∧ zi ≤ 8 * (mk : Int) ∧ 0 ≤ zk ∧ zk ≤ 8 * (mk : Int))
                clear hbk hai hak hci hck hbi hbk' hzi hzk hczk hli hmi hlk hmk hzi2 hzk2
                go_wp2_with fail
                -- x := maskOf(ones[i])
                with_reducible refine Hx.out.mono ?_
                rintro e u1 ⟨MX, dX, rfl, hX, hbX⟩
                have HX := hide hX
                have HbX := hide hbX
                have hczk1 := (Hcells.out u1 hbX).2.2.2.2
                have Hy := hide (maskOf_len zk mk wi u1 Hn.out Hzik.out.2.2.1 Hzik.out.2.2.2 hbX)
                have Hmaxy := hide (fun (W : World) (hW : Below u1.heap.size u1 W) => hX.below hW)
                have Hy' := hide (maskOf_len zk mk u1 u1 Hn.out Hzik.out.2.2.1 Hzik.out.2.2.2 (Below.refl _ _))
                clear hX hbX hczi Hx Hy
                go_wp2_with fail
                with_reducible refine Hy'.out.mono ?_
                rintro e u2 ⟨MY, dY, rfl, hY, hbY⟩
                have HX2 := hide (HX.out.below hbY)
                have HY2 := hide hY
                have hb2 : Below wi.heap.size wi u2 := HbX.out.trans (hbY.mono HbX.out.size)
                have Hb2 := hide hb2
                have hd0 : Below u2.heap.size u2 u2.drew := (Below.refl _ _).drew
                have Hc1 := hide (fun (W : World) (hW : Below u2.heap.size u2 W) => contains_len Bi MX a2 mk di dX c2 ai _ b2 u2 W (HBi.out.below hb2) (HX2.out.below hW) (HP.out.below hb2) Hn.out Hmi.out Hm2.out hW)
                have Hc2 := hide (fun (W : World) (hW : Below u2.heap.size u2 W) => contains_len Bk MY a2 mk dk dY c2 ak _ b2 u2 W (HBk.out.below hb2) (HY2.out.below hW) (HP.out.below hb2) Hn.out Hmk.out Hm2.out hW)
                have Hck := hide (fun (W : World) (hW : Below u2.heap.size u2 W) => show Below u2.heap.size u2 W ∧ W.cell? ⟨gl, ol + ii, none⟩ = some (.slice Bi mk di) ∧ W.cell? ⟨gl, ol + kk, none⟩ = some (.slice Bk mk dk) ∧ W.cell? ⟨go, oo + ii, none⟩ = some (.int .i64 zi) ∧ W.cell? ⟨go, oo + kk, none⟩ = some (.int .i64 zk) from
                  ⟨hW, (Hcells.out W (hb2.trans (hW.mono hb2.size))).2⟩)
                clear hY hbY hb2 Hy' hczk1 Hcells Hmaxy
                go_upto_region 16 with (fail)
                go_cut [106] from 62 to 163 (fun s106 wx => ∃ cb : Bool, s106 = .bool cb ∧ (cb = false → zi ≤ zk ∧ inNet ai (cidr mk zi.toNat) b2 = true ∧ inNet ak (cidr mk zk.toNat) b2 = true) ∧ Below u2.heap.size u2 wx)
                case first =>
                  obtain ⟨_, q1, q2, q3, q4⟩ := Hck.out u2 (Below.refl _ _)
                  have p1 := UpW.cell q1
                  have p2 := UpW.cell q2
                  have p3 := UpW.cell q3
                  have p4 := UpW.cell q4
                  clear q1 q2 q3 q4
                  by_cases hz : zk < zi
                  · have t1 : decide (zk < zi) = true := decide_eq_true hz
                    refine wp_region_up (u := u2) (by kernel_rfl) (by kernel_rfl) ?_
                    repeat (go_big_quiet_step ((first
                      | (go_at_call 19; with_reducible exact Calls.up (Hc1.out _ (UpW.h _)))
                      | (go_at_call 19; with_reducible exact Calls.up (Hc2.out _ (UpW.h _))))))
                    refine wpQuiet_nil ?_
                    rintro _ ⟨⟨wz, hbz⟩, rfl⟩
                    go_wp2_with fail
                    go_meet
                    case rel => exact ⟨true, rfl, (fun h => by cases h), hbz⟩
                  · have t1 : decide (zk < zi) = false := decide_eq_false hz
                    have Hz := hide hz
                    cases hin1 : inNet ai (cidr mk zi.toNat) b2 with
                    | false =>
                      rw [hin1] at Hc1
                      clear hin1
                      refine wp_region_up (u := u2) (by kernel_rfl) (by kernel_rfl) ?_
                      repeat (go_big_quiet_step ((first
                        | (go_at_call 19; with_reducible exact Calls.up (Hc1.out _ (UpW.h _)))
                        | (go_at_call 19; with_reducible exact Calls.up (Hc2.out _ (UpW.h _))))))
                      refine wpQuiet_nil ?_
                      rintro _ ⟨⟨wz, hbz⟩, rfl⟩
                      go_wp2_with fail
                      go_meet
                      case rel => exact ⟨true, rfl, (fun h => by cases h), hbz⟩
                    | true =>
                      rw [hin1] at Hc1
                      have Hin1 := hide hin1
                      clear hin1
                      cases hin2 : inNet ak (cidr mk zk.toNat) b2 with
                      | false =>
                        rw [hin2] at Hc2
                        clear hin2
                        refine wp_region_up (u := u2) (by kernel_rfl) (by kernel_rfl) ?_
                        repeat (go_big_quiet_step ((first
                          | (go_at_call 19; with_reducible exact Calls.up (Hc1.out _ (UpW.h _)))
                          | (go_at_call 19; with_reducible exact Calls.up (Hc2.out _ (UpW.h _))))))
                        refine wpQuiet_nil ?_
                        rintro _ ⟨⟨wz, hbz⟩, rfl⟩
                        go_wp2_with fail
                        go_meet
                        case rel => exact ⟨true, rfl, (fun h => by cases h), hbz⟩
                      | true =>
                        rw [hin2] at Hc2
                        have Hin2 := hide hin2
                        clear hin2
                        refine wp_region_up (u := u2) (by kernel_rfl) (by kernel_rfl) ?_
                        repeat (go_big_quiet_step ((first
                          | (go_at_call 19; with_reducible exact Calls.up (Hc1.out _ (UpW.h _)))
                          | (go_at_call 19; with_reducible exact Calls.up (Hc2.out _ (UpW.h _))))))
                        refine wpQuiet_nil ?_
                        rintro _ ⟨⟨wz, hbz⟩, rfl⟩
                        go_wp2_with fail
                        go_meet
                        case rel => exact ⟨false, rfl, fun _ => ⟨by have := Hz.out; omega, Hin1.out, Hin2.out⟩, hbz⟩
                case rest =>
                  obtain ⟨cb, rfl, hcb, hbc⟩ := hcut
                  have Hcb := hide hcb
                  have Hbc := hide hbc
                  have Hbc4 : Hid (Below v4.heap.size v4 wc) := hide ((Hbk.out.trans (Hb2.out.mono Hbk.out.size)).trans (hbc.mono (Nat.le_trans Hbk.out.size Hb2.out.size)))
                  clear hcb Hc1 Hc2
                  cases cb with
                  | true =>
                    clear hbc
                    go_wp2_with fail
                    go_roundw
                    case rel => exact ⟨kk + 1, by omega, by go_num, Hbc4.out⟩
                    case measure => simp [intOf]; omega
                  | false =>
                    obtain ⟨hzz, hin1, hin2⟩ := Hcb.out rfl
                    have Hinside : Hid (∀ r ∈ rl, inNet ak (cidr mk zk.toNat) r = true → inNet ai (cidr mk zi.toNat) r = true) := hide (fun r hr h =>
                      inNet_inside Hli.out Hlk.out W2.out.len (Hrm.out r hr).1 (by have := Hzik.out; omega) hin1 hin2 h)
                    have Hik : Hid (inNet ai (cidr mk zi.toNat) ak = true) := hide (inNet_inside Hli.out Hlk.out W2.out.len Hlk.out (by have := Hzik.out; omega) hin1 hin2 (inNet_refl _ _))
                    obtain ⟨_, q1, q2, q3, q4⟩ := Hck.out wc hbc
                    have hbi := (HBi.out.below Hb2.out).below hbc
                    have hbk := (HBk.out.below Hb2.out).below hbc
                    have hRc := (HRi.out.below Hb2.out).below hbc
                    have Hce1 := hide (containsEach_any Bi MX AR mk di dX nr dR ai _ rl wc hbi (HX2.out.below hbc) hRc Hn.out Hmi.out Hrm.out (by omega))
                    have Hbi := hide hbi
                    have Hbk2 := hide hbk
                    have HRc := hide hRc
                    have HYc := hide (HY2.out.below hbc)
                    have HXc := hide (HX2.out.below hbc)
                    clear hzz hin1 hin2 hbc hbi hbk hRc
                    go_wp2_with fail
                    with_reducible refine Hce1.out.mono ?_
                    rintro e u5 ⟨AA, dA, rfl, hA5, hb5⟩
                    rw [List.length_map, Hrl.out] at hA5 ⊢
                    have HA5 := hide hA5
                    have Hb5 := hide hb5
                    have Hce2 := hide (containsEach_any Bk MY AR mk dk dY nr dR ak _ rl u5 (Hbk2.out.below hb5) (HYc.out.below hb5) (HRc.out.below hb5) Hn.out Hmk.out Hrm.out (by omega))
                    have q2' := (World.cell?_of_block (hb5.block gl (World.block_lt_of_cell? _ _ q2))).trans q2
                    have q1' := (World.cell?_of_block (hb5.block gl (World.block_lt_of_cell? _ _ q1))).trans q1
                    clear hA5 hb5 Hce1 q3 q4 q1 q2
                    go_wp2_with fail
                    with_reducible refine Hce2.out.mono ?_
                    rintro e u6 ⟨BB, dB, rfl, hB6, hb6⟩
                    rw [List.length_map, Hrl.out] at hB6 ⊢
                    have HB6 := hide hB6
                    have HA6 := hide (HA5.out.below hb6)
                    have hb56 : Below wc.heap.size wc u6 := Hb5.out.trans (hb6.mono Hb5.out.size)
                    have hb46 : Below v4.heap.size v4 u6 := Hbc4.out.trans (hb56.mono Hbc4.out.size)
                    have Hb46 := hide hb46
                    have p2 := (World.cell?_of_block (hb6.block gl (World.block_lt_of_cell? _ _ q2'))).trans q2'
                    have p1 := (World.cell?_of_block (hb6.block gl (World.block_lt_of_cell? _ _ q1'))).trans q1'
                    have Hc3 := hide (fun (W : World) (hW : Below u6.heap.size u6 W) => contains_len Bi MX Bk mk di dX dk ai _ ak u6 W (Hbi.out.below hb56) ((HXc.out.below hb56).below hW) (Hbk2.out.below hb56) Hn.out Hmi.out Hmk.out hW)
                    rw [Hik.out] at Hc3
                    have p1' := UpW.cell p1
                    have p2' := UpW.cell p2
                    have t1 : ((nr : Int) != (nr : Int)) = false := by simp
                    clear hB6 hb6 hb56 hb46 Hce2 q1' q2' p1 p2
                    go_wp2_with fail
                    refine wp_region_up (u := u6) (by kernel_rfl) (by kernel_rfl) ?_
                    repeat (go_big_quiet_step ((go_at_call 19; with_reducible exact Calls.up (Hc3.out _ (UpW.h _)))))
                    refine wpQuiet_nil ?_
                    rintro _ ⟨⟨u7, hb7⟩, rfl⟩
                    clear p1' p2'
                    have Hb47 := hide (Hb46.out.trans (hb7.mono Hb46.out.size))
                    have HA7 := hide (HA6.out.below hb7)
                    have HB7 := hide (HB6.out.below hb7)
                    clear hb7
                    go_wp2_with fail
                    go_loop [148] (fun i => ∃ j : Nat, j ≤ nr ∧ i = .int .i64 j) (fun i => nr - (intOf i).toNat)
                    case atStart => exact ⟨0, Nat.zero_le _, rfl⟩
                    case round =>
                      obtain ⟨j, hj, rfl⟩ := hrel
                      by_cases hltj : j < nr
                      · obtain ⟨ga, oa, xa, rfl, hxa, hca⟩ := HA7.out.at_ hltj
                        obtain ⟨gb, ob, xb, rfl, hxb, hcb⟩ := HB7.out.at_ hltj
                        have hab : xb = true → xa = true := by
                          obtain ⟨r, hr⟩ : ∃ r, rl[j]? = some r := ⟨_, List.getElem?_eq_getElem (by rw [Hrl.out]; exact hltj)⟩
                          rw [List.getElem?_map, hr] at hxa hxb
                          simp at hxa hxb
                          subst hxa hxb
                          exact Hinside.out r (List.mem_of_getElem? hr)
                        have j1 : (0 : Int) ≤ j := by omega
                        have j2 : (j : Int) < nr := by omega
                        clear hxa hxb
                        cases xb with
                        | false =>
                          clear hab
                          go_wp2_with fail
                          go_round
                          case rel => exact ⟨j + 1, by omega, by go_num⟩
                          case measure => simp [intOf]; omega
                        | true =>
                          obtain rfl := hab rfl
                          clear hab
                          go_wp2_with fail
                          go_round
                          case rel => exact ⟨j + 1, by omega, by go_num⟩
                          case measure => simp [intOf]; omega
                      · go_wp2_with fail
                        go_roundw
                        case rel => exact ⟨kk + 1, by omega, by go_num, Hb47.out⟩
                        case measure => simp [intOf]; omega
              · clear hbk
                go_wp2_with fail
                go_roundw
                case rel => exact ⟨ii + 1, by omega, by go_num, Hbk.out⟩
                case measure => simp [intOf]; omega
        · clear hbr
          go_wp2_with fail
          go_ret
          exact ⟨rfl, Hbw4.out.trans (Hbr.out.mono Hbw4.out.size)⟩
end Go.Proofs.Ytknajppjgdhbfaa
