/-
  The contract of netip.appendHex. (Written by wip/appd.py.)
-/
import Derived.Test.YtmfcgglgolajnaaDoorOwn
import Derived.Test.YtmfcgglgolajnaaDoorHexL
import Derived.Test.YtmfcgglgolajnaaDoorZX
namespace Go.Proofs.YtmfcgglgolajnaaDoor
open Go.RowKit
set_option linter.unusedVariables false

theorem and15 (m : Nat) (hm : m < 65536) : bits .and .u16 (m : Int) 15 = ((m % 16 : Nat) : Int) := by
  have h1 : (BitVec.ofInt 16 (m : Int)).toNat = m := by
    rw [BitVec.toNat_ofInt]
    have : ((m : Int) % ((2 ^ 16 : Nat) : Int)) = m := Int.emod_eq_of_lt (by omega) (by omega)
    rw [this]; rfl
  have h2 : (BitVec.ofInt 16 15).toNat = 15 := by decide
  show IntKind.wrap .u16 (((BitVec.ofInt 16 (m : Int) &&& BitVec.ofInt 16 15).toNat : Nat) : Int) = _
  rw [BitVec.toNat_and, h1, h2, Nat.and_two_pow_sub_one_eq_mod m 4, IntKind.wrap_u16]
  omega

set_option maxRecDepth 100000 in
set_option maxHeartbeats 1600000 in
theorem appHex_any (base : Nat) (x : Nat) (hx : x < 65536) (L0 : List UInt8) (v : Value) (w : World) (ho : Own base L0 v w) (hb : base ≤ w.heap.size) (hl0 : L0.length ≤ 1000) :
    Calls Tryd.prog 82 #[v, .int .u16 (x : Int)] w (AppR base v w (L0 ++ hexL x)) := by
  obtain ⟨i0, hi, hz0, hz1, hz2⟩ := info_parts byte_info
  have Ho0 := hide ho
  have Gr0 := hide (Grew.refl v w)
  have Mo0 := hide (Moved.refl v w)
  have Hb0 := hide hb
  have Hq : Hid (∃ q1 q2 q3 q4 : Nat, q1 < 16 ∧ q2 < 16 ∧ q3 < 16 ∧ q4 < 16 ∧ (x : Int) / 4096 = (q1 : Int) ∧ bits .and .u16 ((x : Int) / 256) 15 = (q2 : Int) ∧ bits .and .u16 ((x : Int) / 16) 15 = (q3 : Int) ∧ bits .and .u16 (x : Int) 15 = (q4 : Int) ∧ ((x < 16 → hexL x = [hdig q4]) ∧ (¬ x < 16 → x < 256 → hexL x = [hdig q3, hdig q4]) ∧ (¬ x < 256 → x < 4096 → hexL x = [hdig q2, hdig q3, hdig q4]) ∧ (¬ x < 4096 → hexL x = [hdig q1, hdig q2, hdig q3, hdig q4]))) := hide
    ⟨x / 4096, x / 256 % 16, x / 16 % 16, x % 16, by omega, by omega, by omega, by omega, by omega, and15 (x / 256) (by omega), and15 (x / 16) (by omega), and15 x hx, fun h => by rw [hexL_small h, Nat.mod_eq_of_lt h], fun h1 h2 => by rw [hexL_2 h1 h2, Nat.mod_eq_of_lt (show x / 16 < 16 by omega)], fun h1 h2 => by rw [hexL_3 h1 h2, Nat.mod_eq_of_lt (show x / 256 < 16 by omega)], fun h1 => by rw [hexL_4 h1 hx]⟩
  obtain ⟨q1, q2, q3, q4, b1, b2, b3, b4, f1, f2, f3, f4, hd⟩ := Hq.out
  have Hd := hide hd
  have g1 := hex_at b1
  have g2 := hex_at b2
  have g3 := hex_at b3
  have g4 := hex_at b4
  have j1 : (q1 : Int) < 16 := by omega
  have j2 : (q2 : Int) < 16 := by omega
  have j3 : (q3 : Int) < 16 := by omega
  have j4 : (q4 : Int) < 16 := by omega
  clear hd
  generalize hdig q1 = d1 at *
  generalize hdig q2 = d2 at *
  generalize hdig q3 = d3 at *
  generalize hdig q4 = d4 at *
  clear ho Hq
  go_enter Tryd.func82, Tryd.ntmps82
  by_cases h4096 : x < 4096
  · have k4096 : ¬ ((4096 : Int) ≤ (x : Int)) := by omega
    by_cases h256 : x < 256
    · have k256 : ¬ ((256 : Int) ≤ (x : Int)) := by omega
      by_cases h16 : x < 16
      · have k16 : ¬ ((16 : Int) ≤ (x : Int)) := by omega
        have Hfin := hide (Hd.out.1 h16)
        clear h4096 h256 h16
        have Ha0 := hide (Ho0.out.alloc (.cells #[.int .u8 (d4.toNat : Int)] 5))
        have hw0 : base ≤ w.heap.size := Hb0.out
        go_wp2_with (at_builtin; refine wpList_append_rd _ rfl (.tmp 31) (.tmp 35) _ rfl base 5 i0 _ 1 Tryd.underlying22 hi hz0 hz1 hz2 rfl _ L0.length _ rfl Ha0.out no (some ⟨w.heap.size, 0, none⟩) 1 1 [.int .u8 (d4.toNat : Int)] rfl ?p1 ?p2 ?p3 ?p4 ?p5 ?_)
        case p1 => exact Rd.one w _ _ no (fun h => h)
        case p2 => first | rfl | (intro u hu; simp at hu; subst hu; rfl)
        case p3 => unfold maxLen; omega
        case p4 => omega
        case p5 => first | omega | (simp; omega)
        intro v1 w1 y1 y2 y3
        obtain ⟨z1, z2, z3⟩ := push_step y1 y2 y3
        obtain ⟨L1, hL1⟩ : ∃ L, L = L0 ++ [d4] := ⟨_, rfl⟩
        have hl1 : L1.length ≤ 1001 := by rw [hL1, List.length_append]; simp; omega
        rw [← hL1] at z1
        have HL1 := hide hL1
        have Ho1 := hide z1
        have Gr1 := hide (Gr0.out.trans Mo0.out z2)
        have Mo1 := hide (Mo0.out.trans z3 Gr0.out.kept.1)
        have Hb1 : Hid (base ≤ w1.heap.size) := hide (Nat.le_trans Hb0.out z2.kept.1)
        clear y1 y2 y3 z1 z2 z3 Ha0 hw0 hL1 hl0
        go_wp2_with fail
        go_ret
        exact ⟨v1, rfl, by rw [Hfin.out, ← HL1.out]; exact Ho1.out, Gr1.out, Mo1.out⟩
      · have k16 : (16 : Int) ≤ (x : Int) := by omega
        have Hfin := hide (Hd.out.2.1 h16 h256)
        clear h4096 h256 h16
        have Ha0 := hide (Ho0.out.alloc (.cells #[.int .u8 (d3.toNat : Int)] 5))
        have hw0 : base ≤ w.heap.size := Hb0.out
        go_wp2_with (at_builtin; refine wpList_append_rd _ rfl (.tmp 24) (.tmp 29) _ rfl base 5 i0 _ 1 Tryd.underlying22 hi hz0 hz1 hz2 rfl _ L0.length _ rfl Ha0.out no (some ⟨w.heap.size, 0, none⟩) 1 1 [.int .u8 (d3.toNat : Int)] rfl ?p1 ?p2 ?p3 ?p4 ?p5 ?_)
        case p1 => exact Rd.one w _ _ no (fun h => h)
        case p2 => first | rfl | (intro u hu; simp at hu; subst hu; rfl)
        case p3 => unfold maxLen; omega
        case p4 => omega
        case p5 => first | omega | (simp; omega)
        intro v1 w1 y1 y2 y3
        obtain ⟨z1, z2, z3⟩ := push_step y1 y2 y3
        obtain ⟨L1, hL1⟩ : ∃ L, L = L0 ++ [d3] := ⟨_, rfl⟩
        have hl1 : L1.length ≤ 1001 := by rw [hL1, List.length_append]; simp; omega
        rw [← hL1] at z1
        have HL1 := hide hL1
        have Ho1 := hide z1
        have Gr1 := hide (Gr0.out.trans Mo0.out z2)
        have Mo1 := hide (Mo0.out.trans z3 Gr0.out.kept.1)
        have Hb1 : Hid (base ≤ w1.heap.size) := hide (Nat.le_trans Hb0.out z2.kept.1)
        clear y1 y2 y3 z1 z2 z3 Ha0 hw0 hL1 hl0
        have Ha1 := hide (Ho1.out.alloc (.cells #[.int .u8 (d4.toNat : Int)] 5))
        have hw1 : base ≤ w1.heap.size := Hb1.out
        go_wp2_with (at_builtin; refine wpList_append_rd _ rfl (.tmp 31) (.tmp 35) _ rfl base 5 i0 _ 1 Tryd.underlying22 hi hz0 hz1 hz2 rfl _ L1.length _ rfl Ha1.out no (some ⟨w1.heap.size, 0, none⟩) 1 1 [.int .u8 (d4.toNat : Int)] rfl ?p1 ?p2 ?p3 ?p4 ?p5 ?_)
        case p1 => exact Rd.one w1 _ _ no (fun h => h)
        case p2 => first | rfl | (intro u hu; simp at hu; subst hu; rfl)
        case p3 => unfold maxLen; omega
        case p4 => omega
        case p5 => first | omega | (simp; omega)
        intro v2 w2 y1 y2 y3
        obtain ⟨z1, z2, z3⟩ := push_step y1 y2 y3
        obtain ⟨L2, hL2⟩ : ∃ L, L = L1 ++ [d4] := ⟨_, rfl⟩
        have hl2 : L2.length ≤ 1002 := by rw [hL2, List.length_append]; simp; omega
        rw [← hL2] at z1
        have HL2 := hide hL2
        have Ho2 := hide z1
        have Gr2 := hide (Gr1.out.trans Mo1.out z2)
        have Mo2 := hide (Mo1.out.trans z3 Gr1.out.kept.1)
        have Hb2 : Hid (base ≤ w2.heap.size) := hide (Nat.le_trans Hb1.out z2.kept.1)
        clear y1 y2 y3 z1 z2 z3 Ha1 hw1 hL2 hl1
        go_wp2_with fail
        go_ret
        exact ⟨v2, rfl, by rw [Hfin.out, show [d3, d4] = [d3] ++ [d4] from rfl, ← List.append_assoc, ← HL1.out, ← HL2.out]; exact Ho2.out, Gr2.out, Mo2.out⟩
    · have k256 : (256 : Int) ≤ (x : Int) := by omega
      have k16 : (16 : Int) ≤ (x : Int) := by omega
      have Hfin := hide (Hd.out.2.2.1 h256 h4096)
      clear h4096 h256
      have Ha0 := hide (Ho0.out.alloc (.cells #[.int .u8 (d2.toNat : Int)] 5))
      have hw0 : base ≤ w.heap.size := Hb0.out
      go_wp2_with (at_builtin; refine wpList_append_rd _ rfl (.tmp 15) (.tmp 20) _ rfl base 5 i0 _ 1 Tryd.underlying22 hi hz0 hz1 hz2 rfl _ L0.length _ rfl Ha0.out no (some ⟨w.heap.size, 0, none⟩) 1 1 [.int .u8 (d2.toNat : Int)] rfl ?p1 ?p2 ?p3 ?p4 ?p5 ?_)
      case p1 => exact Rd.one w _ _ no (fun h => h)
      case p2 => first | rfl | (intro u hu; simp at hu; subst hu; rfl)
      case p3 => unfold maxLen; omega
      case p4 => omega
      case p5 => first | omega | (simp; omega)
      intro v1 w1 y1 y2 y3
      obtain ⟨z1, z2, z3⟩ := push_step y1 y2 y3
      obtain ⟨L1, hL1⟩ : ∃ L, L = L0 ++ [d2] := ⟨_, rfl⟩
      have hl1 : L1.length ≤ 1001 := by rw [hL1, List.length_append]; simp; omega
      rw [← hL1] at z1
      have HL1 := hide hL1
      have Ho1 := hide z1
      have Gr1 := hide (Gr0.out.trans Mo0.out z2)
      have Mo1 := hide (Mo0.out.trans z3 Gr0.out.kept.1)
      have Hb1 : Hid (base ≤ w1.heap.size) := hide (Nat.le_trans Hb0.out z2.kept.1)
      clear y1 y2 y3 z1 z2 z3 Ha0 hw0 hL1 hl0
      have Ha1 := hide (Ho1.out.alloc (.cells #[.int .u8 (d3.toNat : Int)] 5))
      have hw1 : base ≤ w1.heap.size := Hb1.out
      go_wp2_with (at_builtin; refine wpList_append_rd _ rfl (.tmp 24) (.tmp 29) _ rfl base 5 i0 _ 1 Tryd.underlying22 hi hz0 hz1 hz2 rfl _ L1.length _ rfl Ha1.out no (some ⟨w1.heap.size, 0, none⟩) 1 1 [.int .u8 (d3.toNat : Int)] rfl ?p1 ?p2 ?p3 ?p4 ?p5 ?_)
      case p1 => exact Rd.one w1 _ _ no (fun h => h)
      case p2 => first | rfl | (intro u hu; simp at hu; subst hu; rfl)
      case p3 => unfold maxLen; omega
      case p4 => omega
      case p5 => first | omega | (simp; omega)
      intro v2 w2 y1 y2 y3
      obtain ⟨z1, z2, z3⟩ := push_step y1 y2 y3
      obtain ⟨L2, hL2⟩ : ∃ L, L = L1 ++ [d3] := ⟨_, rfl⟩
      have hl2 : L2.length ≤ 1002 := by rw [hL2, List.length_append]; simp; omega
      rw [← hL2] at z1
      have HL2 := hide hL2
      have Ho2 := hide z1
      have Gr2 := hide (Gr1.out.trans Mo1.out z2)
      have Mo2 := hide (Mo1.out.trans z3 Gr1.out.kept.1)
      have Hb2 : Hid (base ≤ w2.heap.size) := hide (Nat.le_trans Hb1.out z2.kept.1)
      clear y1 y2 y3 z1 z2 z3 Ha1 hw1 hL2 hl1
      have Ha2 := hide (Ho2.out.alloc (.cells #[.int .u8 (d4.toNat : Int)] 5))
      have hw2 : base ≤ w2.heap.size := Hb2.out
      go_wp2_with (at_builtin; refine wpList_append_rd _ rfl (.tmp 31) (.tmp 35) _ rfl base 5 i0 _ 1 Tryd.underlying22 hi hz0 hz1 hz2 rfl _ L2.length _ rfl Ha2.out no (some ⟨w2.heap.size, 0, none⟩) 1 1 [.int .u8 (d4.toNat : Int)] rfl ?p1 ?p2 ?p3 ?p4 ?p5 ?_)
      case p1 => exact Rd.one w2 _ _ no (fun h => h)
      case p2 => first | rfl | (intro u hu; simp at hu; subst hu; rfl)
      case p3 => unfold maxLen; omega
      case p4 => omega
      case p5 => first | omega | (simp; omega)
      intro v3 w3 y1 y2 y3
      obtain ⟨z1, z2, z3⟩ := push_step y1 y2 y3
      obtain ⟨L3, hL3⟩ : ∃ L, L = L2 ++ [d4] := ⟨_, rfl⟩
      have hl3 : L3.length ≤ 1003 := by rw [hL3, List.length_append]; simp; omega
      rw [← hL3] at z1
      have HL3 := hide hL3
      have Ho3 := hide z1
      have Gr3 := hide (Gr2.out.trans Mo2.out z2)
      have Mo3 := hide (Mo2.out.trans z3 Gr2.out.kept.1)
      have Hb3 : Hid (base ≤ w3.heap.size) := hide (Nat.le_trans Hb2.out z2.kept.1)
      clear y1 y2 y3 z1 z2 z3 Ha2 hw2 hL3 hl2
      go_wp2_with fail
      go_ret
      exact ⟨v3, rfl, by rw [Hfin.out, show [d2, d3, d4] = [d2] ++ [d3] ++ [d4] from rfl, ← List.append_assoc, ← List.append_assoc, ← HL1.out, ← HL2.out, ← HL3.out]; exact Ho3.out, Gr3.out, Mo3.out⟩
  · have k4096 : (4096 : Int) ≤ (x : Int) := by omega
    have k256 : (256 : Int) ≤ (x : Int) := by omega
    have k16 : (16 : Int) ≤ (x : Int) := by omega
    have Hfin := hide (Hd.out.2.2.2 h4096)
    clear h4096
    have Ha0 := hide (Ho0.out.alloc (.cells #[.int .u8 (d1.toNat : Int)] 5))
    have hw0 : base ≤ w.heap.size := Hb0.out
    go_wp2_with (at_builtin; refine wpList_append_rd _ rfl (.tmp 7) (.tmp 11) _ rfl base 5 i0 _ 1 Tryd.underlying22 hi hz0 hz1 hz2 rfl _ L0.length _ rfl Ha0.out no (some ⟨w.heap.size, 0, none⟩) 1 1 [.int .u8 (d1.toNat : Int)] rfl ?p1 ?p2 ?p3 ?p4 ?p5 ?_)
    case p1 => exact Rd.one w _ _ no (fun h => h)
    case p2 => first | rfl | (intro u hu; simp at hu; subst hu; rfl)
    case p3 => unfold maxLen; omega
    case p4 => omega
    case p5 => first | omega | (simp; omega)
    intro v1 w1 y1 y2 y3
    obtain ⟨z1, z2, z3⟩ := push_step y1 y2 y3
    obtain ⟨L1, hL1⟩ : ∃ L, L = L0 ++ [d1] := ⟨_, rfl⟩
    have hl1 : L1.length ≤ 1001 := by rw [hL1, List.length_append]; simp; omega
    rw [← hL1] at z1
    have HL1 := hide hL1
    have Ho1 := hide z1
    have Gr1 := hide (Gr0.out.trans Mo0.out z2)
    have Mo1 := hide (Mo0.out.trans z3 Gr0.out.kept.1)
    have Hb1 : Hid (base ≤ w1.heap.size) := hide (Nat.le_trans Hb0.out z2.kept.1)
    clear y1 y2 y3 z1 z2 z3 Ha0 hw0 hL1 hl0
    have Ha1 := hide (Ho1.out.alloc (.cells #[.int .u8 (d2.toNat : Int)] 5))
    have hw1 : base ≤ w1.heap.size := Hb1.out
    go_wp2_with (at_builtin; refine wpList_append_rd _ rfl (.tmp 15) (.tmp 20) _ rfl base 5 i0 _ 1 Tryd.underlying22 hi hz0 hz1 hz2 rfl _ L1.length _ rfl Ha1.out no (some ⟨w1.heap.size, 0, none⟩) 1 1 [.int .u8 (d2.toNat : Int)] rfl ?p1 ?p2 ?p3 ?p4 ?p5 ?_)
    case p1 => exact Rd.one w1 _ _ no (fun h => h)
    case p2 => first | rfl | (intro u hu; simp at hu; subst hu; rfl)
    case p3 => unfold maxLen; omega
    case p4 => omega
    case p5 => first | omega | (simp; omega)
    intro v2 w2 y1 y2 y3
    obtain ⟨z1, z2, z3⟩ := push_step y1 y2 y3
    obtain ⟨L2, hL2⟩ : ∃ L, L = L1 ++ [d2] := ⟨_, rfl⟩
    have hl2 : L2.length ≤ 1002 := by rw [hL2, List.length_append]; simp; omega
    rw [← hL2] at z1
    have HL2 := hide hL2
    have Ho2 := hide z1
    have Gr2 := hide (Gr1.out.trans Mo1.out z2)
    have Mo2 := hide (Mo1.out.trans z3 Gr1.out.kept.1)
    have Hb2 : Hid (base ≤ w2.heap.size) := hide (Nat.le_trans Hb1.out z2.kept.1)
    clear y1 y2 y3 z1 z2 z3 Ha1 hw1 hL2 hl1
    have Ha2 := hide (Ho2.out.alloc (.cells #[.int .u8 (d3.toNat : Int)] 5))
    have hw2 : base ≤ w2.heap.size := Hb2.out
    go_wp2_with (at_builtin; refine wpList_append_rd _ rfl (.tmp 24) (.tmp 29) _ rfl base 5 i0 _ 1 Tryd.underlying22 hi hz0 hz1 hz2 rfl _ L2.length _ rfl Ha2.out no (some ⟨w2.heap.size, 0, none⟩) 1 1 [.int .u8 (d3.toNat : Int)] rfl ?p1 ?p2 ?p3 ?p4 ?p5 ?_)
    case p1 => exact Rd.one w2 _ _ no (fun h => h)
    case p2 => first | rfl | (intro u hu; simp at hu; subst hu; rfl)
    case p3 => unfold maxLen; omega
    case p4 => omega
    case p5 => first | omega | (simp; omega)
    intro v3 w3 y1 y2 y3
    obtain ⟨z1, z2, z3⟩ := push_step y1 y2 y3
    obtain ⟨L3, hL3⟩ : ∃ L, L = L2 ++ [d3] := ⟨_, rfl⟩
    have hl3 : L3.length ≤ 1003 := by rw [hL3, List.length_append]; simp; omega
    rw [← hL3] at z1
    have HL3 := hide hL3
    have Ho3 := hide z1
    have Gr3 := hide (Gr2.out.trans Mo2.out z2)
    have Mo3 := hide (Mo2.out.trans z3 Gr2.out.kept.1)
    have Hb3 : Hid (base ≤ w3.heap.size) := hide (Nat.le_trans Hb2.out z2.kept.1)
    clear y1 y2 y3 z1 z2 z3 Ha2 hw2 hL3 hl2
    have Ha3 := hide (Ho3.out.alloc (.cells #[.int .u8 (d4.toNat : Int)] 5))
    have hw3 : base ≤ w3.heap.size := Hb3.out
    go_wp2_with (at_builtin; refine wpList_append_rd _ rfl (.tmp 31) (.tmp 35) _ rfl base 5 i0 _ 1 Tryd.underlying22 hi hz0 hz1 hz2 rfl _ L3.length _ rfl Ha3.out no (some ⟨w3.heap.size, 0, none⟩) 1 1 [.int .u8 (d4.toNat : Int)] rfl ?p1 ?p2 ?p3 ?p4 ?p5 ?_)
    case p1 => exact Rd.one w3 _ _ no (fun h => h)
    case p2 => first | rfl | (intro u hu; simp at hu; subst hu; rfl)
    case p3 => unfold maxLen; omega
    case p4 => omega
    case p5 => first | omega | (simp; omega)
    intro v4 w4 y1 y2 y3
    obtain ⟨z1, z2, z3⟩ := push_step y1 y2 y3
    obtain ⟨L4, hL4⟩ : ∃ L, L = L3 ++ [d4] := ⟨_, rfl⟩
    have hl4 : L4.length ≤ 1004 := by rw [hL4, List.length_append]; simp; omega
    rw [← hL4] at z1
    have HL4 := hide hL4
    have Ho4 := hide z1
    have Gr4 := hide (Gr3.out.trans Mo3.out z2)
    have Mo4 := hide (Mo3.out.trans z3 Gr3.out.kept.1)
    have Hb4 : Hid (base ≤ w4.heap.size) := hide (Nat.le_trans Hb3.out z2.kept.1)
    clear y1 y2 y3 z1 z2 z3 Ha3 hw3 hL4 hl3
    go_wp2_with fail
    go_ret
    exact ⟨v4, rfl, by rw [Hfin.out, show [d1, d2, d3, d4] = [d1] ++ [d2] ++ [d3] ++ [d4] from rfl, ← List.append_assoc, ← List.append_assoc, ← List.append_assoc, ← HL1.out, ← HL2.out, ← HL3.out, ← HL4.out]; exact Ho4.out, Gr4.out, Mo4.out⟩
end Go.Proofs.YtmfcgglgolajnaaDoor
