/-
  The contract of netip.appendDecimal. (Written by wip/appd.py.)
-/
import Derived.Test.YtmfcgglgolajnaaDoorOwn
import Derived.Test.YtmfcgglgolajnaaDoorA4
import Derived.Test.YtmfcgglgolajnaaDoorZX
namespace Go.Proofs.YtmfcgglgolajnaaDoor
open Go.RowKit
set_option linter.unusedVariables false

theorem digit_at {q : Nat} (h : q < 10) : (ByteArray.mk #[48, 49, 50, 51, 52, 53, 54, 55, 56, 57, 97, 98, 99, 100, 101, 102])[q]'(by simp [ByteArray.size]; omega) = UInt8.ofNat (48 + q) := by
  match q, h with
  | 0, _ => rfl
  | 1, _ => rfl
  | 2, _ => rfl
  | 3, _ => rfl
  | 4, _ => rfl
  | 5, _ => rfl
  | 6, _ => rfl
  | 7, _ => rfl
  | 8, _ => rfl
  | 9, _ => rfl
theorem decL_two {n : Nat} (h1 : ¬ n < 10) (h2 : n < 100) : decL n = [UInt8.ofNat (48 + n / 10), UInt8.ofNat (48 + n % 10)] := by rw [decL_big h1, decL_small (by omega)]; rfl
theorem decL_three {n : Nat} (h1 : ¬ n < 100) (h2 : n < 1000) : decL n = [UInt8.ofNat (48 + n / 100), UInt8.ofNat (48 + n / 10 % 10), UInt8.ofNat (48 + n % 10)] := by
  rw [decL_big (by omega), decL_two (by omega) (by omega), Nat.div_div_eq_div_mul]; rfl

set_option maxRecDepth 100000 in
set_option maxHeartbeats 1600000 in
theorem appDec_any (base : Nat) (x : UInt8) (L0 : List UInt8) (v : Value) (w : World) (ho : Own base L0 v w) (hb : base ≤ w.heap.size) (hl0 : L0.length ≤ 1000) :
    Calls Tryd.prog 77 #[v, .int .u8 (x.toNat : Int)] w (AppR base v w (L0 ++ decL x.toNat)) := by
  obtain ⟨i0, hi, hz0, hz1, hz2⟩ := info_parts byte_info
  have Ho0 := hide ho
  have Gr0 := hide (Grew.refl v w)
  have Mo0 := hide (Moved.refl v w)
  have Hb0 := hide hb
  have hx := x.toNat_lt
  have Hq : Hid (∃ q1 q2 q3 : Nat, q1 < 10 ∧ q2 < 10 ∧ q3 < 10 ∧ (x.toNat : Int) / 100 = (q1 : Int) ∧ (x.toNat : Int) / 10 % 10 = (q2 : Int) ∧ (x.toNat : Int) % 10 = (q3 : Int) ∧ ((x.toNat < 10 → decL x.toNat = [UInt8.ofNat (48 + q3)]) ∧ (¬ x.toNat < 10 → x.toNat < 100 → decL x.toNat = [UInt8.ofNat (48 + q2), UInt8.ofNat (48 + q3)]) ∧ (¬ x.toNat < 100 → decL x.toNat = [UInt8.ofNat (48 + q1), UInt8.ofNat (48 + q2), UInt8.ofNat (48 + q3)]))) := hide
    ⟨x.toNat / 100, x.toNat / 10 % 10, x.toNat % 10, by omega, by omega, by omega, by omega, by omega, by omega, fun h => by rw [decL_small h, Nat.mod_eq_of_lt h], fun h1 h2 => by rw [decL_two h1 h2, Nat.mod_eq_of_lt (show x.toNat / 10 < 10 by omega)], fun h1 => by rw [decL_three h1 (by omega)]⟩
  obtain ⟨q1, q2, q3, b1, b2, b3, f1, f2, f3, hd⟩ := Hq.out
  have Hd := hide hd
  have g1 := digit_at b1
  have g2 := digit_at b2
  have g3 := digit_at b3
  have j1 : (q1 : Int) < 16 := by omega
  have j2 : (q2 : Int) < 16 := by omega
  have j3 : (q3 : Int) < 16 := by omega
  clear hd
  generalize UInt8.ofNat (48 + q1) = d1 at *
  generalize UInt8.ofNat (48 + q2) = d2 at *
  generalize UInt8.ofNat (48 + q3) = d3 at *
  clear ho Hq
  go_enter Tryd.func77, Tryd.ntmps77
  by_cases h100 : x.toNat < 100
  · have k100 : ¬ ((100 : Int) ≤ (x.toNat : Int)) := by omega
    by_cases h10 : x.toNat < 10
    · have k10 : ¬ ((10 : Int) ≤ (x.toNat : Int)) := by omega
      have Hfin := hide (Hd.out.1 h10)
      clear h100 h10
      have Ha0 := hide (Ho0.out.alloc (.cells #[.int .u8 (d3.toNat : Int)] 5))
      have hw0 : base ≤ w.heap.size := Hb0.out
      go_wp2_with (at_builtin; refine wpList_append_rd _ rfl (.tmp 22) (.tmp 26) _ rfl base 5 i0 _ 1 Tryd.underlying22 hi hz0 hz1 hz2 rfl _ L0.length _ rfl Ha0.out no (some ⟨w.heap.size, 0, none⟩) 1 1 [.int .u8 (d3.toNat : Int)] rfl ?p1 ?p2 ?p3 ?p4 ?p5 ?_)
      case p1 => exact Rd.one w _ _ no (fun h => h)
      case p2 => first | rfl | (intro u hu; simp at hu; subst hu; rfl)
      case p3 => unfold maxLen; omega
      case p4 => omega
      case p5 => first | omega | (simp; omega)
      intro v1 w1 y1 y2 y3
      obtain ⟨z1, z2, z3⟩ := push_step y1 y2 y3
      obtain ⟨L1, hL1⟩ : ∃ L, L = L0 ++ [d3] := ⟨_, rfl⟩
      have hl1 : L1.length ≤ 1001 := by rw [hL1, List.length_append]; simp; omega
      rw [← hL1] at z1
      have HL1 := hide hL1
      have Ho1 := hide z1
      have Gr1 := hide (Gr0.out.trans Mo0.out z2)
      have Mo1 := hide (Mo0.out.trans z3 Gr0.out.kept.1)
      have Hb1 : Hid (base ≤ w1.heap.size) := hide (Nat.le_trans Hb0.out z2.kept.1)
      clear y1 y2 y3 z1 z2 z3 Ha0 hw0 hL1 hl0
      go_wp2_with fail
      go_ret
      exact ⟨v1, rfl, by rw [Hfin.out, ← HL1.out]; exact Ho1.out, Gr1.out, Mo1.out⟩
    · have k10 : (10 : Int) ≤ (x.toNat : Int) := by omega
      have Hfin := hide (Hd.out.2.1 h10 h100)
      clear h100 h10
      have Ha0 := hide (Ho0.out.alloc (.cells #[.int .u8 (d2.toNat : Int)] 5))
      have hw0 : base ≤ w.heap.size := Hb0.out
      go_wp2_with (at_builtin; refine wpList_append_rd _ rfl (.tmp 15) (.tmp 20) _ rfl base 5 i0 _ 1 Tryd.underlying22 hi hz0 hz1 hz2 rfl _ L0.length _ rfl Ha0.out no (some ⟨w.heap.size, 0, none⟩) 1 1 [.int .u8 (d2.toNat : Int)] rfl ?p1 ?p2 ?p3 ?p4 ?p5 ?_)
      case p1 => exact Rd.one w _ _ no (fun h => h)
      case p2 => first | rfl | (intro u hu; simp at hu; subst hu; rfl)
      case p3 => unfold maxLen; omega
      case p4 => omega
      case p5 => first | omega | (simp; omega)
      intro v1 w1 y1 y2 y3
      obtain ⟨z1, z2, z3⟩ := push_step y1 y2 y3
      obtain ⟨L1, hL1⟩ : ∃ L, L = L0 ++ [d2] := ⟨_, rfl⟩
      have hl1 : L1.length ≤ 1001 := by rw [hL1, List.length_append]; simp; omega
      rw [← hL1] at z1
      have HL1 := hide hL1
      have Ho1 := hide z1
      have Gr1 := hide (Gr0.out.trans Mo0.out z2)
      have Mo1 := hide (Mo0.out.trans z3 Gr0.out.kept.1)
      have Hb1 : Hid (base ≤ w1.heap.size) := hide (Nat.le_trans Hb0.out z2.kept.1)
      clear y1 y2 y3 z1 z2 z3 Ha0 hw0 hL1 hl0
      have Ha1 := hide (Ho1.out.alloc (.cells #[.int .u8 (d3.toNat : Int)] 5))
      have hw1 : base ≤ w1.heap.size := Hb1.out
      go_wp2_with (at_builtin; refine wpList_append_rd _ rfl (.tmp 22) (.tmp 26) _ rfl base 5 i0 _ 1 Tryd.underlying22 hi hz0 hz1 hz2 rfl _ L1.length _ rfl Ha1.out no (some ⟨w1.heap.size, 0, none⟩) 1 1 [.int .u8 (d3.toNat : Int)] rfl ?p1 ?p2 ?p3 ?p4 ?p5 ?_)
      case p1 => exact Rd.one w1 _ _ no (fun h => h)
      case p2 => first | rfl | (intro u hu; simp at hu; subst hu; rfl)
      case p3 => unfold maxLen; omega
      case p4 => omega
      case p5 => first | omega | (simp; omega)
      intro v2 w2 y1 y2 y3
      obtain ⟨z1, z2, z3⟩ := push_step y1 y2 y3
      obtain ⟨L2, hL2⟩ : ∃ L, L = L1 ++ [d3] := ⟨_, rfl⟩
      have hl2 : L2.length ≤ 1002 := by rw [hL2, List.length_append]; simp; omega
      rw [← hL2] at z1
      have HL2 := hide hL2
      have Ho2 := hide z1
      have Gr2 := hide (Gr1.out.trans Mo1.out z2)
      have Mo2 := hide (Mo1.out.trans z3 Gr1.out.kept.1)
      have Hb2 : Hid (base ≤ w2.heap.size) := hide (Nat.le_trans Hb1.out z2.kept.1)
      clear y1 y2 y3 z1 z2 z3 Ha1 hw1 hL2 hl1
      go_wp2_with fail
      go_ret
      exact ⟨v2, rfl, by rw [Hfin.out, show [d2, d3] = [d2] ++ [d3] from rfl, ← List.append_assoc, ← HL1.out, ← HL2.out]; exact Ho2.out, Gr2.out, Mo2.out⟩
  · have k100 : (100 : Int) ≤ (x.toNat : Int) := by omega
    have k10 : (10 : Int) ≤ (x.toNat : Int) := by omega
    have Hfin := hide (Hd.out.2.2 h100)
    clear h100
    have Ha0 := hide (Ho0.out.alloc (.cells #[.int .u8 (d1.toNat : Int)] 5))
    have hw0 : base ≤ w.heap.size := Hb0.out
    go_wp2_with (at_builtin; refine wpList_append_rd _ rfl (.tmp 7) (.tmp 11) _ rfl base 5 i0 _ 1 Tryd.underlying22 hi hz0 hz1 hz2 rfl _ L0.length _ rfl Ha0.out no (some ⟨w.heap.size, 0, none⟩) 1 1 [.int .u8 (d1.toNat : Int)] rfl ?p1 ?p2 ?p3 ?p4 ?p5 ?_)
    case p1 => exact Rd.one w _ _ no (fun h => h)
    case p2 => first | rfl | (intro u hu; simp at hu; subst hu; rfl)
    case p3 => unfold maxLen; omega
    case p4 => omega
    case p5 => first | omega | (simp; omega)
    intro v1 w1 y1 y2 y3
    obtain ⟨z1, z2, z3⟩ := push_step y1 y2 y3
    obtain ⟨L1, hL1⟩ : ∃ L, L = L0 ++ [d1] := ⟨_, rfl⟩
    have hl1 : L1.length ≤ 1001 := by rw [hL1, List.length_append]; simp; omega
    rw [← hL1] at z1
    have HL1 := hide hL1
    have Ho1 := hide z1
    have Gr1 := hide (Gr0.out.trans Mo0.out z2)
    have Mo1 := hide (Mo0.out.trans z3 Gr0.out.kept.1)
    have Hb1 : Hid (base ≤ w1.heap.size) := hide (Nat.le_trans Hb0.out z2.kept.1)
    clear y1 y2 y3 z1 z2 z3 Ha0 hw0 hL1 hl0
    have Ha1 := hide (Ho1.out.alloc (.cells #[.int .u8 (d2.toNat : Int)] 5))
    have hw1 : base ≤ w1.heap.size := Hb1.out
    go_wp2_with (at_builtin; refine wpList_append_rd _ rfl (.tmp 15) (.tmp 20) _ rfl base 5 i0 _ 1 Tryd.underlying22 hi hz0 hz1 hz2 rfl _ L1.length _ rfl Ha1.out no (some ⟨w1.heap.size, 0, none⟩) 1 1 [.int .u8 (d2.toNat : Int)] rfl ?p1 ?p2 ?p3 ?p4 ?p5 ?_)
    case p1 => exact Rd.one w1 _ _ no (fun h => h)
    case p2 => first | rfl | (intro u hu; simp at hu; subst hu; rfl)
    case p3 => unfold maxLen; omega
    case p4 => omega
    case p5 => first | omega | (simp; omega)
    intro v2 w2 y1 y2 y3
    obtain ⟨z1, z2, z3⟩ := push_step y1 y2 y3
    obtain ⟨L2, hL2⟩ : ∃ L, L = L1 ++ [d2] := ⟨_, rfl⟩
    have hl2 : L2.length ≤ 1002 := by rw [hL2, List.length_append]; simp; omega
    rw [← hL2] at z1
    have HL2 := hide hL2
    have Ho2 := hide z1
    have Gr2 := hide (Gr1.out.trans Mo1.out z2)
    have Mo2 := hide (Mo1.out.trans z3 Gr1.out.kept.1)
    have Hb2 : Hid (base ≤ w2.heap.size) := hide (Nat.le_trans Hb1.out z2.kept.1)
    clear y1 y2 y3 z1 z2 z3 Ha1 hw1 hL2 hl1
    have Ha2 := hide (Ho2.out.alloc (.cells #[.int .u8 (d3.toNat : Int)] 5))
    have hw2 : base ≤ w2.heap.size := Hb2.out
    go_wp2_with (at_builtin; refine wpList_append_rd _ rfl (.tmp 22) (.tmp 26) _ rfl base 5 i0 _ 1 Tryd.underlying22 hi hz0 hz1 hz2 rfl _ L2.length _ rfl Ha2.out no (some ⟨w2.heap.size, 0, none⟩) 1 1 [.int .u8 (d3.toNat : Int)] rfl ?p1 ?p2 ?p3 ?p4 ?p5 ?_)
    case p1 => exact Rd.one w2 _ _ no (fun h => h)
    case p2 => first | rfl | (intro u hu; simp at hu; subst hu; rfl)
    case p3 => unfold maxLen; omega
    case p4 => omega
    case p5 => first | omega | (simp; omega)
    intro v3 w3 y1 y2 y3
    obtain ⟨z1, z2, z3⟩ := push_step y1 y2 y3
    obtain ⟨L3, hL3⟩ : ∃ L, L = L2 ++ [d3] := ⟨_, rfl⟩
    have hl3 : L3.length ≤ 1003 := by rw [hL3, List.length_append]; simp; omega
    rw [← hL3] at z1
    have HL3 := hide hL3
    have Ho3 := hide z1
    have Gr3 := hide (Gr2.out.trans Mo2.out z2)
    have Mo3 := hide (Mo2.out.trans z3 Gr2.out.kept.1)
    have Hb3 : Hid (base ≤ w3.heap.size) := hide (Nat.le_trans Hb2.out z2.kept.1)
    clear y1 y2 y3 z1 z2 z3 Ha2 hw2 hL3 hl2
    go_wp2_with fail
    go_ret
    exact ⟨v3, rfl, by rw [Hfin.out, show [d1, d2, d3] = [d1] ++ [d2] ++ [d3] from rfl, ← List.append_assoc, ← List.append_assoc, ← HL1.out, ← HL2.out, ← HL3.out]; exact Ho3.out, Gr3.out, Mo3.out⟩
end Go.Proofs.YtmfcgglgolajnaaDoor
