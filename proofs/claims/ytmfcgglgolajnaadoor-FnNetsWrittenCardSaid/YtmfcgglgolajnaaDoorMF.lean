/-
  Joined: Own, AppD, V4At, To4A, AppH, V6U, To6A.
-/
import Derived.Test.YtmfcgglgolajnaaDoorMB
import Derived.Test.YtmfcgglgolajnaaDoorMA
import Derived.Test.YtmfcgglgolajnaaDoorME
import Derived.Test.YtmfcgglgolajnaaDoorMC
import Derived.StillTailTactics
/-
  A row of bytes of the call's own that grows. 
-/
namespace Go.Proofs.YtmfcgglgolajnaaDoor
open Go.RowKit
set_option linter.unusedVariables false

def Own (base : Nat) (bs : List UInt8) (v : Value) (w : World) : Prop := w.ownsRow base 5 1 v bs.length (byV bs)
/-- All blocks that were there, but the row's, are as they were. -/
structure Grew (v : Value) (w w' : World) : Prop where
  kept : Kept (rowOf v) w w'
  os : w'.os = w.os
  tape : w'.tape = w.tape
  output : w'.output = w.output
/-- The row lies where it lay, or in new memory. -/
def Moved (v v' : Value) (w : World) : Prop := ∀ g, v'.ownBlock = some g → v.ownBlock = some g ∨ w.heap.size ≤ g
theorem Moved.refl (v : Value) (w : World) : Moved v v w := fun _ h => Or.inl h
theorem Grew.refl (v : Value) (w : World) : Grew v w w := ⟨Kept.refl _ _, rfl, rfl, rfl⟩
theorem Moved.trans {v v1 v2 : Value} {w w1 : World} (h : Moved v v1 w) (k : Moved v1 v2 w1) (hs : w.heap.size ≤ w1.heap.size) : Moved v v2 w := fun g hg => by
  rcases k g hg with h1 | h1
  · exact h g h1
  · exact Or.inr (Nat.le_trans hs h1)
theorem Grew.trans {v v1 : Value} {w w1 w2 : World} (h : Grew v w w1) (hm : Moved v v1 w) (k : Grew v1 w1 w2) : Grew v w w2 :=
  ⟨⟨Nat.le_trans h.kept.1 k.kept.1, fun i hi hn => (k.kept.2 i (Nat.lt_of_lt_of_le hi h.kept.1) (fun e => by
    rcases hm i e with h1 | h1
    · exact hn h1
    · omega)).trans (h.kept.2 i hi hn)⟩, k.os.trans h.os, k.tape.trans h.tape, k.output.trans h.output⟩
/-- A call in between that makes memory alone. -/
theorem Grew.of_below {v : Value} {w w' : World} (h : Below w.heap.size w w') : Grew v w w' := ⟨Kept.of_below h _, h.os, h.tape, h.output⟩
theorem Grew.below {v : Value} {w w' : World} {base : Nat} {bs : List UInt8} (h : Grew v w w') (ho : Own base bs v w) (hb : base ≤ w.heap.size) : Below base w w' :=
  ⟨h.os, h.tape, h.output, h.kept.1, fun k hk => h.kept.2 k (Nat.lt_of_lt_of_le hk hb) (fun e => by
    have := (ho.lt k e).1
    omega)⟩
theorem Own.below {w w' : World} {base : Nat} {bs : List UInt8} {v : Value} (h : Own base bs v w) (hb : Below w.heap.size w w') : Own base bs v w' := own_below h hb
theorem Own.alloc {w : World} {base : Nat} {bs : List UInt8} {v : Value} (h : Own base bs v w) (o : Obj) : Own base bs v (w.alloc o) := World.ownsRow.alloc h o
/-- A block that is no part of the row. -/
theorem Grew.blk {v : Value} {w w' : World} {g : Nat} {t : TypeId} {xs : List Value} (h : Grew v w w') (hb : Blk w g t xs) (hn : ¬ rowOf v g) : Blk w' g t xs := hb.keep h.kept hn
/-- What a function that appends hands back. -/
def AppR (base : Nat) (v : Value) (w : World) (bs : List UInt8) (e : Ending) (w' : World) : Prop := ∃ v', e = .returned v' ∧ Own base bs v' w' ∧ Grew v w w' ∧ Moved v v' w

theorem push_step {base : Nat} {w w2 : World} {v v' : Value} {bs : List UInt8} {x : UInt8} (q1 : w2.ownsRow base 5 1 v' (bs.length + 1) (byV bs ++ [.int .u8 (x.toNat : Int)]))
    (q2 : (w.alloc (.cells #[.int .u8 (x.toNat : Int)] 5)).grownBy w2 v.ownBlock) (q3 : v'.ownBlock = v.ownBlock ∨ v'.ownBlock = some (w.heap.size + 1)) :
    Own base (bs ++ [x]) v' w2 ∧ Grew v w w2 ∧ Moved v v' w := by
  refine ⟨?_, ?_, ?_⟩
  · unfold Own byV
    rw [List.length_append, List.map_append]
    exact q1
  · have hk : Kept (rowOf v) w w2 := (Kept.alloc (rowOf v) w _).trans (Kept.of_grown q2)
    exact ⟨hk, q2.os, q2.tape, q2.output⟩
  · intro g hg
    rcases q3 with q3 | q3
    · exact Or.inl (by rw [← q3]; exact hg)
    · rw [q3] at hg
      injection hg with hg
      exact Or.inr (by omega)
end Go.Proofs.YtmfcgglgolajnaaDoor
/-
  The contract of netip.appendDecimal. (Written by wip/appd.py.)
-/
namespace Go.Proofs.YtmfcgglgolajnaaDoor
open Go.RowKit
set_option linter.unusedVariables false

theorem digit_at {q : Nat} (h : q < 10) : (ByteArray.mk #[48, 49, 50, 51, 52, 53, 54, 55, 56, 57, 97, 98, 99, 100, 101, 102])[q]'(by simp [ByteArray.size]; omega) = UInt8.ofNat (48 + q) := by
  match q, h with
  | 0, _ => rfl
  | 1, _ => rfl
  | 2, _ => rfl
  | 3, _ => rfl
  | 4, _ => rfl
  | 5, _ => rfl
  | 6, _ => rfl
  | 7, _ => rfl
  | 8, _ => rfl
  | 9, _ => rfl
theorem decL_two {n : Nat} (h1 : ¬ n < 10) (h2 : n < 100) : decL n = [UInt8.ofNat (48 + n / 10), UInt8.ofNat (48 + n % 10)] := by rw [decL_big h1, decL_small (by omega)]; rfl
theorem decL_three {n : Nat} (h1 : ¬ n < 100) (h2 : n < 1000) : decL n = [UInt8.ofNat (48 + n / 100), UInt8.ofNat (48 + n / 10 % 10), UInt8.ofNat (48 + n % 10)] := by
  rw [decL_big (by omega), decL_two (by omega) (by omega), Nat.div_div_eq_div_mul]; rfl

set_option maxRecDepth 100000 in
set_option maxHeartbeats 1600000 in
theorem appDec_any (base : Nat) (x : UInt8) (L0 : List UInt8) (v : Value) (w : World) (ho : Own base L0 v w) (hb : base ≤ w.heap.size) (hl0 : L0.length ≤ 1000) :
    Calls Tryd.prog 77 #[v, .int .u8 (x.toNat : Int)] w (AppR base v w (L0 ++ decL x.toNat)) := by
  obtain ⟨i0, hi, hz0, hz1, hz2⟩ := info_parts byte_info
  have Ho0 := hide ho
  have Gr0 := hide (Grew.refl v w)
  have Mo0 := hide (Moved.refl v w)
  have Hb0 := hide hb
  have hx := x.toNat_lt
  have Hq : Hid (∃ q1 q2 q3 : Nat, q1 < 10 ∧ q2 < 10 ∧ q3 < 10 ∧ (x.toNat : Int) / 100 = (q1 : Int) ∧ (x.toNat : Int) / 10 % 10 = (q2 : Int) ∧ (x.toNat : Int) % 10 = (q3 : Int) ∧ ((x.toNat < 10 → decL x.toNat = [UInt8.ofNat (48 + q3)]) ∧ (¬ x.toNat < 10 → x.toNat < 100 → decL x.toNat = [UInt8.ofNat (48 + q2), UInt8.ofNat (48 + q3)]) ∧ (¬ x.toNat < 100 → decL x.toNat = [UInt8.ofNat (48 + q1), UInt8.ofNat (48 + q2), UInt8.ofNat (48 + q3)]))) := hide
    ⟨x.toNat / 100, x.toNat / 10 % 10, x.toNat % 10, by omega, by omega, by omega, by omega, by omega, by omega, fun h => by rw [decL_small h, Nat.mod_eq_of_lt h], fun h1 h2 => by rw [decL_two h1 h2, Nat.mod_eq_of_lt (show x.toNat / 10 < 10 by omega)], fun h1 => by rw [decL_three h1 (by omega)]⟩
  obtain ⟨q1, q2, q3, b1, b2, b3, f1, f2, f3, hd⟩ := Hq.out
  have Hd := hide hd
  have g1 := digit_at b1
  have g2 := digit_at b2
  have g3 := digit_at b3
  have j1 : (q1 : Int) < 16 := by omega
  have j2 : (q2 : Int) < 16 := by omega
  have j3 : (q3 : Int) < 16 := by omega
  clear hd
  generalize UInt8.ofNat (48 + q1) = d1 at *
  generalize UInt8.ofNat (48 + q2) = d2 at *
  generalize UInt8.ofNat (48 + q3) = d3 at *
  clear ho Hq
  go_enter Tryd.func77, Tryd.ntmps77
  by_cases h100 : x.toNat < 100
  · have k100 : ¬ ((100 : Int) ≤ (x.toNat : Int)) := by omega
    by_cases h10 : x.toNat < 10
    · have k10 : ¬ ((10 : Int) ≤ (x.toNat : Int)) := by omega
      have Hfin := hide (Hd.out.1 h10)
      clear h100 h10
      have Ha0 := hide (Ho0.out.alloc (.cells #[.int .u8 (d3.toNat : Int)] 5))
      have hw0 : base ≤ w.heap.size := Hb0.out
      go_wp2_with (at_builtin; refine wpList_append_rd _ rfl (.tmp 22) (.tmp 26) _ rfl base 5 i0 _ 1 Tryd.underlying22 hi hz0 hz1 hz2 rfl _ L0.length _ rfl Ha0.out no (some ⟨w.heap.size, 0, none⟩) 1 1 [.int .u8 (d3.toNat : Int)] rfl ?p1 ?p2 ?p3 ?p4 ?p5 ?_)
      case p1 => exact Rd.one w _ _ no (fun h => h)
      case p2 => first | rfl | (intro u hu; simp at hu; subst hu; rfl)
      case p3 => unfold maxLen; omega
      case p4 => omega
      case p5 => first | omega | (simp; omega)
      intro v1 w1 y1 y2 y3
      obtain ⟨z1, z2, z3⟩ := push_step y1 y2 y3
      obtain ⟨L1, hL1⟩ : ∃ L, L = L0 ++ [d3] := ⟨_, rfl⟩
      have hl1 : L1.length ≤ 1001 := by rw [hL1, List.length_append]; simp; omega
      rw [← hL1] at z1
      have HL1 := hide hL1
      have Ho1 := hide z1
      have Gr1 := hide (Gr0.out.trans Mo0.out z2)
      have Mo1 := hide (Mo0.out.trans z3 Gr0.out.kept.1)
      have Hb1 : Hid (base ≤ w1.heap.size) := hide (Nat.le_trans Hb0.out z2.kept.1)
      clear y1 y2 y3 z1 z2 z3 Ha0 hw0 hL1 hl0
      go_wp2_with fail
      go_ret
      exact ⟨v1, rfl, by rw [Hfin.out, ← HL1.out]; exact Ho1.out, Gr1.out, Mo1.out⟩
    · have k10 : (10 : Int) ≤ (x.toNat : Int) := by omega
      have Hfin := hide (Hd.out.2.1 h10 h100)
      clear h100 h10
      have Ha0 := hide (Ho0.out.alloc (.cells #[.int .u8 (d2.toNat : Int)] 5))
      have hw0 : base ≤ w.heap.size := Hb0.out
      go_wp2_with (at_builtin; refine wpList_append_rd _ rfl (.tmp 15) (.tmp 20) _ rfl base 5 i0 _ 1 Tryd.underlying22 hi hz0 hz1 hz2 rfl _ L0.length _ rfl Ha0.out no (some ⟨w.heap.size, 0, none⟩) 1 1 [.int .u8 (d2.toNat : Int)] rfl ?p1 ?p2 ?p3 ?p4 ?p5 ?_)
      case p1 => exact Rd.one w _ _ no (fun h => h)
      case p2 => first | rfl | (intro u hu; simp at hu; subst hu; rfl)
      case p3 => unfold maxLen; omega
      case p4 => omega
      case p5 => first | omega | (simp; omega)
      intro v1 w1 y1 y2 y3
      obtain ⟨z1, z2, z3⟩ := push_step y1 y2 y3
      obtain ⟨L1, hL1⟩ : ∃ L, L = L0 ++ [d2] := ⟨_, rfl⟩
      have hl1 : L1.length ≤ 1001 := by rw [hL1, List.length_append]; simp; omega
      rw [← hL1] at z1
      have HL1 := hide hL1
      have Ho1 := hide z1
      have Gr1 := hide (Gr0.out.trans Mo0.out z2)
      have Mo1 := hide (Mo0.out.trans z3 Gr0.out.kept.1)
      have Hb1 : Hid (base ≤ w1.heap.size) := hide (Nat.le_trans Hb0.out z2.kept.1)
      clear y1 y2 y3 z1 z2 z3 Ha0 hw0 hL1 hl0
      have Ha1 := hide (Ho1.out.alloc (.cells #[.int .u8 (d3.toNat : Int)] 5))
      have hw1 : base ≤ w1.heap.size := Hb1.out
      go_wp2_with (at_builtin; refine wpList_append_rd _ rfl (.tmp 22) (.tmp 26) _ rfl base 5 i0 _ 1 Tryd.underlying22 hi hz0 hz1 hz2 rfl _ L1.length _ rfl Ha1.out no (some ⟨w1.heap.size, 0, none⟩) 1 1 [.int .u8 (d3.toNat : Int)] rfl ?p1 ?p2 ?p3 ?p4 ?p5 ?_)
      case p1 => exact Rd.one w1 _ _ no (fun h => h)
      case p2 => first | rfl | (intro u hu; simp at hu; subst hu; rfl)
      case p3 => unfold maxLen; omega
      case p4 => omega
      case p5 => first | omega | (simp; omega)
      intro v2 w2 y1 y2 y3
      obtain ⟨z1, z2, z3⟩ := push_step y1 y2 y3
      obtain ⟨L2, hL2⟩ : ∃ L, L = L1 ++ [d3] := ⟨_, rfl⟩
      have hl2 : L2.length ≤ 1002 := by rw [hL2, List.length_append]; simp; omega
      rw [← hL2] at z1
      have HL2 := hide hL2
      have Ho2 := hide z1
      have Gr2 := hide (Gr1.out.trans Mo1.out z2)
      have Mo2 := hide (Mo1.out.trans z3 Gr1.out.kept.1)
      have Hb2 : Hid (base ≤ w2.heap.size) := hide (Nat.le_trans Hb1.out z2.kept.1)
      clear y1 y2 y3 z1 z2 z3 Ha1 hw1 hL2 hl1
      go_wp2_with fail
      go_ret
      exact ⟨v2, rfl, by rw [Hfin.out, show [d2, d3] = [d2] ++ [d3] from rfl, ← List.append_assoc, ← HL1.out, ← HL2.out]; exact Ho2.out, Gr2.out, Mo2.out⟩
  · have k100 : (100 : Int) ≤ (x.toNat : Int) := by omega
    have k10 : (10 : Int) ≤ (x.toNat : Int) := by omega
    have Hfin := hide (Hd.out.2.2 h100)
    clear h100
    have Ha0 := hide (Ho0.out.alloc (.cells #[.int .u8 (d1.toNat : Int)] 5))
    have hw0 : base ≤ w.heap.size := Hb0.out
    go_wp2_with (at_builtin; refine wpList_append_rd _ rfl (.tmp 7) (.tmp 11) _ rfl base 5 i0 _ 1 Tryd.underlying22 hi hz0 hz1 hz2 rfl _ L0.length _ rfl Ha0.out no (some ⟨w.heap.size, 0, none⟩) 1 1 [.int .u8 (d1.toNat : Int)] rfl ?p1 ?p2 ?p3 ?p4 ?p5 ?_)
    case p1 => exact Rd.one w _ _ no (fun h => h)
    case p2 => first | rfl | (intro u hu; simp at hu; subst hu; rfl)
    case p3 => unfold maxLen; omega
    case p4 => omega
    case p5 => first | omega | (simp; omega)
    intro v1 w1 y1 y2 y3
    obtain ⟨z1, z2, z3⟩ := push_step y1 y2 y3
    obtain ⟨L1, hL1⟩ : ∃ L, L = L0 ++ [d1] := ⟨_, rfl⟩
    have hl1 : L1.length ≤ 1001 := by rw [hL1, List.length_append]; simp; omega
    rw [← hL1] at z1
    have HL1 := hide hL1
    have Ho1 := hide z1
    have Gr1 := hide (Gr0.out.trans Mo0.out z2)
    have Mo1 := hide (Mo0.out.trans z3 Gr0.out.kept.1)
    have Hb1 : Hid (base ≤ w1.heap.size) := hide (Nat.le_trans Hb0.out z2.kept.1)
    clear y1 y2 y3 z1 z2 z3 Ha0 hw0 hL1 hl0
    have Ha1 := hide (Ho1.out.alloc (.cells #[.int .u8 (d2.toNat : Int)] 5))
    have hw1 : base ≤ w1.heap.size := Hb1.out
    go_wp2_with (at_builtin; refine wpList_append_rd _ rfl (.tmp 15) (.tmp 20) _ rfl base 5 i0 _ 1 Tryd.underlying22 hi hz0 hz1 hz2 rfl _ L1.length _ rfl Ha1.out no (some ⟨w1.heap.size, 0, none⟩) 1 1 [.int .u8 (d2.toNat : Int)] rfl ?p1 ?p2 ?p3 ?p4 ?p5 ?_)
    case p1 => exact Rd.one w1 _ _ no (fun h => h)
    case p2 => first | rfl | (intro u hu; simp at hu; subst hu; rfl)
    case p3 => unfold maxLen; omega
    case p4 => omega
    case p5 => first | omega | (simp; omega)
    intro v2 w2 y1 y2 y3
    obtain ⟨z1, z2, z3⟩ := push_step y1 y2 y3
    obtain ⟨L2, hL2⟩ : ∃ L, L = L1 ++ [d2] := ⟨_, rfl⟩
    have hl2 : L2.length ≤ 1002 := by rw [hL2, List.length_append]; simp; omega
    rw [← hL2] at z1
    have HL2 := hide hL2
    have Ho2 := hide z1
    have Gr2 := hide (Gr1.out.trans Mo1.out z2)
    have Mo2 := hide (Mo1.out.trans z3 Gr1.out.kept.1)
    have Hb2 : Hid (base ≤ w2.heap.size) := hide (Nat.le_trans Hb1.out z2.kept.1)
    clear y1 y2 y3 z1 z2 z3 Ha1 hw1 hL2 hl1
    have Ha2 := hide (Ho2.out.alloc (.cells #[.int .u8 (d3.toNat : Int)] 5))
    have hw2 : base ≤ w2.heap.size := Hb2.out
    go_wp2_with (at_builtin; refine wpList_append_rd _ rfl (.tmp 22) (.tmp 26) _ rfl base 5 i0 _ 1 Tryd.underlying22 hi hz0 hz1 hz2 rfl _ L2.length _ rfl Ha2.out no (some ⟨w2.heap.size, 0, none⟩) 1 1 [.int .u8 (d3.toNat : Int)] rfl ?p1 ?p2 ?p3 ?p4 ?p5 ?_)
    case p1 => exact Rd.one w2 _ _ no (fun h => h)
    case p2 => first | rfl | (intro u hu; simp at hu; subst hu; rfl)
    case p3 => unfold maxLen; omega
    case p4 => omega
    case p5 => first | omega | (simp; omega)
    intro v3 w3 y1 y2 y3
    obtain ⟨z1, z2, z3⟩ := push_step y1 y2 y3
    obtain ⟨L3, hL3⟩ : ∃ L, L = L2 ++ [d3] := ⟨_, rfl⟩
    have hl3 : L3.length ≤ 1003 := by rw [hL3, List.length_append]; simp; omega
    rw [← hL3] at z1
    have HL3 := hide hL3
    have Ho3 := hide z1
    have Gr3 := hide (Gr2.out.trans Mo2.out z2)
    have Mo3 := hide (Mo2.out.trans z3 Gr2.out.kept.1)
    have Hb3 : Hid (base ≤ w3.heap.size) := hide (Nat.le_trans Hb2.out z2.kept.1)
    clear y1 y2 y3 z1 z2 z3 Ha2 hw2 hL3 hl2
    go_wp2_with fail
    go_ret
    exact ⟨v3, rfl, by rw [Hfin.out, show [d1, d2, d3] = [d1] ++ [d2] ++ [d3] from rfl, ← List.append_assoc, ← List.append_assoc, ← HL1.out, ← HL2.out, ← HL3.out]; exact Ho3.out, Gr3.out, Mo3.out⟩
end Go.Proofs.YtmfcgglgolajnaaDoor
/-
  The contract of Addr.v4.
-/
namespace Go.Proofs.YtmfcgglgolajnaaDoor
open Go.RowKit
set_option linter.unusedVariables false

theorem lo4_parts (a b c d : UInt8) : ((lo4 a b c d : Nat) : Int) / 16777216 % 256 = a.toNat ∧ ((lo4 a b c d : Nat) : Int) / 65536 % 256 = b.toNat ∧ ((lo4 a b c d : Nat) : Int) / 256 % 256 = c.toNat ∧ ((lo4 a b c d : Nat) : Int) % 256 = d.toNat := by
  have := a.toNat_lt; have := b.toNat_lt; have := c.toNat_lt; have := d.toNat_lt
  unfold lo4
  refine ⟨?_, ?_, ?_, ?_⟩ <;> omega
theorem lo4_lt (a b c d : UInt8) : lo4 a b c d < 18446744073709551616 := by
  have := a.toNat_lt; have := b.toNat_lt; have := c.toNat_lt; have := d.toNat_lt
  unfold lo4
  omega

set_option maxRecDepth 100000 in
set_option maxHeartbeats 800000 in
theorem v4_0 (lo : Nat) (p : Option Addr) (x : UInt8) (w : World) (hl : lo < 18446744073709551616) (hx : (lo : Int) / 16777216 % 256 = x.toNat) :
    Calls Tryd.prog 78 #[addrV 0 lo p, .int .u8 0] w fun e w' => e = .returned (.int .u8 (x.toNat : Int)) ∧ Below w.heap.size w w' := by
  have hB : Hid (∀ o1, Below w.heap.size w (w.alloc o1)) := hide (fun o1 => (Below.refl _ _).alloc (Nat.le_refl _) _)
  have h1 : (lo : Int) < 18446744073709551616 := by omega
  have h2 : (0 : Int) ≤ (lo : Int) := by omega
  have Hx := hide hx
  clear hx
  unfold addrV
  go_enter Tryd.func78, Tryd.ntmps78
  go_wp2_with fail
  go_ret
  rw [← Hx.out]
  exact ⟨rfl, hB.out _⟩
set_option maxRecDepth 100000 in
set_option maxHeartbeats 800000 in
theorem v4_1 (lo : Nat) (p : Option Addr) (x : UInt8) (w : World) (hl : lo < 18446744073709551616) (hx : (lo : Int) / 65536 % 256 = x.toNat) :
    Calls Tryd.prog 78 #[addrV 0 lo p, .int .u8 1] w fun e w' => e = .returned (.int .u8 (x.toNat : Int)) ∧ Below w.heap.size w w' := by
  have hB : Hid (∀ o1, Below w.heap.size w (w.alloc o1)) := hide (fun o1 => (Below.refl _ _).alloc (Nat.le_refl _) _)
  have h1 : (lo : Int) < 18446744073709551616 := by omega
  have h2 : (0 : Int) ≤ (lo : Int) := by omega
  have Hx := hide hx
  clear hx
  unfold addrV
  go_enter Tryd.func78, Tryd.ntmps78
  go_wp2_with fail
  go_ret
  rw [← Hx.out]
  exact ⟨rfl, hB.out _⟩
set_option maxRecDepth 100000 in
set_option maxHeartbeats 800000 in
theorem v4_2 (lo : Nat) (p : Option Addr) (x : UInt8) (w : World) (hl : lo < 18446744073709551616) (hx : (lo : Int) / 256 % 256 = x.toNat) :
    Calls Tryd.prog 78 #[addrV 0 lo p, .int .u8 2] w fun e w' => e = .returned (.int .u8 (x.toNat : Int)) ∧ Below w.heap.size w w' := by
  have hB : Hid (∀ o1, Below w.heap.size w (w.alloc o1)) := hide (fun o1 => (Below.refl _ _).alloc (Nat.le_refl _) _)
  have h1 : (lo : Int) < 18446744073709551616 := by omega
  have h2 : (0 : Int) ≤ (lo : Int) := by omega
  have Hx := hide hx
  clear hx
  unfold addrV
  go_enter Tryd.func78, Tryd.ntmps78
  go_wp2_with fail
  go_ret
  rw [← Hx.out]
  exact ⟨rfl, hB.out _⟩
set_option maxRecDepth 100000 in
set_option maxHeartbeats 800000 in
theorem v4_3 (lo : Nat) (p : Option Addr) (x : UInt8) (w : World) (hl : lo < 18446744073709551616) (hx : (lo : Int) % 256 = x.toNat) :
    Calls Tryd.prog 78 #[addrV 0 lo p, .int .u8 3] w fun e w' => e = .returned (.int .u8 (x.toNat : Int)) ∧ Below w.heap.size w w' := by
  have hB : Hid (∀ o1, Below w.heap.size w (w.alloc o1)) := hide (fun o1 => (Below.refl _ _).alloc (Nat.le_refl _) _)
  have h1 : (lo : Int) < 18446744073709551616 := by omega
  have h2 : (0 : Int) ≤ (lo : Int) := by omega
  have Hx := hide hx
  clear hx
  unfold addrV
  go_enter Tryd.func78, Tryd.ntmps78
  go_wp2_with fail
  go_ret
  rw [← Hx.out]
  exact ⟨rfl, hB.out _⟩
end Go.Proofs.YtmfcgglgolajnaaDoor
/-
  The contract of Addr.appendTo4. (Written by wip/to4a.py.)
-/
namespace Go.Proofs.YtmfcgglgolajnaaDoor
open Go.RowKit
set_option linter.unusedVariables false

theorem dotsL4 (a b c d : UInt8) (L : List UInt8) : L ++ dotsL [a, b, c, d] = ((((((L ++ decL a.toNat) ++ [46]) ++ decL b.toNat) ++ [46]) ++ decL c.toNat) ++ [46]) ++ decL d.toNat := by
  unfold dotsL; simp [joinL, List.append_assoc]
/-- The row's block is none that was made behind it. -/
theorem moved_ne {base : Nat} {bs : List UInt8} {v v' : Value} {w w0 : World} {g : Nat} (ho : Own base bs v w) (hm : Moved v v' w0) (h1 : w.heap.size ≤ g) (h2 : g < w0.heap.size) : ¬ rowOf v' g := by
  intro e
  rcases hm g e with h | h
  · have := (ho.lt g h).2; omega
  · omega

set_option maxRecDepth 100000 in
set_option maxHeartbeats 3200000 in
theorem to4a_any (base : Nat) (a b c d : UInt8) (p : Option Addr) (L0 : List UInt8) (v : Value) (w : World) (ho : Own base L0 v w) (hb : base ≤ w.heap.size) (hl0 : L0.length ≤ 900) :
    Calls Tryd.prog 64 #[addrV 0 (lo4 a b c d) p, v] w (AppR base v w (L0 ++ dotsL [a, b, c, d])) := by
  obtain ⟨i0, hi, hz0, hz1, hz2⟩ := info_parts byte_info
  have Ho := hide ho
  obtain ⟨hx0, hx1, hx2, hx3⟩ := lo4_parts a b c d
  have hlt := lo4_lt a b c d
  have H0 := hide (fun W => v4_0 (lo4 a b c d) p a W hlt hx0)
  have H1 := hide (fun W => v4_1 (lo4 a b c d) p b W hlt hx1)
  have H2 := hide (fun W => v4_2 (lo4 a b c d) p c W hlt hx2)
  have H3 := hide (fun W => v4_3 (lo4 a b c d) p d W hlt hx3)
  have Hd := hide (dotsL4 a b c d L0)
  have l0 := decL_length_le (n := a.toNat) (k := 2) (by have := a.toNat_lt; omega)
  have l1 := decL_length_le (n := b.toNat) (k := 2) (by have := b.toNat_lt; omega)
  have l2 := decL_length_le (n := c.toNat) (k := 2) (by have := c.toNat_lt; omega)
  have l3 := decL_length_le (n := d.toNat) (k := 2) (by have := d.toNat_lt; omega)
  generalize lo4 a b c d = lo at *
  clear hx0 hx1 hx2 hx3 hlt ho
  unfold addrV at *
  rw [show ((0 : Nat) : Int) = (0 : Int) from rfl] at *
  go_enter Tryd.func64, Tryd.ntmps64
  go_wp2_with fail
  generalize hW : w.alloc (.cells #[.int .u64 0, .int .u64 (lo : Int), .pointer p] 89) = w0 at *
  have hbx : Blk w0 w.heap.size 89 [.int .u64 0, .int .u64 (lo : Int), .pointer p] := by rw [← hW]; exact Blk.new w _ _
  have hsz : w0.heap.size = w.heap.size + 1 := by rw [← hW]; simp
  have Hbx := hide hbx
  have Hg0 : Hid (Grew v w w0) := hide (by rw [← hW]; exact Grew.of_below ((Below.refl _ _).alloc (Nat.le_refl _) _))
  have Ho0 : Hid (Own base L0 v w0) := hide (by rw [← hW]; exact Ho.out.alloc _)
  have Gr0 := hide (Grew.refl v w0)
  have Mo0 := hide (Moved.refl v w0)
  have Hb0 : Hid (base ≤ w0.heap.size) := hide (by omega)
  clear hW hbx
  with_reducible refine (H0.out w0).mono ?_
  rintro e w1 ⟨rfl, hb1⟩
  have Ho1 := hide (Ho0.out.below hb1)
  have Gr1 := hide (Gr0.out.trans (Moved.refl v w0) (Grew.of_below (v := v) hb1))
  have Mo1 : Hid (Moved v v w0) := hide Mo0.out
  have Hb1 : Hid (base ≤ w1.heap.size) := hide (Nat.le_trans Hb0.out hb1.size)
  have Hap := hide (appDec_any base a L0 v w1 Ho1.out Hb1.out (by omega))
  clear hb1
  go_wp2_with fail
  with_reducible refine Hap.out.mono ?_
  rintro e w2 ⟨v2, rfl, y1, y2, y3⟩
  obtain ⟨L2, hL2⟩ : ∃ L, L = L0 ++ decL a.toNat := ⟨_, rfl⟩
  have hl2 : L2.length ≤ 903 := by rw [hL2, List.length_append]; omega
  rw [← hL2] at y1
  have HL2 := hide hL2
  have Ho2 := hide y1
  have Mo2 := hide (Mo1.out.trans y3 Gr1.out.kept.1)
  have Gr2 := hide (Gr1.out.trans Mo1.out y2)
  have Hb2 : Hid (base ≤ w2.heap.size) := hide (Nat.le_trans Hb1.out y2.kept.1)
  clear y1 y2 y3 hL2 hl0 Hap
  have Ha2 := hide (Ho2.out.alloc (.cells #[.int .u8 46] 5))
  have hw2 : base ≤ w2.heap.size := Hb2.out
  go_wp2_with (at_builtin; refine wpList_append_rd _ rfl (.tmp 9) (.tmp 10) _ rfl base 5 i0 _ 1 Tryd.underlying22 hi hz0 hz1 hz2 rfl _ L2.length _ rfl Ha2.out no (some ⟨w2.heap.size, 0, none⟩) 1 1 [.int .u8 46] rfl ?p1 ?p2 ?p3 ?p4 ?p5 ?_)
  case p1 => exact Rd.one w2 _ _ no (fun h => h)
  case p2 => first | rfl | (intro u hu; simp at hu; subst hu; rfl)
  case p3 => unfold maxLen; omega
  case p4 => omega
  case p5 => first | omega | (simp; omega)
  intro v3 w3 y1 y2 y3
  obtain ⟨z1, z2, z3⟩ := push_step (x := 46) y1 y2 y3
  obtain ⟨L3, hL3⟩ : ∃ L, L = L2 ++ [(46 : UInt8)] := ⟨_, rfl⟩
  have hl3 : L3.length ≤ 904 := by rw [hL3, List.length_append]; simp; omega
  rw [← hL3] at z1
  have HL3 := hide hL3
  have Ho3 := hide z1
  have Mo3 := hide (Mo2.out.trans z3 Gr2.out.kept.1)
  have Gr3 := hide (Gr2.out.trans Mo2.out z2)
  have Hb3 : Hid (base ≤ w3.heap.size) := hide (Nat.le_trans Hb2.out z2.kept.1)
  clear y1 y2 y3 z1 z2 z3 Ha2 hw2 hL3 hl2
  have hbk3 := Gr3.out.blk Hbx.out (moved_ne Ho.out (Moved.refl v w0) (Nat.le_refl _) (by omega))
  have c0 : w3.cell? ⟨w.heap.size, 0, none⟩ = some (.int .u64 0) := hbk3.cell 0
  have c1 : w3.cell? ⟨w.heap.size, 1, none⟩ = some (.int .u64 (lo : Int)) := hbk3.cell 1
  have c2 : w3.cell? ⟨w.heap.size, 2, none⟩ = some (.pointer p) := hbk3.cell 2
  clear hbk3
  go_wp2_with fail
  with_reducible refine (H1.out w3).mono ?_
  rintro e w4 ⟨rfl, hb4⟩
  have Ho4 := hide (Ho3.out.below hb4)
  have Gr4 := hide (Gr3.out.trans (Moved.refl v w0) (Grew.of_below (v := v) hb4))
  have Mo4 : Hid (Moved v v3 w0) := hide Mo3.out
  have Hb4 : Hid (base ≤ w4.heap.size) := hide (Nat.le_trans Hb3.out hb4.size)
  have Hap := hide (appDec_any base b L3 v3 w4 Ho4.out Hb4.out (by omega))
  clear hb4 c0 c1 c2
  go_wp2_with fail
  with_reducible refine Hap.out.mono ?_
  rintro e w5 ⟨v5, rfl, y1, y2, y3⟩
  obtain ⟨L5, hL5⟩ : ∃ L, L = L3 ++ decL b.toNat := ⟨_, rfl⟩
  have hl5 : L5.length ≤ 907 := by rw [hL5, List.length_append]; omega
  rw [← hL5] at y1
  have HL5 := hide hL5
  have Ho5 := hide y1
  have Mo5 := hide (Mo4.out.trans y3 Gr4.out.kept.1)
  have Gr5 := hide (Gr4.out.trans Mo4.out y2)
  have Hb5 : Hid (base ≤ w5.heap.size) := hide (Nat.le_trans Hb4.out y2.kept.1)
  clear y1 y2 y3 hL5 hl3 Hap
  have Ha5 := hide (Ho5.out.alloc (.cells #[.int .u8 46] 5))
  have hw5 : base ≤ w5.heap.size := Hb5.out
  go_wp2_with (at_builtin; refine wpList_append_rd _ rfl (.tmp 16) (.tmp 17) _ rfl base 5 i0 _ 1 Tryd.underlying22 hi hz0 hz1 hz2 rfl _ L5.length _ rfl Ha5.out no (some ⟨w5.heap.size, 0, none⟩) 1 1 [.int .u8 46] rfl ?p1 ?p2 ?p3 ?p4 ?p5 ?_)
  case p1 => exact Rd.one w5 _ _ no (fun h => h)
  case p2 => first | rfl | (intro u hu; simp at hu; subst hu; rfl)
  case p3 => unfold maxLen; omega
  case p4 => omega
  case p5 => first | omega | (simp; omega)
  intro v6 w6 y1 y2 y3
  obtain ⟨z1, z2, z3⟩ := push_step (x := 46) y1 y2 y3
  obtain ⟨L6, hL6⟩ : ∃ L, L = L5 ++ [(46 : UInt8)] := ⟨_, rfl⟩
  have hl6 : L6.length ≤ 908 := by rw [hL6, List.length_append]; simp; omega
  rw [← hL6] at z1
  have HL6 := hide hL6
  have Ho6 := hide z1
  have Mo6 := hide (Mo5.out.trans z3 Gr5.out.kept.1)
  have Gr6 := hide (Gr5.out.trans Mo5.out z2)
  have Hb6 : Hid (base ≤ w6.heap.size) := hide (Nat.le_trans Hb5.out z2.kept.1)
  clear y1 y2 y3 z1 z2 z3 Ha5 hw5 hL6 hl5
  have hbk6 := Gr6.out.blk Hbx.out (moved_ne Ho.out (Moved.refl v w0) (Nat.le_refl _) (by omega))
  have c0 : w6.cell? ⟨w.heap.size, 0, none⟩ = some (.int .u64 0) := hbk6.cell 0
  have c1 : w6.cell? ⟨w.heap.size, 1, none⟩ = some (.int .u64 (lo : Int)) := hbk6.cell 1
  have c2 : w6.cell? ⟨w.heap.size, 2, none⟩ = some (.pointer p) := hbk6.cell 2
  clear hbk6
  go_wp2_with fail
  with_reducible refine (H2.out w6).mono ?_
  rintro e w7 ⟨rfl, hb7⟩
  have Ho7 := hide (Ho6.out.below hb7)
  have Gr7 := hide (Gr6.out.trans (Moved.refl v w0) (Grew.of_below (v := v) hb7))
  have Mo7 : Hid (Moved v v6 w0) := hide Mo6.out
  have Hb7 : Hid (base ≤ w7.heap.size) := hide (Nat.le_trans Hb6.out hb7.size)
  have Hap := hide (appDec_any base c L6 v6 w7 Ho7.out Hb7.out (by omega))
  clear hb7 c0 c1 c2
  go_wp2_with fail
  with_reducible refine Hap.out.mono ?_
  rintro e w8 ⟨v8, rfl, y1, y2, y3⟩
  obtain ⟨L8, hL8⟩ : ∃ L, L = L6 ++ decL c.toNat := ⟨_, rfl⟩
  have hl8 : L8.length ≤ 911 := by rw [hL8, List.length_append]; omega
  rw [← hL8] at y1
  have HL8 := hide hL8
  have Ho8 := hide y1
  have Mo8 := hide (Mo7.out.trans y3 Gr7.out.kept.1)
  have Gr8 := hide (Gr7.out.trans Mo7.out y2)
  have Hb8 : Hid (base ≤ w8.heap.size) := hide (Nat.le_trans Hb7.out y2.kept.1)
  clear y1 y2 y3 hL8 hl6 Hap
  have Ha8 := hide (Ho8.out.alloc (.cells #[.int .u8 46] 5))
  have hw8 : base ≤ w8.heap.size := Hb8.out
  go_wp2_with (at_builtin; refine wpList_append_rd _ rfl (.tmp 23) (.tmp 24) _ rfl base 5 i0 _ 1 Tryd.underlying22 hi hz0 hz1 hz2 rfl _ L8.length _ rfl Ha8.out no (some ⟨w8.heap.size, 0, none⟩) 1 1 [.int .u8 46] rfl ?p1 ?p2 ?p3 ?p4 ?p5 ?_)
  case p1 => exact Rd.one w8 _ _ no (fun h => h)
  case p2 => first | rfl | (intro u hu; simp at hu; subst hu; rfl)
  case p3 => unfold maxLen; omega
  case p4 => omega
  case p5 => first | omega | (simp; omega)
  intro v9 w9 y1 y2 y3
  obtain ⟨z1, z2, z3⟩ := push_step (x := 46) y1 y2 y3
  obtain ⟨L9, hL9⟩ : ∃ L, L = L8 ++ [(46 : UInt8)] := ⟨_, rfl⟩
  have hl9 : L9.length ≤ 912 := by rw [hL9, List.length_append]; simp; omega
  rw [← hL9] at z1
  have HL9 := hide hL9
  have Ho9 := hide z1
  have Mo9 := hide (Mo8.out.trans z3 Gr8.out.kept.1)
  have Gr9 := hide (Gr8.out.trans Mo8.out z2)
  have Hb9 : Hid (base ≤ w9.heap.size) := hide (Nat.le_trans Hb8.out z2.kept.1)
  clear y1 y2 y3 z1 z2 z3 Ha8 hw8 hL9 hl8
  have hbk9 := Gr9.out.blk Hbx.out (moved_ne Ho.out (Moved.refl v w0) (Nat.le_refl _) (by omega))
  have c0 : w9.cell? ⟨w.heap.size, 0, none⟩ = some (.int .u64 0) := hbk9.cell 0
  have c1 : w9.cell? ⟨w.heap.size, 1, none⟩ = some (.int .u64 (lo : Int)) := hbk9.cell 1
  have c2 : w9.cell? ⟨w.heap.size, 2, none⟩ = some (.pointer p) := hbk9.cell 2
  clear hbk9
  go_wp2_with fail
  with_reducible refine (H3.out w9).mono ?_
  rintro e w10 ⟨rfl, hb10⟩
  have Ho10 := hide (Ho9.out.below hb10)
  have Gr10 := hide (Gr9.out.trans (Moved.refl v w0) (Grew.of_below (v := v) hb10))
  have Mo10 : Hid (Moved v v9 w0) := hide Mo9.out
  have Hb10 : Hid (base ≤ w10.heap.size) := hide (Nat.le_trans Hb9.out hb10.size)
  have Hap := hide (appDec_any base d L9 v9 w10 Ho10.out Hb10.out (by omega))
  clear hb10 c0 c1 c2
  go_wp2_with fail
  with_reducible refine Hap.out.mono ?_
  rintro e w11 ⟨v11, rfl, y1, y2, y3⟩
  obtain ⟨L11, hL11⟩ : ∃ L, L = L9 ++ decL d.toNat := ⟨_, rfl⟩
  have hl11 : L11.length ≤ 915 := by rw [hL11, List.length_append]; omega
  rw [← hL11] at y1
  have HL11 := hide hL11
  have Ho11 := hide y1
  have Mo11 := hide (Mo10.out.trans y3 Gr10.out.kept.1)
  have Gr11 := hide (Gr10.out.trans Mo10.out y2)
  have Hb11 : Hid (base ≤ w11.heap.size) := hide (Nat.le_trans Hb10.out y2.kept.1)
  clear y1 y2 y3 hL11 hl9 Hap
  go_wp2_with fail
  go_ret
  refine ⟨v11, rfl, ?_, Hg0.out.trans (Moved.refl v w) Gr11.out, ?_⟩
  · rw [Hd.out, ← HL2.out, ← HL3.out, ← HL5.out, ← HL6.out, ← HL8.out, ← HL9.out, ← HL11.out]; exact Ho11.out
  · intro g hg
    rcases Mo11.out g hg with h | h
    · exact Or.inl h
    · exact Or.inr (by omega)
end Go.Proofs.YtmfcgglgolajnaaDoor
/-
  The contract of netip.appendHex. (Written by wip/appd.py.)
-/
namespace Go.Proofs.YtmfcgglgolajnaaDoor
open Go.RowKit
set_option linter.unusedVariables false

theorem and15 (m : Nat) (hm : m < 65536) : bits .and .u16 (m : Int) 15 = ((m % 16 : Nat) : Int) := by
  have h1 : (BitVec.ofInt 16 (m : Int)).toNat = m := by
    rw [BitVec.toNat_ofInt]
    have : ((m : Int) % ((2 ^ 16 : Nat) : Int)) = m := Int.emod_eq_of_lt (by omega) (by omega)
    rw [this]; rfl
  have h2 : (BitVec.ofInt 16 15).toNat = 15 := by decide
  show IntKind.wrap .u16 (((BitVec.ofInt 16 (m : Int) &&& BitVec.ofInt 16 15).toNat : Nat) : Int) = _
  rw [BitVec.toNat_and, h1, h2, Nat.and_two_pow_sub_one_eq_mod m 4, IntKind.wrap_u16]
  omega

set_option maxRecDepth 100000 in
set_option maxHeartbeats 1600000 in
theorem appHex_any (base : Nat) (x : Nat) (hx : x < 65536) (L0 : List UInt8) (v : Value) (w : World) (ho : Own base L0 v w) (hb : base ≤ w.heap.size) (hl0 : L0.length ≤ 1000) :
    Calls Tryd.prog 82 #[v, .int .u16 (x : Int)] w (AppR base v w (L0 ++ hexL x)) := by
  obtain ⟨i0, hi, hz0, hz1, hz2⟩ := info_parts byte_info
  have Ho0 := hide ho
  have Gr0 := hide (Grew.refl v w)
  have Mo0 := hide (Moved.refl v w)
  have Hb0 := hide hb
  have Hq : Hid (∃ q1 q2 q3 q4 : Nat, q1 < 16 ∧ q2 < 16 ∧ q3 < 16 ∧ q4 < 16 ∧ (x : Int) / 4096 = (q1 : Int) ∧ bits .and .u16 ((x : Int) / 256) 15 = (q2 : Int) ∧ bits .and .u16 ((x : Int) / 16) 15 = (q3 : Int) ∧ bits .and .u16 (x : Int) 15 = (q4 : Int) ∧ ((x < 16 → hexL x = [hdig q4]) ∧ (¬ x < 16 → x < 256 → hexL x = [hdig q3, hdig q4]) ∧ (¬ x < 256 → x < 4096 → hexL x = [hdig q2, hdig q3, hdig q4]) ∧ (¬ x < 4096 → hexL x = [hdig q1, hdig q2, hdig q3, hdig q4]))) := hide
    ⟨x / 4096, x / 256 % 16, x / 16 % 16, x % 16, by omega, by omega, by omega, by omega, by omega, and15 (x / 256) (by omega), and15 (x / 16) (by omega), and15 x hx, fun h => by rw [hexL_small h, Nat.mod_eq_of_lt h], fun h1 h2 => by rw [hexL_2 h1 h2, Nat.mod_eq_of_lt (show x / 16 < 16 by omega)], fun h1 h2 => by rw [hexL_3 h1 h2, Nat.mod_eq_of_lt (show x / 256 < 16 by omega)], fun h1 => by rw [hexL_4 h1 hx]⟩
  obtain ⟨q1, q2, q3, q4, b1, b2, b3, b4, f1, f2, f3, f4, hd⟩ := Hq.out
  have Hd := hide hd
  have g1 := hex_at b1
  have g2 := hex_at b2
  have g3 := hex_at b3
  have g4 := hex_at b4
  have j1 : (q1 : Int) < 16 := by omega
  have j2 : (q2 : Int) < 16 := by omega
  have j3 : (q3 : Int) < 16 := by omega
  have j4 : (q4 : Int) < 16 := by omega
  clear hd
  generalize hdig q1 = d1 at *
  generalize hdig q2 = d2 at *
  generalize hdig q3 = d3 at *
  generalize hdig q4 = d4 at *
  clear ho Hq
  go_enter Tryd.func82, Tryd.ntmps82
  by_cases h4096 : x < 4096
  · have k4096 : ¬ ((4096 : Int) ≤ (x : Int)) := by omega
    by_cases h256 : x < 256
    · have k256 : ¬ ((256 : Int) ≤ (x : Int)) := by omega
      by_cases h16 : x < 16
      · have k16 : ¬ ((16 : Int) ≤ (x : Int)) := by omega
        have Hfin := hide (Hd.out.1 h16)
        clear h4096 h256 h16
        have Ha0 := hide (Ho0.out.alloc (.cells #[.int .u8 (d4.toNat : Int)] 5))
        have hw0 : base ≤ w.heap.size := Hb0.out
        go_wp2_with (at_builtin; refine wpList_append_rd _ rfl (.tmp 31) (.tmp 35) _ rfl base 5 i0 _ 1 Tryd.underlying22 hi hz0 hz1 hz2 rfl _ L0.length _ rfl Ha0.out no (some ⟨w.heap.size, 0, none⟩) 1 1 [.int .u8 (d4.toNat : Int)] rfl ?p1 ?p2 ?p3 ?p4 ?p5 ?_)
        case p1 => exact Rd.one w _ _ no (fun h => h)
        case p2 => first | rfl | (intro u hu; simp at hu; subst hu; rfl)
        case p3 => unfold maxLen; omega
        case p4 => omega
        case p5 => first | omega | (simp; omega)
        intro v1 w1 y1 y2 y3
        obtain ⟨z1, z2, z3⟩ := push_step y1 y2 y3
        obtain ⟨L1, hL1⟩ : ∃ L, L = L0 ++ [d4] := ⟨_, rfl⟩
        have hl1 : L1.length ≤ 1001 := by rw [hL1, List.length_append]; simp; omega
        rw [← hL1] at z1
        have HL1 := hide hL1
        have Ho1 := hide z1
        have Gr1 := hide (Gr0.out.trans Mo0.out z2)
        have Mo1 := hide (Mo0.out.trans z3 Gr0.out.kept.1)
        have Hb1 : Hid (base ≤ w1.heap.size) := hide (Nat.le_trans Hb0.out z2.kept.1)
        clear y1 y2 y3 z1 z2 z3 Ha0 hw0 hL1 hl0
        go_wp2_with fail
        go_ret
        exact ⟨v1, rfl, by rw [Hfin.out, ← HL1.out]; exact Ho1.out, Gr1.out, Mo1.out⟩
      · have k16 : (16 : Int) ≤ (x : Int) := by omega
        have Hfin := hide (Hd.out.2.1 h16 h256)
        clear h4096 h256 h16
        have Ha0 := hide (Ho0.out.alloc (.cells #[.int .u8 (d3.toNat : Int)] 5))
        have hw0 : base ≤ w.heap.size := Hb0.out
        go_wp2_with (at_builtin; refine wpList_append_rd _ rfl (.tmp 24) (.tmp 29) _ rfl base 5 i0 _ 1 Tryd.underlying22 hi hz0 hz1 hz2 rfl _ L0.length _ rfl Ha0.out no (some ⟨w.heap.size, 0, none⟩) 1 1 [.int .u8 (d3.toNat : Int)] rfl ?p1 ?p2 ?p3 ?p4 ?p5 ?_)
        case p1 => exact Rd.one w _ _ no (fun h => h)
        case p2 => first | rfl | (intro u hu; simp at hu; subst hu; rfl)
        case p3 => unfold maxLen; omega
        case p4 => omega
        case p5 => first | omega | (simp; omega)
        intro v1 w1 y1 y2 y3
        obtain ⟨z1, z2, z3⟩ := push_step y1 y2 y3
        obtain ⟨L1, hL1⟩ : ∃ L, L = L0 ++ [d3] := ⟨_, rfl⟩
        have hl1 : L1.length ≤ 1001 := by rw [hL1, List.length_append]; simp; omega
        rw [← hL1] at z1
        have HL1 := hide hL1
        have Ho1 := hide z1
        have Gr1 := hide (Gr0.out.trans Mo0.out z2)
        have Mo1 := hide (Mo0.out.trans z3 Gr0.out.kept.1)
        have Hb1 : Hid (base ≤ w1.heap.size) := hide (Nat.le_trans Hb0.out z2.kept.1)
        clear y1 y2 y3 z1 z2 z3 Ha0 hw0 hL1 hl0
        have Ha1 := hide (Ho1.out.alloc (.cells #[.int .u8 (d4.toNat : Int)] 5))
        have hw1 : base ≤ w1.heap.size := Hb1.out
        go_wp2_with (at_builtin; refine wpList_append_rd _ rfl (.tmp 31) (.tmp 35) _ rfl base 5 i0 _ 1 Tryd.underlying22 hi hz0 hz1 hz2 rfl _ L1.length _ rfl Ha1.out no (some ⟨w1.heap.size, 0, none⟩) 1 1 [.int .u8 (d4.toNat : Int)] rfl ?p1 ?p2 ?p3 ?p4 ?p5 ?_)
        case p1 => exact Rd.one w1 _ _ no (fun h => h)
        case p2 => first | rfl | (intro u hu; simp at hu; subst hu; rfl)
        case p3 => unfold maxLen; omega
        case p4 => omega
        case p5 => first | omega | (simp; omega)
        intro v2 w2 y1 y2 y3
        obtain ⟨z1, z2, z3⟩ := push_step y1 y2 y3
        obtain ⟨L2, hL2⟩ : ∃ L, L = L1 ++ [d4] := ⟨_, rfl⟩
        have hl2 : L2.length ≤ 1002 := by rw [hL2, List.length_append]; simp; omega
        rw [← hL2] at z1
        have HL2 := hide hL2
        have Ho2 := hide z1
        have Gr2 := hide (Gr1.out.trans Mo1.out z2)
        have Mo2 := hide (Mo1.out.trans z3 Gr1.out.kept.1)
        have Hb2 : Hid (base ≤ w2.heap.size) := hide (Nat.le_trans Hb1.out z2.kept.1)
        clear y1 y2 y3 z1 z2 z3 Ha1 hw1 hL2 hl1
        go_wp2_with fail
        go_ret
        exact ⟨v2, rfl, by rw [Hfin.out, show [d3, d4] = [d3] ++ [d4] from rfl, ← List.append_assoc, ← HL1.out, ← HL2.out]; exact Ho2.out, Gr2.out, Mo2.out⟩
    · have k256 : (256 : Int) ≤ (x : Int) := by omega
      have k16 : (16 : Int) ≤ (x : Int) := by omega
      have Hfin := hide (Hd.out.2.2.1 h256 h4096)
      clear h4096 h256
      have Ha0 := hide (Ho0.out.alloc (.cells #[.int .u8 (d2.toNat : Int)] 5))
      have hw0 : base ≤ w.heap.size := Hb0.out
      go_wp2_with (at_builtin; refine wpList_append_rd _ rfl (.tmp 15) (.tmp 20) _ rfl base 5 i0 _ 1 Tryd.underlying22 hi hz0 hz1 hz2 rfl _ L0.length _ rfl Ha0.out no (some ⟨w.heap.size, 0, none⟩) 1 1 [.int .u8 (d2.toNat : Int)] rfl ?p1 ?p2 ?p3 ?p4 ?p5 ?_)
      case p1 => exact Rd.one w _ _ no (fun h => h)
      case p2 => first | rfl | (intro u hu; simp at hu; subst hu; rfl)
      case p3 => unfold maxLen; omega
      case p4 => omega
      case p5 => first | omega | (simp; omega)
      intro v1 w1 y1 y2 y3
      obtain ⟨z1, z2, z3⟩ := push_step y1 y2 y3
      obtain ⟨L1, hL1⟩ : ∃ L, L = L0 ++ [d2] := ⟨_, rfl⟩
      have hl1 : L1.length ≤ 1001 := by rw [hL1, List.length_append]; simp; omega
      rw [← hL1] at z1
      have HL1 := hide hL1
      have Ho1 := hide z1
      have Gr1 := hide (Gr0.out.trans Mo0.out z2)
      have Mo1 := hide (Mo0.out.trans z3 Gr0.out.kept.1)
      have Hb1 : Hid (base ≤ w1.heap.size) := hide (Nat.le_trans Hb0.out z2.kept.1)
      clear y1 y2 y3 z1 z2 z3 Ha0 hw0 hL1 hl0
      have Ha1 := hide (Ho1.out.alloc (.cells #[.int .u8 (d3.toNat : Int)] 5))
      have hw1 : base ≤ w1.heap.size := Hb1.out
      go_wp2_with (at_builtin; refine wpList_append_rd _ rfl (.tmp 24) (.tmp 29) _ rfl base 5 i0 _ 1 Tryd.underlying22 hi hz0 hz1 hz2 rfl _ L1.length _ rfl Ha1.out no (some ⟨w1.heap.size, 0, none⟩) 1 1 [.int .u8 (d3.toNat : Int)] rfl ?p1 ?p2 ?p3 ?p4 ?p5 ?_)
      case p1 => exact Rd.one w1 _ _ no (fun h => h)
      case p2 => first | rfl | (intro u hu; simp at hu; subst hu; rfl)
      case p3 => unfold maxLen; omega
      case p4 => omega
      case p5 => first | omega | (simp; omega)
      intro v2 w2 y1 y2 y3
      obtain ⟨z1, z2, z3⟩ := push_step y1 y2 y3
      obtain ⟨L2, hL2⟩ : ∃ L, L = L1 ++ [d3] := ⟨_, rfl⟩
      have hl2 : L2.length ≤ 1002 := by rw [hL2, List.length_append]; simp; omega
      rw [← hL2] at z1
      have HL2 := hide hL2
      have Ho2 := hide z1
      have Gr2 := hide (Gr1.out.trans Mo1.out z2)
      have Mo2 := hide (Mo1.out.trans z3 Gr1.out.kept.1)
      have Hb2 : Hid (base ≤ w2.heap.size) := hide (Nat.le_trans Hb1.out z2.kept.1)
      clear y1 y2 y3 z1 z2 z3 Ha1 hw1 hL2 hl1
      have Ha2 := hide (Ho2.out.alloc (.cells #[.int .u8 (d4.toNat : Int)] 5))
      have hw2 : base ≤ w2.heap.size := Hb2.out
      go_wp2_with (at_builtin; refine wpList_append_rd _ rfl (.tmp 31) (.tmp 35) _ rfl base 5 i0 _ 1 Tryd.underlying22 hi hz0 hz1 hz2 rfl _ L2.length _ rfl Ha2.out no (some ⟨w2.heap.size, 0, none⟩) 1 1 [.int .u8 (d4.toNat : Int)] rfl ?p1 ?p2 ?p3 ?p4 ?p5 ?_)
      case p1 => exact Rd.one w2 _ _ no (fun h => h)
      case p2 => first | rfl | (intro u hu; simp at hu; subst hu; rfl)
      case p3 => unfold maxLen; omega
      case p4 => omega
      case p5 => first | omega | (simp; omega)
      intro v3 w3 y1 y2 y3
      obtain ⟨z1, z2, z3⟩ := push_step y1 y2 y3
      obtain ⟨L3, hL3⟩ : ∃ L, L = L2 ++ [d4] := ⟨_, rfl⟩
      have hl3 : L3.length ≤ 1003 := by rw [hL3, List.length_append]; simp; omega
      rw [← hL3] at z1
      have HL3 := hide hL3
      have Ho3 := hide z1
      have Gr3 := hide (Gr2.out.trans Mo2.out z2)
      have Mo3 := hide (Mo2.out.trans z3 Gr2.out.kept.1)
      have Hb3 : Hid (base ≤ w3.heap.size) := hide (Nat.le_trans Hb2.out z2.kept.1)
      clear y1 y2 y3 z1 z2 z3 Ha2 hw2 hL3 hl2
      go_wp2_with fail
      go_ret
      exact ⟨v3, rfl, by rw [Hfin.out, show [d2, d3, d4] = [d2] ++ [d3] ++ [d4] from rfl, ← List.append_assoc, ← List.append_assoc, ← HL1.out, ← HL2.out, ← HL3.out]; exact Ho3.out, Gr3.out, Mo3.out⟩
  · have k4096 : (4096 : Int) ≤ (x : Int) := by omega
    have k256 : (256 : Int) ≤ (x : Int) := by omega
    have k16 : (16 : Int) ≤ (x : Int) := by omega
    have Hfin := hide (Hd.out.2.2.2 h4096)
    clear h4096
    have Ha0 := hide (Ho0.out.alloc (.cells #[.int .u8 (d1.toNat : Int)] 5))
    have hw0 : base ≤ w.heap.size := Hb0.out
    go_wp2_with (at_builtin; refine wpList_append_rd _ rfl (.tmp 7) (.tmp 11) _ rfl base 5 i0 _ 1 Tryd.underlying22 hi hz0 hz1 hz2 rfl _ L0.length _ rfl Ha0.out no (some ⟨w.heap.size, 0, none⟩) 1 1 [.int .u8 (d1.toNat : Int)] rfl ?p1 ?p2 ?p3 ?p4 ?p5 ?_)
    case p1 => exact Rd.one w _ _ no (fun h => h)
    case p2 => first | rfl | (intro u hu; simp at hu; subst hu; rfl)
    case p3 => unfold maxLen; omega
    case p4 => omega
    case p5 => first | omega | (simp; omega)
    intro v1 w1 y1 y2 y3
    obtain ⟨z1, z2, z3⟩ := push_step y1 y2 y3
    obtain ⟨L1, hL1⟩ : ∃ L, L = L0 ++ [d1] := ⟨_, rfl⟩
    have hl1 : L1.length ≤ 1001 := by rw [hL1, List.length_append]; simp; omega
    rw [← hL1] at z1
    have HL1 := hide hL1
    have Ho1 := hide z1
    have Gr1 := hide (Gr0.out.trans Mo0.out z2)
    have Mo1 := hide (Mo0.out.trans z3 Gr0.out.kept.1)
    have Hb1 : Hid (base ≤ w1.heap.size) := hide (Nat.le_trans Hb0.out z2.kept.1)
    clear y1 y2 y3 z1 z2 z3 Ha0 hw0 hL1 hl0
    have Ha1 := hide (Ho1.out.alloc (.cells #[.int .u8 (d2.toNat : Int)] 5))
    have hw1 : base ≤ w1.heap.size := Hb1.out
    go_wp2_with (at_builtin; refine wpList_append_rd _ rfl (.tmp 15) (.tmp 20) _ rfl base 5 i0 _ 1 Tryd.underlying22 hi hz0 hz1 hz2 rfl _ L1.length _ rfl Ha1.out no (some ⟨w1.heap.size, 0, none⟩) 1 1 [.int .u8 (d2.toNat : Int)] rfl ?p1 ?p2 ?p3 ?p4 ?p5 ?_)
    case p1 => exact Rd.one w1 _ _ no (fun h => h)
    case p2 => first | rfl | (intro u hu; simp at hu; subst hu; rfl)
    case p3 => unfold maxLen; omega
    case p4 => omega
    case p5 => first | omega | (simp; omega)
    intro v2 w2 y1 y2 y3
    obtain ⟨z1, z2, z3⟩ := push_step y1 y2 y3
    obtain ⟨L2, hL2⟩ : ∃ L, L = L1 ++ [d2] := ⟨_, rfl⟩
    have hl2 : L2.length ≤ 1002 := by rw [hL2, List.length_append]; simp; omega
    rw [← hL2] at z1
    have HL2 := hide hL2
    have Ho2 := hide z1
    have Gr2 := hide (Gr1.out.trans Mo1.out z2)
    have Mo2 := hide (Mo1.out.trans z3 Gr1.out.kept.1)
    have Hb2 : Hid (base ≤ w2.heap.size) := hide (Nat.le_trans Hb1.out z2.kept.1)
    clear y1 y2 y3 z1 z2 z3 Ha1 hw1 hL2 hl1
    have Ha2 := hide (Ho2.out.alloc (.cells #[.int .u8 (d3.toNat : Int)] 5))
    have hw2 : base ≤ w2.heap.size := Hb2.out
    go_wp2_with (at_builtin; refine wpList_append_rd _ rfl (.tmp 24) (.tmp 29) _ rfl base 5 i0 _ 1 Tryd.underlying22 hi hz0 hz1 hz2 rfl _ L2.length _ rfl Ha2.out no (some ⟨w2.heap.size, 0, none⟩) 1 1 [.int .u8 (d3.toNat : Int)] rfl ?p1 ?p2 ?p3 ?p4 ?p5 ?_)
    case p1 => exact Rd.one w2 _ _ no (fun h => h)
    case p2 => first | rfl | (intro u hu; simp at hu; subst hu; rfl)
    case p3 => unfold maxLen; omega
    case p4 => omega
    case p5 => first | omega | (simp; omega)
    intro v3 w3 y1 y2 y3
    obtain ⟨z1, z2, z3⟩ := push_step y1 y2 y3
    obtain ⟨L3, hL3⟩ : ∃ L, L = L2 ++ [d3] := ⟨_, rfl⟩
    have hl3 : L3.length ≤ 1003 := by rw [hL3, List.length_append]; simp; omega
    rw [← hL3] at z1
    have HL3 := hide hL3
    have Ho3 := hide z1
    have Gr3 := hide (Gr2.out.trans Mo2.out z2)
    have Mo3 := hide (Mo2.out.trans z3 Gr2.out.kept.1)
    have Hb3 : Hid (base ≤ w3.heap.size) := hide (Nat.le_trans Hb2.out z2.kept.1)
    clear y1 y2 y3 z1 z2 z3 Ha2 hw2 hL3 hl2
    have Ha3 := hide (Ho3.out.alloc (.cells #[.int .u8 (d4.toNat : Int)] 5))
    have hw3 : base ≤ w3.heap.size := Hb3.out
    go_wp2_with (at_builtin; refine wpList_append_rd _ rfl (.tmp 31) (.tmp 35) _ rfl base 5 i0 _ 1 Tryd.underlying22 hi hz0 hz1 hz2 rfl _ L3.length _ rfl Ha3.out no (some ⟨w3.heap.size, 0, none⟩) 1 1 [.int .u8 (d4.toNat : Int)] rfl ?p1 ?p2 ?p3 ?p4 ?p5 ?_)
    case p1 => exact Rd.one w3 _ _ no (fun h => h)
    case p2 => first | rfl | (intro u hu; simp at hu; subst hu; rfl)
    case p3 => unfold maxLen; omega
    case p4 => omega
    case p5 => first | omega | (simp; omega)
    intro v4 w4 y1 y2 y3
    obtain ⟨z1, z2, z3⟩ := push_step y1 y2 y3
    obtain ⟨L4, hL4⟩ : ∃ L, L = L3 ++ [d4] := ⟨_, rfl⟩
    have hl4 : L4.length ≤ 1004 := by rw [hL4, List.length_append]; simp; omega
    rw [← hL4] at z1
    have HL4 := hide hL4
    have Ho4 := hide z1
    have Gr4 := hide (Gr3.out.trans Mo3.out z2)
    have Mo4 := hide (Mo3.out.trans z3 Gr3.out.kept.1)
    have Hb4 : Hid (base ≤ w4.heap.size) := hide (Nat.le_trans Hb3.out z2.kept.1)
    clear y1 y2 y3 z1 z2 z3 Ha3 hw3 hL4 hl3
    go_wp2_with fail
    go_ret
    exact ⟨v4, rfl, by rw [Hfin.out, show [d1, d2, d3, d4] = [d1] ++ [d2] ++ [d3] ++ [d4] from rfl, ← List.append_assoc, ← List.append_assoc, ← List.append_assoc, ← HL1.out, ← HL2.out, ← HL3.out, ← HL4.out]; exact Ho4.out, Gr4.out, Mo4.out⟩
end Go.Proofs.YtmfcgglgolajnaaDoor
/-
  The contracts of uint128.halves and Addr.v6u16. (Written by wip/v6u.py.)
-/
namespace Go.Proofs.YtmfcgglgolajnaaDoor
open Go.RowKit
set_option linter.unusedVariables false

set_option maxRecDepth 100000 in
set_option maxHeartbeats 800000 in
theorem halves_any (g o : Nat) (w : World) :
    Calls Tryd.prog 92 #[.pointer (some ⟨g, o, none⟩)] w fun e w' => e = .returned (.agg #[.pointer (some ⟨g, o, none⟩), .pointer (some ⟨g, o + 1, none⟩)]) ∧ Below w.heap.size w w' := by
  go_enter Tryd.func92, Tryd.ntmps92
  go_wp2_with fail
  generalize hW : w.alloc (.cells #[.pointer none, .pointer none] 131) = W1 at *
  have Hbw : Hid (Below w.heap.size w W1) := hide (by rw [← hW]; exact (Below.refl _ _).alloc (Nat.le_refl _) _)
  have hbk : Blk W1 w.heap.size 131 [.pointer none, .pointer none] := by rw [← hW]; exact Blk.new w _ _
  have d0 : W1.cell? ⟨w.heap.size, 0, none⟩ = some (.pointer none) := hbk.cell 0
  have d1 : W1.cell? ⟨w.heap.size, 1, none⟩ = some (.pointer none) := hbk.cell 1
  have f0 : ∀ i, W1.frozen? ⟨w.heap.size, i, none⟩ = false := fun i => hbk.frozen i
  clear hW hbk
  go_still_tail 7, (by kernel_rfl)
  change wpList _ _ _ _ _ W1.drew
  go_wp2_with fail
  refine bodyPost_ret (v := .agg #[.pointer (some ⟨g, o, none⟩), .pointer (some ⟨g, o + 1, none⟩)]) (by simp [results, Tryd.results92, go_sem, *]) rfl ?_
  refine ⟨rfl, ?_⟩
  refine Below.drew ?_
  iterate 2 refine Below.setCell ?_ (by simp) _
  exact Hbw.out

theorem run_idx0 (a b : Addr) (w : World) : (Instr.index 131 (.agg #[.pointer (some a), .pointer (some b)]) (.int .u8 0)).run Tryd.prog w = .ok (.pointer (some a)) w := by kernel_rfl
theorem run_idx1 (a b : Addr) (w : World) : (Instr.index 131 (.agg #[.pointer (some a), .pointer (some b)]) (.int .u8 1)).run Tryd.prog w = .ok (.pointer (some b)) w := by kernel_rfl

set_option maxRecDepth 100000 in
set_option maxHeartbeats 800000 in
theorem v6u_0 (hi lo r : Nat) (p : Option Addr) (w : World) (h1 : hi < 18446744073709551616) (h2 : lo < 18446744073709551616) (hr : (hi : Int) / 281474976710656 = (r : Int)) :
    Calls Tryd.prog 81 #[addrV hi lo p, .int .u8 0] w fun e w' => e = .returned (.int .u16 (r : Int)) ∧ Below w.heap.size w w' := by
  have i1 : (hi : Int) < 18446744073709551616 := by omega
  have i2 : (lo : Int) < 18446744073709551616 := by omega
  have i3 : (0 : Int) ≤ (hi : Int) := by omega
  have i4 : (0 : Int) ≤ (lo : Int) := by omega
  have Hr := hide hr
  have x0 := run_idx0
  have x1 := run_idx1
  clear hr
  unfold addrV
  go_enter Tryd.func81, Tryd.ntmps81
  go_wp2_with fail
  generalize hW : w.alloc (.cells #[.int .u64 (hi : Int), .int .u64 (lo : Int), .pointer p] 89) = W1 at *
  have Hbw : Hid (Below w.heap.size w W1) := hide (by rw [← hW]; exact (Below.refl _ _).alloc (Nat.le_refl _) _)
  have hbk : Blk W1 w.heap.size 89 [.int .u64 (hi : Int), .int .u64 (lo : Int), .pointer p] := by rw [← hW]; exact Blk.new w _ _
  have Hbk := hide hbk
  have Hc := hide (halves_any w.heap.size 0 W1)
  clear hW hbk
  with_reducible refine Hc.out.mono ?_
  rintro e W2 ⟨rfl, hb2⟩
  have hbk2 := Hbk.out.below hb2
  have c0 : W2.cell? ⟨w.heap.size, 0, none⟩ = some (.int .u64 (hi : Int)) := hbk2.cell 0
  have c1 : W2.cell? ⟨w.heap.size, 0 + 1, none⟩ = some (.int .u64 (lo : Int)) := hbk2.cell 1
  have c2 : W2.cell? ⟨w.heap.size, 1, none⟩ = some (.int .u64 (lo : Int)) := hbk2.cell 1
  have Hb2 := hide (Hbw.out.trans (hb2.mono Hbw.out.size))
  clear hb2 hbk2 Hc
  go_wp2_with fail
  go_ret
  rw [← Hr.out]
  exact ⟨rfl, Hb2.out⟩

set_option maxRecDepth 100000 in
set_option maxHeartbeats 800000 in
theorem v6u_1 (hi lo r : Nat) (p : Option Addr) (w : World) (h1 : hi < 18446744073709551616) (h2 : lo < 18446744073709551616) (hr : (hi : Int) / 4294967296 % 65536 = (r : Int)) :
    Calls Tryd.prog 81 #[addrV hi lo p, .int .u8 1] w fun e w' => e = .returned (.int .u16 (r : Int)) ∧ Below w.heap.size w w' := by
  have i1 : (hi : Int) < 18446744073709551616 := by omega
  have i2 : (lo : Int) < 18446744073709551616 := by omega
  have i3 : (0 : Int) ≤ (hi : Int) := by omega
  have i4 : (0 : Int) ≤ (lo : Int) := by omega
  have Hr := hide hr
  have x0 := run_idx0
  have x1 := run_idx1
  clear hr
  unfold addrV
  go_enter Tryd.func81, Tryd.ntmps81
  go_wp2_with fail
  generalize hW : w.alloc (.cells #[.int .u64 (hi : Int), .int .u64 (lo : Int), .pointer p] 89) = W1 at *
  have Hbw : Hid (Below w.heap.size w W1) := hide (by rw [← hW]; exact (Below.refl _ _).alloc (Nat.le_refl _) _)
  have hbk : Blk W1 w.heap.size 89 [.int .u64 (hi : Int), .int .u64 (lo : Int), .pointer p] := by rw [← hW]; exact Blk.new w _ _
  have Hbk := hide hbk
  have Hc := hide (halves_any w.heap.size 0 W1)
  clear hW hbk
  with_reducible refine Hc.out.mono ?_
  rintro e W2 ⟨rfl, hb2⟩
  have hbk2 := Hbk.out.below hb2
  have c0 : W2.cell? ⟨w.heap.size, 0, none⟩ = some (.int .u64 (hi : Int)) := hbk2.cell 0
  have c1 : W2.cell? ⟨w.heap.size, 0 + 1, none⟩ = some (.int .u64 (lo : Int)) := hbk2.cell 1
  have c2 : W2.cell? ⟨w.heap.size, 1, none⟩ = some (.int .u64 (lo : Int)) := hbk2.cell 1
  have Hb2 := hide (Hbw.out.trans (hb2.mono Hbw.out.size))
  clear hb2 hbk2 Hc
  go_wp2_with fail
  go_ret
  rw [← Hr.out]
  exact ⟨rfl, Hb2.out⟩

set_option maxRecDepth 100000 in
set_option maxHeartbeats 800000 in
theorem v6u_2 (hi lo r : Nat) (p : Option Addr) (w : World) (h1 : hi < 18446744073709551616) (h2 : lo < 18446744073709551616) (hr : (hi : Int) / 65536 % 65536 = (r : Int)) :
    Calls Tryd.prog 81 #[addrV hi lo p, .int .u8 2] w fun e w' => e = .returned (.int .u16 (r : Int)) ∧ Below w.heap.size w w' := by
  have i1 : (hi : Int) < 18446744073709551616 := by omega
  have i2 : (lo : Int) < 18446744073709551616 := by omega
  have i3 : (0 : Int) ≤ (hi : Int) := by omega
  have i4 : (0 : Int) ≤ (lo : Int) := by omega
  have Hr := hide hr
  have x0 := run_idx0
  have x1 := run_idx1
  clear hr
  unfold addrV
  go_enter Tryd.func81, Tryd.ntmps81
  go_wp2_with fail
  generalize hW : w.alloc (.cells #[.int .u64 (hi : Int), .int .u64 (lo : Int), .pointer p] 89) = W1 at *
  have Hbw : Hid (Below w.heap.size w W1) := hide (by rw [← hW]; exact (Below.refl _ _).alloc (Nat.le_refl _) _)
  have hbk : Blk W1 w.heap.size 89 [.int .u64 (hi : Int), .int .u64 (lo : Int), .pointer p] := by rw [← hW]; exact Blk.new w _ _
  have Hbk := hide hbk
  have Hc := hide (halves_any w.heap.size 0 W1)
  clear hW hbk
  with_reducible refine Hc.out.mono ?_
  rintro e W2 ⟨rfl, hb2⟩
  have hbk2 := Hbk.out.below hb2
  have c0 : W2.cell? ⟨w.heap.size, 0, none⟩ = some (.int .u64 (hi : Int)) := hbk2.cell 0
  have c1 : W2.cell? ⟨w.heap.size, 0 + 1, none⟩ = some (.int .u64 (lo : Int)) := hbk2.cell 1
  have c2 : W2.cell? ⟨w.heap.size, 1, none⟩ = some (.int .u64 (lo : Int)) := hbk2.cell 1
  have Hb2 := hide (Hbw.out.trans (hb2.mono Hbw.out.size))
  clear hb2 hbk2 Hc
  go_wp2_with fail
  go_ret
  rw [← Hr.out]
  exact ⟨rfl, Hb2.out⟩

set_option maxRecDepth 100000 in
set_option maxHeartbeats 800000 in
theorem v6u_3 (hi lo r : Nat) (p : Option Addr) (w : World) (h1 : hi < 18446744073709551616) (h2 : lo < 18446744073709551616) (hr : (hi : Int) % 65536 = (r : Int)) :
    Calls Tryd.prog 81 #[addrV hi lo p, .int .u8 3] w fun e w' => e = .returned (.int .u16 (r : Int)) ∧ Below w.heap.size w w' := by
  have i1 : (hi : Int) < 18446744073709551616 := by omega
  have i2 : (lo : Int) < 18446744073709551616 := by omega
  have i3 : (0 : Int) ≤ (hi : Int) := by omega
  have i4 : (0 : Int) ≤ (lo : Int) := by omega
  have Hr := hide hr
  have x0 := run_idx0
  have x1 := run_idx1
  clear hr
  unfold addrV
  go_enter Tryd.func81, Tryd.ntmps81
  go_wp2_with fail
  generalize hW : w.alloc (.cells #[.int .u64 (hi : Int), .int .u64 (lo : Int), .pointer p] 89) = W1 at *
  have Hbw : Hid (Below w.heap.size w W1) := hide (by rw [← hW]; exact (Below.refl _ _).alloc (Nat.le_refl _) _)
  have hbk : Blk W1 w.heap.size 89 [.int .u64 (hi : Int), .int .u64 (lo : Int), .pointer p] := by rw [← hW]; exact Blk.new w _ _
  have Hbk := hide hbk
  have Hc := hide (halves_any w.heap.size 0 W1)
  clear hW hbk
  with_reducible refine Hc.out.mono ?_
  rintro e W2 ⟨rfl, hb2⟩
  have hbk2 := Hbk.out.below hb2
  have c0 : W2.cell? ⟨w.heap.size, 0, none⟩ = some (.int .u64 (hi : Int)) := hbk2.cell 0
  have c1 : W2.cell? ⟨w.heap.size, 0 + 1, none⟩ = some (.int .u64 (lo : Int)) := hbk2.cell 1
  have c2 : W2.cell? ⟨w.heap.size, 1, none⟩ = some (.int .u64 (lo : Int)) := hbk2.cell 1
  have Hb2 := hide (Hbw.out.trans (hb2.mono Hbw.out.size))
  clear hb2 hbk2 Hc
  go_wp2_with fail
  go_ret
  rw [← Hr.out]
  exact ⟨rfl, Hb2.out⟩

set_option maxRecDepth 100000 in
set_option maxHeartbeats 800000 in
theorem v6u_4 (hi lo r : Nat) (p : Option Addr) (w : World) (h1 : hi < 18446744073709551616) (h2 : lo < 18446744073709551616) (hr : (lo : Int) / 281474976710656 = (r : Int)) :
    Calls Tryd.prog 81 #[addrV hi lo p, .int .u8 4] w fun e w' => e = .returned (.int .u16 (r : Int)) ∧ Below w.heap.size w w' := by
  have i1 : (hi : Int) < 18446744073709551616 := by omega
  have i2 : (lo : Int) < 18446744073709551616 := by omega
  have i3 : (0 : Int) ≤ (hi : Int) := by omega
  have i4 : (0 : Int) ≤ (lo : Int) := by omega
  have Hr := hide hr
  have x0 := run_idx0
  have x1 := run_idx1
  clear hr
  unfold addrV
  go_enter Tryd.func81, Tryd.ntmps81
  go_wp2_with fail
  generalize hW : w.alloc (.cells #[.int .u64 (hi : Int), .int .u64 (lo : Int), .pointer p] 89) = W1 at *
  have Hbw : Hid (Below w.heap.size w W1) := hide (by rw [← hW]; exact (Below.refl _ _).alloc (Nat.le_refl _) _)
  have hbk : Blk W1 w.heap.size 89 [.int .u64 (hi : Int), .int .u64 (lo : Int), .pointer p] := by rw [← hW]; exact Blk.new w _ _
  have Hbk := hide hbk
  have Hc := hide (halves_any w.heap.size 0 W1)
  clear hW hbk
  with_reducible refine Hc.out.mono ?_
  rintro e W2 ⟨rfl, hb2⟩
  have hbk2 := Hbk.out.below hb2
  have c0 : W2.cell? ⟨w.heap.size, 0, none⟩ = some (.int .u64 (hi : Int)) := hbk2.cell 0
  have c1 : W2.cell? ⟨w.heap.size, 0 + 1, none⟩ = some (.int .u64 (lo : Int)) := hbk2.cell 1
  have c2 : W2.cell? ⟨w.heap.size, 1, none⟩ = some (.int .u64 (lo : Int)) := hbk2.cell 1
  have Hb2 := hide (Hbw.out.trans (hb2.mono Hbw.out.size))
  clear hb2 hbk2 Hc
  go_wp2_with fail
  go_ret
  rw [← Hr.out]
  exact ⟨rfl, Hb2.out⟩

set_option maxRecDepth 100000 in
set_option maxHeartbeats 800000 in
theorem v6u_5 (hi lo r : Nat) (p : Option Addr) (w : World) (h1 : hi < 18446744073709551616) (h2 : lo < 18446744073709551616) (hr : (lo : Int) / 4294967296 % 65536 = (r : Int)) :
    Calls Tryd.prog 81 #[addrV hi lo p, .int .u8 5] w fun e w' => e = .returned (.int .u16 (r : Int)) ∧ Below w.heap.size w w' := by
  have i1 : (hi : Int) < 18446744073709551616 := by omega
  have i2 : (lo : Int) < 18446744073709551616 := by omega
  have i3 : (0 : Int) ≤ (hi : Int) := by omega
  have i4 : (0 : Int) ≤ (lo : Int) := by omega
  have Hr := hide hr
  have x0 := run_idx0
  have x1 := run_idx1
  clear hr
  unfold addrV
  go_enter Tryd.func81, Tryd.ntmps81
  go_wp2_with fail
  generalize hW : w.alloc (.cells #[.int .u64 (hi : Int), .int .u64 (lo : Int), .pointer p] 89) = W1 at *
  have Hbw : Hid (Below w.heap.size w W1) := hide (by rw [← hW]; exact (Below.refl _ _).alloc (Nat.le_refl _) _)
  have hbk : Blk W1 w.heap.size 89 [.int .u64 (hi : Int), .int .u64 (lo : Int), .pointer p] := by rw [← hW]; exact Blk.new w _ _
  have Hbk := hide hbk
  have Hc := hide (halves_any w.heap.size 0 W1)
  clear hW hbk
  with_reducible refine Hc.out.mono ?_
  rintro e W2 ⟨rfl, hb2⟩
  have hbk2 := Hbk.out.below hb2
  have c0 : W2.cell? ⟨w.heap.size, 0, none⟩ = some (.int .u64 (hi : Int)) := hbk2.cell 0
  have c1 : W2.cell? ⟨w.heap.size, 0 + 1, none⟩ = some (.int .u64 (lo : Int)) := hbk2.cell 1
  have c2 : W2.cell? ⟨w.heap.size, 1, none⟩ = some (.int .u64 (lo : Int)) := hbk2.cell 1
  have Hb2 := hide (Hbw.out.trans (hb2.mono Hbw.out.size))
  clear hb2 hbk2 Hc
  go_wp2_with fail
  go_ret
  rw [← Hr.out]
  exact ⟨rfl, Hb2.out⟩

set_option maxRecDepth 100000 in
set_option maxHeartbeats 800000 in
theorem v6u_6 (hi lo r : Nat) (p : Option Addr) (w : World) (h1 : hi < 18446744073709551616) (h2 : lo < 18446744073709551616) (hr : (lo : Int) / 65536 % 65536 = (r : Int)) :
    Calls Tryd.prog 81 #[addrV hi lo p, .int .u8 6] w fun e w' => e = .returned (.int .u16 (r : Int)) ∧ Below w.heap.size w w' := by
  have i1 : (hi : Int) < 18446744073709551616 := by omega
  have i2 : (lo : Int) < 18446744073709551616 := by omega
  have i3 : (0 : Int) ≤ (hi : Int) := by omega
  have i4 : (0 : Int) ≤ (lo : Int) := by omega
  have Hr := hide hr
  have x0 := run_idx0
  have x1 := run_idx1
  clear hr
  unfold addrV
  go_enter Tryd.func81, Tryd.ntmps81
  go_wp2_with fail
  generalize hW : w.alloc (.cells #[.int .u64 (hi : Int), .int .u64 (lo : Int), .pointer p] 89) = W1 at *
  have Hbw : Hid (Below w.heap.size w W1) := hide (by rw [← hW]; exact (Below.refl _ _).alloc (Nat.le_refl _) _)
  have hbk : Blk W1 w.heap.size 89 [.int .u64 (hi : Int), .int .u64 (lo : Int), .pointer p] := by rw [← hW]; exact Blk.new w _ _
  have Hbk := hide hbk
  have Hc := hide (halves_any w.heap.size 0 W1)
  clear hW hbk
  with_reducible refine Hc.out.mono ?_
  rintro e W2 ⟨rfl, hb2⟩
  have hbk2 := Hbk.out.below hb2
  have c0 : W2.cell? ⟨w.heap.size, 0, none⟩ = some (.int .u64 (hi : Int)) := hbk2.cell 0
  have c1 : W2.cell? ⟨w.heap.size, 0 + 1, none⟩ = some (.int .u64 (lo : Int)) := hbk2.cell 1
  have c2 : W2.cell? ⟨w.heap.size, 1, none⟩ = some (.int .u64 (lo : Int)) := hbk2.cell 1
  have Hb2 := hide (Hbw.out.trans (hb2.mono Hbw.out.size))
  clear hb2 hbk2 Hc
  go_wp2_with fail
  go_ret
  rw [← Hr.out]
  exact ⟨rfl, Hb2.out⟩

set_option maxRecDepth 100000 in
set_option maxHeartbeats 800000 in
theorem v6u_7 (hi lo r : Nat) (p : Option Addr) (w : World) (h1 : hi < 18446744073709551616) (h2 : lo < 18446744073709551616) (hr : (lo : Int) % 65536 = (r : Int)) :
    Calls Tryd.prog 81 #[addrV hi lo p, .int .u8 7] w fun e w' => e = .returned (.int .u16 (r : Int)) ∧ Below w.heap.size w w' := by
  have i1 : (hi : Int) < 18446744073709551616 := by omega
  have i2 : (lo : Int) < 18446744073709551616 := by omega
  have i3 : (0 : Int) ≤ (hi : Int) := by omega
  have i4 : (0 : Int) ≤ (lo : Int) := by omega
  have Hr := hide hr
  have x0 := run_idx0
  have x1 := run_idx1
  clear hr
  unfold addrV
  go_enter Tryd.func81, Tryd.ntmps81
  go_wp2_with fail
  generalize hW : w.alloc (.cells #[.int .u64 (hi : Int), .int .u64 (lo : Int), .pointer p] 89) = W1 at *
  have Hbw : Hid (Below w.heap.size w W1) := hide (by rw [← hW]; exact (Below.refl _ _).alloc (Nat.le_refl _) _)
  have hbk : Blk W1 w.heap.size 89 [.int .u64 (hi : Int), .int .u64 (lo : Int), .pointer p] := by rw [← hW]; exact Blk.new w _ _
  have Hbk := hide hbk
  have Hc := hide (halves_any w.heap.size 0 W1)
  clear hW hbk
  with_reducible refine Hc.out.mono ?_
  rintro e W2 ⟨rfl, hb2⟩
  have hbk2 := Hbk.out.below hb2
  have c0 : W2.cell? ⟨w.heap.size, 0, none⟩ = some (.int .u64 (hi : Int)) := hbk2.cell 0
  have c1 : W2.cell? ⟨w.heap.size, 0 + 1, none⟩ = some (.int .u64 (lo : Int)) := hbk2.cell 1
  have c2 : W2.cell? ⟨w.heap.size, 1, none⟩ = some (.int .u64 (lo : Int)) := hbk2.cell 1
  have Hb2 := hide (Hbw.out.trans (hb2.mono Hbw.out.size))
  clear hb2 hbk2 Hc
  go_wp2_with fail
  go_ret
  rw [← Hr.out]
  exact ⟨rfl, Hb2.out⟩

/-- The groups of 16 bytes. -/
def grpN (bs : List UInt8) (i : Nat) : Nat := (bs.getD (2 * i) 0).toNat * 256 + (bs.getD (2 * i + 1) 0).toNat
theorem grpN_lt (bs : List UInt8) (i : Nat) : grpN bs i < 65536 := by
  have := (bs.getD (2 * i) 0).toNat_lt
  have := (bs.getD (2 * i + 1) 0).toNat_lt
  unfold grpN; omega
def hi6 (bs : List UInt8) : Nat := num8 (bs.getD 0 0) (bs.getD 1 0) (bs.getD 2 0) (bs.getD 3 0) (bs.getD 4 0) (bs.getD 5 0) (bs.getD 6 0) (bs.getD 7 0)
def lo6 (bs : List UInt8) : Nat := num8 (bs.getD 8 0) (bs.getD 9 0) (bs.getD 10 0) (bs.getD 11 0) (bs.getD 12 0) (bs.getD 13 0) (bs.getD 14 0) (bs.getD 15 0)
theorem v6u_any (bs : List UInt8) (i : Nat) (hi : i < 8) (p : Option Addr) (w : World) :
    Calls Tryd.prog 81 #[addrV (hi6 bs) (lo6 bs) p, .int .u8 (i : Int)] w fun e w' => e = .returned (.int .u16 (grpN bs i : Int)) ∧ Below w.heap.size w w' := by
  have l0 := (bs.getD 0 0).toNat_lt
  have l1 := (bs.getD 1 0).toNat_lt
  have l2 := (bs.getD 2 0).toNat_lt
  have l3 := (bs.getD 3 0).toNat_lt
  have l4 := (bs.getD 4 0).toNat_lt
  have l5 := (bs.getD 5 0).toNat_lt
  have l6 := (bs.getD 6 0).toNat_lt
  have l7 := (bs.getD 7 0).toNat_lt
  have l8 := (bs.getD 8 0).toNat_lt
  have l9 := (bs.getD 9 0).toNat_lt
  have l10 := (bs.getD 10 0).toNat_lt
  have l11 := (bs.getD 11 0).toNat_lt
  have l12 := (bs.getD 12 0).toNat_lt
  have l13 := (bs.getD 13 0).toNat_lt
  have l14 := (bs.getD 14 0).toNat_lt
  have l15 := (bs.getD 15 0).toNat_lt
  match i, hi with
  | 0, _ => exact v6u_0 (hi6 bs) (lo6 bs) (grpN bs 0) p w (num8_lt ..) (num8_lt ..) (by unfold hi6 grpN num8; simp only [Nat.reduceMul, Nat.reduceAdd]; omega)
  | 1, _ => exact v6u_1 (hi6 bs) (lo6 bs) (grpN bs 1) p w (num8_lt ..) (num8_lt ..) (by unfold hi6 grpN num8; simp only [Nat.reduceMul, Nat.reduceAdd]; omega)
  | 2, _ => exact v6u_2 (hi6 bs) (lo6 bs) (grpN bs 2) p w (num8_lt ..) (num8_lt ..) (by unfold hi6 grpN num8; simp only [Nat.reduceMul, Nat.reduceAdd]; omega)
  | 3, _ => exact v6u_3 (hi6 bs) (lo6 bs) (grpN bs 3) p w (num8_lt ..) (num8_lt ..) (by unfold hi6 grpN num8; simp only [Nat.reduceMul, Nat.reduceAdd]; omega)
  | 4, _ => exact v6u_4 (hi6 bs) (lo6 bs) (grpN bs 4) p w (num8_lt ..) (num8_lt ..) (by unfold lo6 grpN num8; simp only [Nat.reduceMul, Nat.reduceAdd]; omega)
  | 5, _ => exact v6u_5 (hi6 bs) (lo6 bs) (grpN bs 5) p w (num8_lt ..) (num8_lt ..) (by unfold lo6 grpN num8; simp only [Nat.reduceMul, Nat.reduceAdd]; omega)
  | 6, _ => exact v6u_6 (hi6 bs) (lo6 bs) (grpN bs 6) p w (num8_lt ..) (num8_lt ..) (by unfold lo6 grpN num8; simp only [Nat.reduceMul, Nat.reduceAdd]; omega)
  | 7, _ => exact v6u_7 (hi6 bs) (lo6 bs) (grpN bs 7) p w (num8_lt ..) (num8_lt ..) (by unfold lo6 grpN num8; simp only [Nat.reduceMul, Nat.reduceAdd]; omega)
end Go.Proofs.YtmfcgglgolajnaaDoor
/-
  The contract of Addr.appendTo6, no zone.
-/
namespace Go.Proofs.YtmfcgglgolajnaaDoor
open Go.RowKit
set_option linter.unusedVariables false

theorem run_same_d (d : Nat) (a : Addr) (w : World) : (Op.equalIn (d + 1) 85 (.pointer (some a)) (.pointer (some a))).run Tryd.prog w = .ok true w := by
  have hu : Tryd.prog.underlying 85 = some (.pointer 106) := by kernel_rfl
  obtain ⟨j, hj⟩ : ∃ j, Tryd.prog.info? 106 = some j := by
    cases h : Tryd.prog.info? 106 with
    | none => exact absurd h (by
        intro h
        have : (Tryd.prog.info? 106).isSome = true := by kernel_rfl
        rw [h] at this; cases this)
    | some j => exact ⟨j, rfl⟩
  have hsz : j.size ≠ 0 := by
    have : Tryd.prog.cellsOf 106 = 2 := by kernel_rfl
    unfold Program.cellsOf at this
    rw [hj] at this
    simp at this
    omega
  have hs := run_sameAddr_same (P := Tryd.prog) w a
  simp [Op.equalIn, run_underlying hu, sizeOf, typeInfo, hj, hsz, hs]
theorem run_same (g o : Nat) (w : World) : (Op.equalIn 9999 85 (.pointer (some ⟨g, o, none⟩)) (.pointer (some ⟨g, o, none⟩))).run Tryd.prog w = .ok true w := run_same_d 9998 _ w

theorem push2_step {base : Nat} {w w2 : World} {v v' : Value} {bs : List UInt8} (q1 : w2.ownsRow base 5 1 v' (bs.length + 2) (byV bs ++ [.int .u8 58, .int .u8 58]))
    (q2 : (w.alloc (.cells #[.int .u8 58, .int .u8 58] 5)).grownBy w2 v.ownBlock) (q3 : v'.ownBlock = v.ownBlock ∨ v'.ownBlock = some (w.heap.size + 1)) :
    Own base (bs ++ [58, 58]) v' w2 ∧ Grew v w w2 ∧ Moved v v' w := by
  refine ⟨?_, ?_, ?_⟩
  · unfold Own byV
    rw [List.length_append, List.map_append]
    exact q1
  · have hk : Kept (rowOf v) w w2 := (Kept.alloc (rowOf v) w _).trans (Kept.of_grown q2)
    exact ⟨hk, q2.os, q2.tape, q2.output⟩
  · intro g hg
    rcases q3 with q3 | q3
    · exact Or.inl (by rw [← q3]; exact hg)
    · rw [q3] at hg
      injection hg with hg
      exact Or.inr (by omega)
theorem Rd.two (w : World) (u1 u2 : Value) (t : TypeId) (av : Nat → Prop) (ha : ¬ av w.heap.size) : Rd (w.alloc (.cells #[u1, u2] t)) av (some ⟨w.heap.size, 0, none⟩) 2 [u1, u2] :=
  ⟨rfl, fun _ => ⟨w.heap.size, 0, rfl, by simp, ha, fun j v hv => by
    rcases j with _ | _ | j
    · simp at hv; subst hv; simp [World.cell?_alloc_new]
    · simp at hv; subst hv; simp [World.cell?_alloc_new]
    · simp at hv⟩⟩

theorem zrun_step {g : Nat → Nat} {j : Nat} (h : j < 8) : zrun g (8 - j) j = if g j = 0 then zrun g (8 - (j + 1)) (j + 1) else j := by
  rw [show 8 - j = (8 - (j + 1)) + 1 by omega]; rfl
theorem w6_step {g : Nat → Nat} {zs ze i : Nat} (h : i < 8) : w6 g zs ze (8 - i) i = if i = zs then 58 :: 58 :: (if ze < 8 then hexL (g ze) ++ w6 g zs ze (8 - (i + 1)) (ze + 1) else []) else (if 0 < i then [58] else []) ++ (hexL (g i) ++ w6 g zs ze (8 - (i + 1)) (i + 1)) := by
  rw [show 8 - i = (8 - (i + 1)) + 1 by omega]
  show (if i < 8 then _ else _) = _
  rw [if_pos h]

theorem w6_len (g : Nat → Nat) (hg : ∀ i, g i < 65536) (zs ze : Nat) : ∀ n i, (w6 g zs ze n i).length ≤ 6 * n
  | 0, _ => by simp [w6]
  | n + 1, i => by
    have h1 := hexL_len (hg ze)
    have h2 := hexL_len (hg i)
    have h3 := w6_len g hg zs ze n (ze + 1)
    have h4 := w6_len g hg zs ze n (i + 1)
    unfold w6
    split
    · split
      · split
        · simp only [List.length_cons, List.length_append]; omega
        · simp only [List.length_cons, List.length_nil]; omega
      · split
        · simp only [List.length_cons, List.length_append, List.length_nil]; omega
        · simp only [List.length_append, List.length_nil]; omega
    · simp
theorem txt6_len (g : Nat → Nat) (hg : ∀ i, g i < 65536) : (txt6 g).length ≤ 48 := w6_len g hg _ _ 8 0

/-- The state of the loop that writes. -/
structure Wr6 (base : Nat) (T : List UInt8) (g : Nat → Nat) (zs ze : Nat) (v : Value) (w0 : World) (i : Nat) (v' : Value) (wr : World) : Prop where
  out : ∃ L, Own base L v' wr ∧ L ++ w6 g zs ze (8 - i) i = T
  gr : Grew v w0 wr
  mo : Moved v v' w0

set_option maxRecDepth 100000 in
set_option maxHeartbeats 3200000 in
theorem to6a_any (base : Nat) (bs : List UInt8) (L0 : List UInt8) (v : Value) (w : World) (g4 o4 g6 o6 : Nat) (hz : ZX w g4 o4 g6 o6) (hb6 : 4 < base) (ho : Own base L0 v w) (hb : base ≤ w.heap.size) (hl0 : L0.length ≤ 500) :
    Calls Tryd.prog 67 #[addrV (hi6 bs) (lo6 bs) (some ⟨g6, o6, none⟩), v] w (AppR base v w (L0 ++ txt6 (grpN bs))) := by
  obtain ⟨i0, hinf, hz0, hz1, hz2⟩ := info_parts byte_info
  have Ho := hide ho
  have Hz := hide hz
  have Hv := hide (fun (i : Nat) (hi : i < 8) (W : World) => v6u_any bs i hi (some ⟨g6, o6, none⟩) W)
  have Hlt := hide (fun i => grpN_lt bs i)
  have q0 := run_same g6 o6
  generalize grpN bs = g at *
  generalize hi6 bs = hh at *
  generalize lo6 bs = ll at *
  clear ho hz
  unfold addrV at *
  go_enter Tryd.func67, Tryd.ntmps67
  go_wp2_with fail
  generalize hW : w.alloc (.cells #[.int .u64 (hh : Int), .int .u64 (ll : Int), .pointer (some ⟨g6, o6, none⟩)] 89) = w0 at *
  have hbx : Blk w0 w.heap.size 89 [.int .u64 (hh : Int), .int .u64 (ll : Int), .pointer (some ⟨g6, o6, none⟩)] := by rw [← hW]; exact Blk.new w _ _
  have hsz : w0.heap.size = w.heap.size + 1 := by rw [← hW]; simp
  have Hbx := hide hbx
  have Hg0 : Hid (Grew v w w0) := hide (by rw [← hW]; exact Grew.of_below ((Below.refl _ _).alloc (Nat.le_refl _) _))
  have Ho0 : Hid (Own base L0 v w0) := hide (by rw [← hW]; exact Ho.out.alloc _)
  have Hb0 : Hid (base ≤ w0.heap.size) := hide (by omega)
  have Hz0 : Hid (ZX w0 g4 o4 g6 o6) := hide (by rw [← hW]; exact Hz.out.alloc _)
  clear hW hbx
  go_loopw [5, 6, 7] (fun s5 s6 s7 wr => ∃ i : Nat, i ≤ 8 ∧ s5 = .int .u8 ((zfind g i).1 : Int) ∧ s6 = .int .u8 ((zfind g i).2 : Int) ∧ s7 = .int .u8 (i : Int) ∧ Below w0.heap.size w0 wr) (fun _ _ s7 _ => 8 - (intOf s7).toNat)
  case atStart => exact ⟨0, Nat.zero_le _, rfl, rfl, rfl, Below.refl _ _⟩
  case round =>
    obtain ⟨i, hi8, rfl, rfl, rfl, hbr⟩ := hrel
    obtain ⟨hze1, hze2⟩ := zfind_le g hi8
    have Hstep : Hid (zfind g (i + 1) = if 2 ≤ zend g i - i ∧ (zfind g i).2 - (zfind g i).1 < zend g i - i then (i, zend g i) else zfind g i) := hide rfl
    have Hbr := hide hbr
    generalize hzf : zfind g i = zf at *
    obtain ⟨zs, ze⟩ := zf
    have Hzf := hide hzf
    clear hbr hzf
    by_cases hi : i < 8
    · have i1 : (i : Int) < 8 := by omega
      have i2 : (0 : Int) ≤ i := by omega
      have z1 : (zs : Int) ≤ ze := by simpa using hze1
      have z2 : (ze : Int) ≤ 255 := by simp at hze2; omega
      have z3 : (0 : Int) ≤ zs := by omega
      clear hze1 hze2
      go_wp2_with fail
      go_loopw [8] (fun s8 wq => ∃ j : Nat, i ≤ j ∧ j ≤ 8 ∧ s8 = .int .u8 (j : Int) ∧ zrun g (8 - j) j = zend g i ∧ Below w0.heap.size w0 wq) (fun s8 _ => 8 - (intOf s8).toNat)
      case atStart => exact ⟨i, Nat.le_refl _, hi8, rfl, rfl, Hbr.out⟩
      case round =>
        obtain ⟨j, hj1, hj2, rfl, hzr, hbq⟩ := hrel
        have Hzr := hide hzr
        have Hbq := hide hbq
        clear hzr hbq
        by_cases hj : j < 8
        · have j1 : (j : Int) < 8 := by omega
          have j2 : (0 : Int) ≤ j := by omega
          have hbk := Hbx.out.below Hbq.out
          have c0 : wr.cell? ⟨w.heap.size, 0, none⟩ = some (.int .u64 (hh : Int)) := hbk.cell 0
          have c1 : wr.cell? ⟨w.heap.size, 1, none⟩ = some (.int .u64 (ll : Int)) := hbk.cell 1
          have c2 : wr.cell? ⟨w.heap.size, 2, none⟩ = some (.pointer (some ⟨g6, o6, none⟩)) := hbk.cell 2
          have Hc := hide (Hv.out j hj wr)
          have hzr := Hzr.out
          rw [zrun_step hj] at hzr
          have Hzr2 := hide hzr
          clear hbk hzr
          go_wp2_with fail
          with_reducible refine Hc.out.mono ?_
          rintro e w3 ⟨rfl, hb3⟩
          have Hb3 := hide (Hbq.out.trans (hb3.mono Hbq.out.size))
          clear hb3 Hc c0 c1 c2
          by_cases hg : g j = 0
          · have hg' : ((g j : Int) == 0) = true := by rw [hg]; rfl
            have hzr := Hzr2.out
            rw [if_pos hg] at hzr
            have Hzr3 := hide hzr
            clear hzr hg
            go_wp2_with fail
            go_roundw
            case rel => exact ⟨j + 1, by omega, by omega, by go_num, Hzr3.out, Hb3.out⟩
            case measure => simp [intOf]; omega
          · have hg' : ((g j : Int) == 0) = false := by rw [beq_eq_false_iff_ne]; omega
            have hzr := Hzr2.out
            rw [if_neg hg] at hzr
            have Hst := Hstep.out
            rw [← hzr] at Hst
            have Hst2 := hide Hst
            clear hzr hg Hst
            have l0 : (0 : Int) ≤ (j : Int) - i := by omega
            by_cases h2 : 2 ≤ j - i
            · have h2' : (2 : Int) ≤ (j : Int) - i := by omega
              by_cases h3 : ze - zs < j - i
              · have h3' : (ze : Int) - zs < (j : Int) - i := by omega
                go_wp2_with fail
                go_roundw
                case rel =>
                  refine ⟨i + 1, by omega, ?_, ?_, by go_num, Hb3.out⟩
                  · rw [Hst2.out, if_pos ⟨h2, h3⟩]
                  · rw [Hst2.out, if_pos ⟨h2, h3⟩]
                case measure => simp [intOf]; omega
              · have h3' : ¬ ((ze : Int) - zs < (j : Int) - i) := by omega
                go_wp2_with fail
                go_roundw
                case rel =>
                  refine ⟨i + 1, by omega, ?_, ?_, by go_num, Hb3.out⟩
                  · rw [Hst2.out, if_neg (fun h => h3 h.2)]
                  · rw [Hst2.out, if_neg (fun h => h3 h.2)]
                case measure => simp [intOf]; omega
            · have h2' : ¬ ((2 : Int) ≤ (j : Int) - i) := by omega
              go_wp2_with fail
              go_roundw
              case rel =>
                refine ⟨i + 1, by omega, ?_, ?_, by go_num, Hb3.out⟩
                · rw [Hst2.out, if_neg (fun h => h2 h.1)]
                · rw [Hst2.out, if_neg (fun h => h2 h.1)]
              case measure => simp [intOf]; omega
        · obtain rfl : j = 8 := by omega
          have hzr : 8 = zend g i := Hzr.out
          have Hst := Hstep.out
          rw [← hzr] at Hst
          have Hst2 := hide Hst
          clear hzr Hst
          have l0 : (0 : Int) ≤ 8 - (i : Int) := by omega
          by_cases h2 : 2 ≤ 8 - i
          · have h2' : (2 : Int) ≤ 8 - (i : Int) := by omega
            by_cases h3 : ze - zs < 8 - i
            · have h3' : (ze : Int) - zs < 8 - (i : Int) := by omega
              go_wp2_with fail
              go_roundw
              case rel =>
                refine ⟨i + 1, by omega, ?_, ?_, by go_num, Hbq.out⟩
                · rw [Hst2.out, if_pos ⟨h2, h3⟩]
                · rw [Hst2.out, if_pos ⟨h2, h3⟩]
              case measure => simp [intOf]; omega
            · have h3' : ¬ ((ze : Int) - zs < 8 - (i : Int)) := by omega
              go_wp2_with fail
              go_roundw
              case rel =>
                refine ⟨i + 1, by omega, ?_, ?_, by go_num, Hbq.out⟩
                · rw [Hst2.out, if_neg (fun h => h3 h.2)]
                · rw [Hst2.out, if_neg (fun h => h3 h.2)]
              case measure => simp [intOf]; omega
          · have h2' : ¬ ((2 : Int) ≤ 8 - (i : Int)) := by omega
            go_wp2_with fail
            go_roundw
            case rel =>
              refine ⟨i + 1, by omega, ?_, ?_, by go_num, Hbq.out⟩
              · rw [Hst2.out, if_neg (fun h => h2 h.1)]
              · rw [Hst2.out, if_neg (fun h => h2 h.1)]
            case measure => simp [intOf]; omega
    · obtain rfl : i = 8 := by omega
      obtain ⟨wa, rfl⟩ : ∃ wa : World, wa = wr := ⟨_, rfl⟩
      have hcase := zfind_or g 8 (Nat.le_refl _)
      rw [Hzf.out] at hcase
      have hz8 : zs < 8 → zs < ze ∧ ze ≤ 8 := by
        rcases hcase with h | ⟨h1, h2, h3, h4⟩
        · injection h with h1 h2; omega
        · simp at h1 h2 h4; omega
      have z2 : ze ≤ 255 := by simpa using hze2
      have z1 : zs ≤ ze := by simpa using hze1
      have Hz8 := hide hz8
      have HT : Hid (L0 ++ w6 g zs ze 8 0 = L0 ++ txt6 g) := hide (by unfold txt6; rw [Hzf.out])
      have Hst : Hid (Wr6 base (L0 ++ txt6 g) g zs ze v w0 0 v wa) := hide ⟨⟨L0, Ho0.out.below Hbr.out, HT.out⟩, Grew.of_below Hbr.out, Moved.refl _ _⟩
      have HTl : Hid ((L0 ++ txt6 g).length ≤ 900) := hide (by
        rw [List.length_append]
        have := txt6_len g Hlt.out
        omega)
      generalize L0 ++ txt6 g = T at *
      clear hcase hz8 hze1 hze2 Hstep Hzf HT
      rw [show ((8 : Nat) : Int) = (8 : Int) from rfl]
      go_wp2_with fail
      go_loopw [1, 10] (fun s1 s10 wr => ∃ i : Nat, i ≤ 8 ∧ s10 = .int .u8 (i : Int) ∧ Wr6 base T g zs ze v w0 i s1 wr) (fun _ s10 _ => 8 - (intOf s10).toNat)
      case atStart => exact ⟨0, Nat.zero_le _, rfl, Hst.out⟩
      case round =>
        obtain ⟨i, hi8, rfl, ⟨L, hO, hT⟩, hG, hM⟩ := hrel
        have HO := hide hO
        have HG := hide hG
        have HM := hide hM
        have hLl : L.length ≤ 900 := by have := HTl.out; rw [← hT, List.length_append] at this; omega
        have Hbb : Hid (base ≤ wr.heap.size) := hide (Nat.le_trans Hb0.out hG.kept.1)
        have HT := hide hT
        clear hO hG hM hT
        by_cases hlt8 : i < 8
        · have i1 : (i : Int) < 8 := by omega
          have i2 : (0 : Int) ≤ i := by omega
          have hT := HT.out
          rw [w6_step hlt8] at hT
          by_cases he : i = zs
          · subst he
            rw [if_pos rfl] at hT
            have HT1 := hide hT
            obtain ⟨hz1', hz2'⟩ := Hz8.out hlt8
            have ze1 : (ze : Int) ≤ 255 := by omega
            clear hT
            have Ha0 := hide (HO.out.alloc (.cells #[.int .u8 58, .int .u8 58] 5))
            have hw0 : base ≤ wr.heap.size := Hbb.out
            go_wp2_with (at_builtin; refine wpList_append_rd _ rfl (.tmp 47) (.tmp 48) _ rfl base 5 i0 _ 1 Tryd.underlying22 hinf hz0 hz1 hz2 rfl _ L.length _ rfl Ha0.out no (some ⟨wr.heap.size, 0, none⟩) 2 2 [.int .u8 58, .int .u8 58] rfl ?p1 ?p2 ?p3 ?p4 ?p5 ?_)
            case p1 => exact Rd.two wr _ _ _ no (fun h => h)
            case p2 => first | rfl | (intro u hu; simp at hu; subst hu; rfl) | (intro u hu; simp at hu; rcases hu with rfl | rfl <;> rfl)
            case p3 => unfold maxLen; omega
            case p4 => omega
            case p5 => first | omega | (simp; omega)
            intro v1 w1 y1 y2 y3
            obtain ⟨x1, x2, x3⟩ := push2_step y1 y2 y3
            obtain ⟨L1, hL1⟩ : ∃ L1, L1 = L ++ [58, 58] := ⟨_, rfl⟩
            have hLl1 : L1.length ≤ 902 := by rw [hL1, List.length_append]; simp; omega
            rw [← hL1] at x1
            have HL1 := hide hL1
            have HO1 := hide x1
            have HG1 := hide (HG.out.trans HM.out x2)
            have HM1 := hide (HM.out.trans x3 HG.out.kept.1)
            have Hbb1 : Hid (base ≤ w1.heap.size) := hide (Nat.le_trans Hbb.out x2.kept.1)
            clear y1 y2 y3 x1 x2 x3 Ha0 hw0 hL1
            by_cases h8 : ze < 8
            · have h8' : ¬ ((8 : Int) ≤ (ze : Int)) := by omega
              have h8'' : (ze : Int) < 8 := by omega
              have HT2 : Hid ((L1 ++ hexL (g ze)) ++ w6 g i ze (8 - (ze + 1)) (ze + 1) = T) := hide (by
                have h := HT1.out
                rw [if_pos h8] at h
                rw [← h, HL1.out, w6_fuel g i ze (fun _ => hz1') (8 - (ze + 1)) (8 - (i + 1)) (ze + 1) (Nat.le_refl _) (by omega)]
                simp [List.append_assoc])
              clear h8
              have hbk := HG1.out.blk Hbx.out (moved_ne Ho.out (Moved.refl v w0) (Nat.le_refl _) (by omega))
              have c0 : w1.cell? ⟨w.heap.size, 0, none⟩ = some (.int .u64 (hh : Int)) := hbk.cell 0
              have c1 : w1.cell? ⟨w.heap.size, 1, none⟩ = some (.int .u64 (ll : Int)) := hbk.cell 1
              have c2 : w1.cell? ⟨w.heap.size, 2, none⟩ = some (.pointer (some ⟨g6, o6, none⟩)) := hbk.cell 2
              have Hc := hide (Hv.out ze (by omega) w1)
              clear hbk
              go_wp2_with fail
              with_reducible refine Hc.out.mono ?_
              rintro e w3 ⟨rfl, hb3⟩
              have HO3 := hide (HO1.out.below hb3)
              have HG3 := hide (HG1.out.trans (Moved.refl v w0) (Grew.of_below (v := v) hb3))
              have Hbb3 : Hid (base ≤ w3.heap.size) := hide (Nat.le_trans Hbb1.out hb3.size)
              have Hap := hide (appHex_any base (g ze) (Hlt.out ze) L1 v1 w3 HO3.out Hbb3.out (by omega))
              clear hb3 Hc c0 c1 c2
              go_wp2_with fail
              with_reducible refine Hap.out.mono ?_
              rintro e w4 ⟨v4, rfl, y1, y2, y3⟩
              have HM4 := hide (HM1.out.trans y3 HG3.out.kept.1)
              have HG4 := hide (HG3.out.trans HM1.out y2)
              have HO4 := hide y1
              clear y1 y2 y3 Hap
              go_wp2_with fail
              go_roundw
              case rel => exact ⟨ze + 1, by omega, by go_num, ⟨_, HO4.out, HT2.out⟩, HG4.out, HM4.out⟩
              case measure => simp [intOf]; omega
            · have h8' : (8 : Int) ≤ (ze : Int) := by omega
              have HT2 : Hid (L1 = T) := hide (by
                have h := HT1.out
                rw [if_neg h8] at h
                rw [← h, HL1.out])
              clear h8
              have hbk := HG1.out.blk Hbx.out (moved_ne Ho.out (Moved.refl v w0) (Nat.le_refl _) (by omega))
              have c2 : w1.cell? ⟨w.heap.size, 2, none⟩ = some (.pointer (some ⟨g6, o6, none⟩)) := hbk.cell 2
              have c6 : w1.cell? ⟨4, 0, none⟩ = some (.pointer (some ⟨g6, o6, none⟩)) := (World.cell?_of_block ((HG1.out.below Ho0.out Hb0.out).block _ hb6)).trans Hz0.out.z.z6
              clear hbk
              go_wp2_with fail
              go_ret
              refine ⟨_, rfl, ?_, Hg0.out.trans (Moved.refl v w) HG1.out, ?_⟩
              · rw [← HT2.out]; exact HO1.out
              · intro q hq
                rcases HM1.out q hq with h | h
                · exact Or.inl h
                · exact Or.inr (by omega)
          · rw [if_neg he] at hT
            have HT1 := hide hT
            have he' : ((i : Int) == (zs : Int)) = false := by rw [beq_eq_false_iff_ne]; omega
            clear hT he
            by_cases hp : 0 < i
            · have hp' : (0 : Int) < (i : Int) := by omega
              have Ha0 := hide (HO.out.alloc (.cells #[.int .u8 58] 5))
              have hw0 : base ≤ wr.heap.size := Hbb.out
              go_wp2_with (at_builtin; refine wpList_append_rd _ rfl (.tmp 55) (.tmp 56) _ rfl base 5 i0 _ 1 Tryd.underlying22 hinf hz0 hz1 hz2 rfl _ L.length _ rfl Ha0.out no (some ⟨wr.heap.size, 0, none⟩) 1 1 [.int .u8 58] rfl ?p1 ?p2 ?p3 ?p4 ?p5 ?_)
              case p1 => exact Rd.one wr _ _ no (fun h => h)
              case p2 => first | rfl | (intro u hu; simp at hu; subst hu; rfl) | (intro u hu; simp at hu; rcases hu with rfl | rfl <;> rfl)
              case p3 => unfold maxLen; omega
              case p4 => omega
              case p5 => first | omega | (simp; omega)
              intro v1 w1 y1 y2 y3
              obtain ⟨x1, x2, x3⟩ := push_step (x := 58) y1 y2 y3
              obtain ⟨L1, hL1⟩ : ∃ L1, L1 = L ++ [58] := ⟨_, rfl⟩
              have hLl1 : L1.length ≤ 902 := by rw [hL1, List.length_append]; simp; omega
              rw [← hL1] at x1
              have HL1 := hide hL1
              have HO1 := hide x1
              have HG1 := hide (HG.out.trans HM.out x2)
              have HM1 := hide (HM.out.trans x3 HG.out.kept.1)
              have Hbb1 : Hid (base ≤ w1.heap.size) := hide (Nat.le_trans Hbb.out x2.kept.1)
              clear y1 y2 y3 x1 x2 x3 Ha0 hw0 hL1
              have HT2 : Hid ((L1 ++ hexL (g i)) ++ w6 g zs ze (8 - (i + 1)) (i + 1) = T) := hide (by
                have h := HT1.out
                rw [if_pos hp] at h
                rw [← h, HL1.out]
                simp [List.append_assoc])
              clear hp
              have hbk := HG1.out.blk Hbx.out (moved_ne Ho.out (Moved.refl v w0) (Nat.le_refl _) (by omega))
              have c0 : w1.cell? ⟨w.heap.size, 0, none⟩ = some (.int .u64 (hh : Int)) := hbk.cell 0
              have c1 : w1.cell? ⟨w.heap.size, 1, none⟩ = some (.int .u64 (ll : Int)) := hbk.cell 1
              have c2 : w1.cell? ⟨w.heap.size, 2, none⟩ = some (.pointer (some ⟨g6, o6, none⟩)) := hbk.cell 2
              have Hc := hide (Hv.out i hlt8 w1)
              clear hbk
              go_wp2_with fail
              with_reducible refine Hc.out.mono ?_
              rintro e w3 ⟨rfl, hb3⟩
              have HO3 := hide (HO1.out.below hb3)
              have HG3 := hide (HG1.out.trans (Moved.refl v w0) (Grew.of_below (v := v) hb3))
              have Hbb3 : Hid (base ≤ w3.heap.size) := hide (Nat.le_trans Hbb1.out hb3.size)
              have Hap := hide (appHex_any base (g i) (Hlt.out i) L1 v1 w3 HO3.out Hbb3.out (by omega))
              clear hb3 Hc c0 c1 c2
              go_wp2_with fail
              with_reducible refine Hap.out.mono ?_
              rintro e w4 ⟨v4, rfl, y1, y2, y3⟩
              have HM4 := hide (HM1.out.trans y3 HG3.out.kept.1)
              have HG4 := hide (HG3.out.trans HM1.out y2)
              have HO4 := hide y1
              clear y1 y2 y3 Hap
              go_wp2_with fail
              go_roundw
              case rel => exact ⟨i + 1, by omega, by go_num, ⟨_, HO4.out, HT2.out⟩, HG4.out, HM4.out⟩
              case measure => simp [intOf]; omega
            · have hp' : ¬ ((0 : Int) < (i : Int)) := by omega
              have HT2 : Hid ((L ++ hexL (g i)) ++ w6 g zs ze (8 - (i + 1)) (i + 1) = T) := hide (by
                have h := HT1.out
                rw [if_neg hp] at h
                rw [← h]
                simp [List.append_assoc])
              clear hp
              have hbk := HG.out.blk Hbx.out (moved_ne Ho.out (Moved.refl v w0) (Nat.le_refl _) (by omega))
              have c0 : wr.cell? ⟨w.heap.size, 0, none⟩ = some (.int .u64 (hh : Int)) := hbk.cell 0
              have c1 : wr.cell? ⟨w.heap.size, 1, none⟩ = some (.int .u64 (ll : Int)) := hbk.cell 1
              have c2 : wr.cell? ⟨w.heap.size, 2, none⟩ = some (.pointer (some ⟨g6, o6, none⟩)) := hbk.cell 2
              have Hc := hide (Hv.out i hlt8 wr)
              clear hbk
              go_wp2_with fail
              with_reducible refine Hc.out.mono ?_
              rintro e w3 ⟨rfl, hb3⟩
              have HO3 := hide (HO.out.below hb3)
              have HG3 := hide (HG.out.trans (Moved.refl v w0) (Grew.of_below (v := v) hb3))
              have Hbb3 : Hid (base ≤ w3.heap.size) := hide (Nat.le_trans Hbb.out hb3.size)
              have Hap := hide (appHex_any base (g i) (Hlt.out i) L u1 w3 HO3.out Hbb3.out (by omega))
              clear hb3 Hc c0 c1 c2
              go_wp2_with fail
              with_reducible refine Hap.out.mono ?_
              rintro e w4 ⟨v4, rfl, y1, y2, y3⟩
              have HM4 := hide (HM.out.trans y3 HG3.out.kept.1)
              have HG4 := hide (HG3.out.trans HM.out y2)
              have HO4 := hide y1
              clear y1 y2 y3 Hap
              go_wp2_with fail
              go_roundw
              case rel => exact ⟨i + 1, by omega, by go_num, ⟨_, HO4.out, HT2.out⟩, HG4.out, HM4.out⟩
              case measure => simp [intOf]; omega
        · obtain rfl : i = 8 := by omega
          have HT2 : Hid (L = T) := hide (by
            have h := HT.out
            rw [w6_end _ _ _ _ _ (Nat.le_refl _), List.append_nil] at h
            exact h)
          have hbk := HG.out.blk Hbx.out (moved_ne Ho.out (Moved.refl v w0) (Nat.le_refl _) (by omega))
          have c2 : wr.cell? ⟨w.heap.size, 2, none⟩ = some (.pointer (some ⟨g6, o6, none⟩)) := hbk.cell 2
          have c6 : wr.cell? ⟨4, 0, none⟩ = some (.pointer (some ⟨g6, o6, none⟩)) := (World.cell?_of_block ((HG.out.below Ho0.out Hb0.out).block _ hb6)).trans Hz0.out.z.z6
          clear hbk
          go_wp2_with fail
          go_ret
          refine ⟨_, rfl, ?_, Hg0.out.trans (Moved.refl v w) HG.out, ?_⟩
          · rw [← HT2.out]; exact HO.out
          · intro q hq
            rcases HM.out q hq with h | h
            · exact Or.inl h
            · exact Or.inr (by omega)
end Go.Proofs.YtmfcgglgolajnaaDoor
