/-
  Joined: Pre, Pre2, Forms, To16Each, To4Each, FAddr.
-/
import Derived.Test.YtmfcgglgolajnaaDoorMG
import Derived.Test.YtmfcgglgolajnaaDoorMA
import Derived.Test.YtmfcgglgolajnaaDoorMB
import Derived.Laws.CopyOwn
import Derived.RegionTactic
import Derived.StillTailTactics
import Derived.Test.YtmfcgglgolajnaaDoorMB
/-
  The prefix of the IPv4-mapped addresses (a variable of the package); IPv4, To16, bytealg.Equal and Equal.
-/
namespace Go.Proofs.YtmfcgglgolajnaaDoor
open Go.RowKit
set_option linter.unusedVariables false

/-- The variable holds the prefix. -/
def PreIs (w : World) : Prop := ∃ A c, w.cell? ⟨0, 0, none⟩ = some (.slice A 12 c) ∧ RB w no A 12 c pre12
theorem PreIs.below {w w' : World} (h : PreIs w) (hb : Below w.heap.size w w') : PreIs w' := by
  obtain ⟨A, c, h1, h2⟩ := h
  exact ⟨A, c, by rw [hb.cell (World.block_lt_of_cell? w _ h1)]; exact h1, h2.below hb⟩


set_option maxRecDepth 100000 in
set_option maxHeartbeats 1600000 in
theorem ipv4_any (x0 x1 x2 x3 : UInt8) (w : World) (hp : PreIs w) :
    Calls Tryd.prog 48 #[.int .u8 (x0.toNat : Int), .int .u8 (x1.toNat : Int), .int .u8 (x2.toNat : Int), .int .u8 (x3.toNat : Int)] w (RetBF w (pre12 ++ [x0, x1, x2, x3])) := by
  obtain ⟨i0, hi, hz0, hz1, hz2⟩ := info_parts byte_info
  obtain ⟨A, c, hc, hA⟩ := hp
  have hc' : (w.alloc (.cells (timesOf 16 (.int .u8 0)).toArray 5)).cell? ⟨0, 0, none⟩ = some (.slice A 12 c) := by
    rw [((Below.refl w.heap.size w).alloc (Nat.le_refl _) _).cell (World.block_lt_of_cell? w _ hc)]; exact hc
  obtain ⟨g, o, _, rfl, _, _⟩ := hA.at_ (k := 0) (by omega)
  have hA' := hA.alloc (.cells (timesOf 16 (.int .u8 0)).toArray 5)
  have hblk := Blk.new w 5 (timesOf 16 (.int .u8 0))
  have hmk : ∀ W : World, (Instr.makeSlice 55 (.int .i64 16) (.int .i64 16)).run Tryd.prog W = .ok (.slice (some ⟨W.heap.size, 0, none⟩) 16 16) (W.alloc (.cells (timesOf 16 (.int .u8 0)).toArray 5)) := fun W => run_make1 (P := Tryd.prog) 55 5 i0 (.int .u8 0) Tryd.underlying55 hi hz0 hz1 rfl 16 (by rw [hz2]; omega) (by omega) W
  obtain ⟨w2, hrun, hbl2, hb2⟩ : ∃ w2, (Builtin.copy_ #[55, 22] 3 #[.slice (some ⟨w.heap.size, 0, none⟩) 16 16, .slice (some ⟨g, o, none⟩) 12 c]).run Tryd.prog (w.alloc (.cells (timesOf 16 (.int .u8 0)).toArray 5)) = .ok (.int .i64 12) w2 ∧
      Blk w2 w.heap.size 5 ((pre12 ++ [0, 0, 0, 0]).map fun b : UInt8 => .int .u8 (b.toNat : Int)) ∧ Below w.heap.size w w2 := by
    refine ⟨_, run_copy_row (P := Tryd.prog) _ _ _ _ 5 w.heap.size 0 16 16 ⟨g, o, none⟩ 12 c (timesOf 16 (.int .u8 0)).toArray 5 (pre12.map fun b : UInt8 => .int .u8 (b.toNat : Int)) Tryd.underlying55 (by rw [hi]; simp [hz1]) hblk rfl ?_ (by decide) ?_, ?_, ?_⟩
    · intro j v hv
      obtain ⟨g', o', e, _, _, h⟩ := hA'.2.2.2.2 (by omega)
      cases e
      rw [add_at]
      exact h j v hv
    · intro v hv; simp [pre12] at hv; rcases hv with rfl | rfl <;> rfl
    · exact setRow_heap _ _ _ _ _ _ hblk
    · exact below_setRow ((Below.refl w.heap.size w).alloc (Nat.le_refl _) _) (Nat.le_refl _) _
  have cells : ∀ (u : World), Blk u w.heap.size 5 ((pre12 ++ [0, 0, 0, 0]).map fun b : UInt8 => .int .u8 (b.toNat : Int)) → True := fun _ _ => trivial
  have h12 : w2.cell? ⟨w.heap.size, 12, none⟩ = some (.int .u8 0) := by rw [hbl2.cell]; rfl
  have f12 : w2.frozen? ⟨w.heap.size, 12, none⟩ = false := hbl2.frozen 12
  have hbl3 := hbl2.set_ 12 (.int .u8 (x0.toNat : Int))
  have h13 : (w2.setCell ⟨w.heap.size, 12, none⟩ (.int .u8 (x0.toNat : Int))).cell? ⟨w.heap.size, 13, none⟩ = some (.int .u8 0) := by rw [hbl3.cell]; rfl
  have f13 := hbl3.frozen 13
  have hbl4 := hbl3.set_ 13 (.int .u8 (x1.toNat : Int))
  have h14 : ((w2.setCell ⟨w.heap.size, 12, none⟩ (.int .u8 (x0.toNat : Int))).setCell ⟨w.heap.size, 13, none⟩ (.int .u8 (x1.toNat : Int))).cell? ⟨w.heap.size, 14, none⟩ = some (.int .u8 0) := by rw [hbl4.cell]; rfl
  have f14 := hbl4.frozen 14
  have hbl5 := hbl4.set_ 14 (.int .u8 (x2.toNat : Int))
  have h15 : (((w2.setCell ⟨w.heap.size, 12, none⟩ (.int .u8 (x0.toNat : Int))).setCell ⟨w.heap.size, 13, none⟩ (.int .u8 (x1.toNat : Int))).setCell ⟨w.heap.size, 14, none⟩ (.int .u8 (x2.toNat : Int))).cell? ⟨w.heap.size, 15, none⟩ = some (.int .u8 0) := by rw [hbl5.cell]; rfl
  have f15 := hbl5.frozen 15
  have Hbl := hide (hbl5.set_ 15 (.int .u8 (x3.toNat : Int)))
  have Hb := hide hb2
  clear hc hA hA' hblk hbl2 hbl3 hbl4 hbl5 hb2 cells
  go_enter Tryd.func48, Tryd.ntmps48
  go_wp2_with fail
  go_ret
  refine ⟨some ⟨w.heap.size, 0, none⟩, 16, rfl, ?_, (((Hb.out.setCell (Nat.le_refl _) _).setCell (Nat.le_refl _) _).setCell (Nat.le_refl _) _).setCell (Nat.le_refl _) _⟩
  exact Blk.rb (t := 5) Hbl.out (Nat.lt_irrefl _) rfl (Nat.le_refl _) (by unfold maxLen; omega)
end Go.Proofs.YtmfcgglgolajnaaDoor
/-
  To16, bytealg.Equal and Equal.
-/
namespace Go.Proofs.YtmfcgglgolajnaaDoor
open Go.RowKit
set_option linter.unusedVariables false

set_option maxHeartbeats 400000 in
theorem to16_six (A : Option Addr) (c : Nat) (w : World) :
    Calls Tryd.prog 38 #[.slice A 16 c] w fun e w' => e = .returned (.slice A 16 c) ∧ w = w' := by
  go_enter Tryd.func38, Tryd.ntmps38
  go_wp2
  go_ret
  exact ⟨rfl, rfl⟩

set_option maxHeartbeats 400000 in
theorem to16_odd (A : Option Addr) (n c : Nat) (w : World) (h4 : n ≠ 4) (h16 : n ≠ 16) :
    Calls Tryd.prog 38 #[.slice A n c] w fun e w' => e = .returned (.slice none 0 0) ∧ w = w' := by
  have e4 : ((n : Int) == 4) = false := by simp; omega
  have e16 : ((n : Int) == 16) = false := by simp; omega
  go_enter Tryd.func38, Tryd.ntmps38
  go_wp2
  go_ret
  exact ⟨rfl, rfl⟩

set_option maxRecDepth 100000 in
set_option maxHeartbeats 1600000 in
theorem to16_four (A : Option Addr) (c : Nat) (xs : List UInt8) (w : World) (av : Nat → Prop) (ha : RB w av A 4 c xs) (hp : PreIs w) :
    Calls Tryd.prog 38 #[.slice A 4 c] w (RetBF w (pre12 ++ xs)) := by
  obtain ⟨x0, x1, x2, x3, rfl⟩ : ∃ x0 x1 x2 x3, xs = [x0, x1, x2, x3] := by
    have h := ha.len
    match xs, h with
    | [a, b, c, d], _ => exact ⟨a, b, c, d, rfl⟩
  obtain ⟨g, o, y0, rfl, h0, hc0⟩ := ha.at_ (k := 0) (by omega)
  injection h0 with h0; subst h0
  obtain ⟨g', o', y1, hA, h1, hc1⟩ := ha.at_ (k := 1) (by omega)
  cases hA; injection h1 with h1; subst h1
  obtain ⟨g', o', y2, hA, h2, hc2⟩ := ha.at_ (k := 2) (by omega)
  cases hA; injection h2 with h2; subst h2
  obtain ⟨g', o', y3, hA, h3, hc3⟩ := ha.at_ (k := 3) (by omega)
  cases hA; injection h3 with h3; subst h3
  rw [Nat.add_zero] at hc0
  have Hcall := hide (ipv4_any x0 x1 x2 x3 w.drew hp)
  clear ha hp
  go_enter Tryd.func38, Tryd.ntmps38
  go_wp2_with fail
  go_still_tail 12, (by kernel_rfl)
  change wpList _ _ _ _ _ w.drew
  go_wp2_with fail
  with_reducible refine Hcall.out.mono ?_
  rintro e v1 ⟨A1, d1, rfl, h1, hb1⟩
  have H1 := hide h1
  have Hb1 := hide hb1
  clear h1 hb1
  go_wp2_with fail
  go_ret
  exact ⟨A1, d1, rfl, H1.out, ((Below.refl w.heap.size w).drew).trans Hb1.out⟩

theorem beq_eqL (xs ys : List UInt8) : (xs == ys) = eqL xs ys := by
  unfold eqL
  by_cases h : xs = ys <;> simp [h]

set_option maxHeartbeats 400000 in
theorem bytesEq_any (A B : Option Addr) (n c m d : Nat) (xs ys : List UInt8) (w : World) (av bv : Nat → Prop) (ha : RB w av A n c xs) (hb : RB w bv B m d ys) :
    Calls Tryd.prog 44 #[.slice A n c, .slice B m d] w fun e w' => e = .returned (.bool (eqL xs ys)) ∧ ∃ q, w' = w.drewN q := by
  have h1 := run_string_rb (P := Tryd.prog) 22 9 5 Tryd.underlying22 Tryd.underlying5 Tryd.underlying9 ha
  have h2 := run_string_rb (P := Tryd.prog) 22 9 5 Tryd.underlying22 Tryd.underlying5 Tryd.underlying9 hb
  clear ha hb
  go_enter Tryd.func44, Tryd.ntmps44
  go_wp2_with fail
  go_ret
  exact ⟨ret_bool (beq_eqL xs ys), 0, rfl⟩

/-- The same address. -/
def eqIP (xs ys : List UInt8) : Bool := eqL (longOf xs) (longOf ys)
theorem eqIP_even {xs ys : List UInt8} (h : xs.length = ys.length) : eqIP xs ys = eqL xs ys := by
  unfold eqIP longOf eqL
  rw [h]
  split
  · congr 1; simp
  · rfl
theorem eqL_cut {xs ys : List UInt8} (hy : ys.length = 16) : eqL (pre12 ++ xs) ys = (eqL (ys.take 12) pre12 && eqL xs (ys.drop 12)) := by
  have e : (pre12 ++ xs = ys) ↔ (ys.take 12 = pre12 ∧ xs = ys.drop 12) := by
    constructor
    · rintro rfl; exact ⟨rfl, rfl⟩
    · rintro ⟨h1, h2⟩; rw [h2, ← h1, List.take_append_drop]
  unfold eqL
  rw [show decide (pre12 ++ xs = ys) = decide (ys.take 12 = pre12 ∧ xs = ys.drop 12) from decide_eq_decide.2 e, Bool.decide_and]
theorem eqL_symm {α : Type} [DecidableEq α] (xs ys : List α) : eqL xs ys = eqL ys xs := by unfold eqL; exact decide_eq_decide.2 eq_comm
theorem eqIP_four {xs ys : List UInt8} (hx : xs.length = 4) (hy : ys.length = 16) : eqIP xs ys = (eqL (ys.take 12) pre12 && eqL xs (ys.drop 12)) := by
  unfold eqIP longOf
  rw [if_pos hx, if_neg (by omega), eqL_cut hy]
theorem eqIP_six {xs ys : List UInt8} (hx : xs.length = 16) (hy : ys.length = 4) : eqIP xs ys = (eqL (xs.take 12) pre12 && eqL (xs.drop 12) ys) := by
  unfold eqIP longOf
  rw [if_neg (by omega), if_pos hy, eqL_symm, eqL_cut hx, eqL_symm ys]

set_option maxHeartbeats 400000 in
theorem equal_even (A B : Option Addr) (n c d : Nat) (xs ys : List UInt8) (w : World) (av bv : Nat → Prop) (ha : RB w av A n c xs) (hb : RB w bv B n d ys) :
    Calls Tryd.prog 34 #[.slice A n c, .slice B n d] w fun e w' => e = .returned (.bool (eqIP xs ys)) ∧ ∃ q, w' = w.drewN q := by
  have t : ((n : Int) == (n : Int)) = true := by simp
  have Hcall := hide (bytesEq_any A B n c n d xs ys w av bv ha hb)
  rw [← eqIP_even (by rw [ha.len, hb.len])] at Hcall
  clear ha hb
  go_enter Tryd.func34, Tryd.ntmps34
  go_wp2_with fail
  with_reducible refine Hcall.out.mono ?_
  rintro e v1 ⟨rfl, q, rfl⟩
  go_wp2_with fail
  go_ret
  exact ⟨rfl, q, rfl⟩

set_option maxRecDepth 100000 in
set_option maxHeartbeats 1600000 in
theorem equal_four (A B : Option Addr) (c d : Nat) (xs ys : List UInt8) (w : World) (av bv : Nat → Prop) (ha : RB w av A 4 c xs) (hb : RB w bv B 16 d ys) (hp : PreIs w) :
    Calls Tryd.prog 34 #[.slice A 4 c, .slice B 16 d] w fun e w' => e = .returned (.bool (eqIP xs ys)) ∧ ∃ q, w' = w.drewN q := by
  obtain ⟨gb, ob, _, rfl, _, _⟩ := hb.at_ (k := 0) (by omega)
  obtain ⟨P, pc, hpc, hP⟩ := hp
  have k1 := hb.cap
  have k2 := hb.max
  unfold maxLen at k2
  rw [eqIP_four ha.len hb.len]
  have H1 := hide (fun q => bytesEq_any (some ⟨gb, ob, none⟩) P 12 d 12 pc (ys.take 12) pre12 (w.drewN q) bv no ((hb.take (m := 12) (by omega)).drewN q) (hP.drewN q))
  have H2 := hide (fun q => bytesEq_any A (some ⟨gb, ob + 12, none⟩) 4 c 4 (d - 12) xs (ys.drop 12) (w.drewN q) av bv (ha.drewN q) ((hb.drop (k := 12) rfl (by omega)).drewN q))
  clear ha hb hP
  cases h12 : eqL (ys.take 12) pre12 with
  | true =>
    rw [h12] at H1
    clear h12
    generalize eqL xs (ys.drop 12) = r at *
    go_enter Tryd.func34, Tryd.ntmps34
    go_wp2_with fail
    go_quiet ((first | (go_at_call 44; exact Calls.quiet_of (H1.out _)) | (go_at_call 44; exact Calls.quiet_of (H2.out _))))
    go_wp2_with fail
    go_ret
    exact ⟨rfl, _, rfl⟩
  | false =>
    rw [h12] at H1
    clear h12 H2
    rw [Bool.false_and]
    go_enter Tryd.func34, Tryd.ntmps34
    go_wp2_with fail
    go_quiet ((go_at_call 44; exact Calls.quiet_of (H1.out _)))
    go_wp2_with fail
    go_ret
    exact ⟨rfl, _, rfl⟩
end Go.Proofs.YtmfcgglgolajnaaDoor
/-
  Equal of a long and a short one; To16 and To4 of any slice of bytes.
-/
namespace Go.Proofs.YtmfcgglgolajnaaDoor
open Go.RowKit
set_option linter.unusedVariables false

set_option maxRecDepth 100000 in
set_option maxHeartbeats 1600000 in
theorem equal_six (A B : Option Addr) (c d : Nat) (xs ys : List UInt8) (w : World) (av bv : Nat → Prop) (ha : RB w av A 16 c xs) (hb : RB w bv B 4 d ys) (hp : PreIs w) :
    Calls Tryd.prog 34 #[.slice A 16 c, .slice B 4 d] w fun e w' => e = .returned (.bool (eqIP xs ys)) ∧ ∃ q, w' = w.drewN q := by
  obtain ⟨ga, oa, _, rfl, _, _⟩ := ha.at_ (k := 0) (by omega)
  obtain ⟨P, pc, hpc, hP⟩ := hp
  have k1 := ha.cap
  have k2 := ha.max
  unfold maxLen at k2
  rw [eqIP_six ha.len hb.len]
  have H1 := hide (fun q => bytesEq_any (some ⟨ga, oa, none⟩) P 12 c 12 pc (xs.take 12) pre12 (w.drewN q) av no ((ha.take (m := 12) (by omega)).drewN q) (hP.drewN q))
  have H2 := hide (fun q => bytesEq_any (some ⟨ga, oa + 12, none⟩) B 4 (c - 12) 4 d (xs.drop 12) ys (w.drewN q) av bv ((ha.drop (k := 12) rfl (by omega)).drewN q) (hb.drewN q))
  clear ha hb hP
  cases h12 : eqL (xs.take 12) pre12 with
  | true =>
    rw [h12] at H1
    clear h12
    generalize eqL (xs.drop 12) ys = r at *
    go_enter Tryd.func34, Tryd.ntmps34
    go_wp2_with fail
    go_quiet ((first | (go_at_call 44; exact Calls.quiet_of (H1.out _)) | (go_at_call 44; exact Calls.quiet_of (H2.out _))))
    go_wp2_with fail
    go_ret
    exact ⟨rfl, _, rfl⟩
  | false =>
    rw [h12] at H1
    clear h12 H2
    rw [Bool.false_and]
    go_enter Tryd.func34, Tryd.ntmps34
    go_wp2_with fail
    go_quiet ((go_at_call 44; exact Calls.quiet_of (H1.out _)))
    go_wp2_with fail
    go_ret
    exact ⟨rfl, _, rfl⟩

theorem equal_any (A B : Option Addr) (n m c d : Nat) (xs ys : List UInt8) (w : World) (av bv : Nat → Prop) (ha : RB w av A n c xs) (hb : RB w bv B m d ys) (hn : n = 4 ∨ n = 16) (hm : m = 4 ∨ m = 16) (hp : PreIs w) :
    Calls Tryd.prog 34 #[.slice A n c, .slice B m d] w fun e w' => e = .returned (.bool (eqIP xs ys)) ∧ ∃ q, w' = w.drewN q := by
  rcases hn with rfl | rfl <;> rcases hm with rfl | rfl
  · exact equal_even A B _ c d xs ys w av bv ha hb
  · exact equal_four A B c d xs ys w av bv ha hb hp
  · exact equal_six A B c d xs ys w av bv ha hb hp
  · exact equal_even A B _ c d xs ys w av bv ha hb

/-- A slice of bytes comes back; nothing that was there has turned. -/
def RetN (w : World) (bs : List UInt8) (e : Ending) (w' : World) : Prop := ∃ A c, e = .returned (.slice A bs.length c) ∧ RB w' no A bs.length c bs ∧ Below w.heap.size w w'

def to16L (xs : List UInt8) : List UInt8 := if xs.length = 4 then pre12 ++ xs else if xs.length = 16 then xs else []
def to4L (xs : List UInt8) : List UInt8 := if xs.length = 4 then xs else if xs.length = 16 ∧ mapd xs = true then xs.drop 12 else []
theorem to16L_le (xs : List UInt8) : (to16L xs).length ≤ 16 := by
  unfold to16L; split
  · rw [List.length_append]; simp [pre12]; omega
  · split <;> simp_all
theorem to4L_le (xs : List UInt8) : (to4L xs).length ≤ 16 := by
  unfold to4L; split
  · omega
  · split <;> simp_all

theorem to16_any (A : Option Addr) (n c : Nat) (xs : List UInt8) (w : World) (av : Nat → Prop) (ha : RB w av A n c xs) (hp : PreIs w) :
    Calls Tryd.prog 38 #[.slice A n c] w (RetN w (to16L xs)) := by
  have hl := ha.len
  unfold to16L
  by_cases h4 : n = 4
  · subst h4
    rw [if_pos hl]
    exact (to16_four A c xs w av ha hp).mono fun e w' ⟨A', c', he, h1, h2⟩ => ⟨A', c', he, h1.free, h2⟩
  · rw [if_neg (by omega)]
    by_cases h16 : n = 16
    · subst h16
      rw [if_pos hl]
      refine (to16_six A c w).mono ?_
      rintro e w' ⟨rfl, rfl⟩
      exact ⟨A, c, by rw [hl], by rw [hl]; exact ha.free, Below.refl _ _⟩
    · rw [if_neg (by omega)]
      refine (to16_odd A n c w h4 h16).mono ?_
      rintro e w' ⟨rfl, rfl⟩
      exact ⟨none, 0, rfl, RB.nil, Below.refl _ _⟩
theorem to4_any (A : Option Addr) (n c : Nat) (xs : List UInt8) (w : World) (av : Nat → Prop) (ha : RB w av A n c xs) (hp : PreIs w) :
    Calls Tryd.prog 42 #[.slice A n c] w (RetN w (to4L xs)) := by
  have hl := ha.len
  unfold to4L
  by_cases h4 : n = 4
  · subst h4
    rw [if_pos hl]
    refine (to4_four A c w).mono ?_
    rintro e w' ⟨rfl, rfl⟩
    exact ⟨A, c, by rw [hl], by rw [hl]; exact ha.free, Below.refl _ _⟩
  · rw [if_neg (by omega)]
    by_cases h16 : n = 16
    · subst h16
      cases hm : mapd xs with
      | true =>
        rw [if_pos ⟨hl, rfl⟩]
        obtain ⟨g, o, _, rfl, _, _⟩ := ha.at_ (k := 0) (by omega)
        have hd := ha.free.drop (k := 12) rfl (by omega)
        have hdl : (xs.drop 12).length = 4 := by rw [List.length_drop]; omega
        refine (to4_mapped g o c xs w av ha hm).mono ?_
        rintro e w' ⟨rfl, rfl⟩
        exact ⟨some ⟨g, o + 12, none⟩, c - 12, by rw [hdl], by rw [hdl]; exact hd, Below.refl _ _⟩
      | false =>
        rw [if_neg (by simp)]
        refine (to4_six A c xs w av ha hm).mono ?_
        rintro e w' ⟨rfl, rfl⟩
        exact ⟨none, 0, rfl, RB.nil, Below.refl _ _⟩
    · rw [if_neg (by omega)]
      refine (to4_odd A n c w h4 h16).mono ?_
      rintro e w' ⟨rfl, rfl⟩
      exact ⟨none, 0, rfl, RB.nil, Below.refl _ _⟩
end Go.Proofs.YtmfcgglgolajnaaDoor
/-
  The contract of To16Each.
-/
namespace Go.Proofs.YtmfcgglgolajnaaDoor
open Go.RowKit
set_option linter.unusedVariables false

theorem to16L_snoc {bss : List (List UInt8)} {b : List UInt8} {k : Nat} (h : bss[k]? = some b) : (bss.take (k + 1)).map to16L = (bss.take k).map to16L ++ [to16L b] := by
  rw [take_snoc h, List.map_append]; rfl
def to16Ls (bss : List (List UInt8)) : List (List UInt8) := bss.map to16L

set_option maxHeartbeats 3200000 in
theorem to16Each_any (L : Option Addr) (N e : Nat) (bss : List (List UInt8)) (w : World) (av : Nat → Prop) (hL : RBB w av L N e bss) (hall : ∀ b ∈ bss, b.length ≤ 140737488351232) (hN : N * 24 ≤ 140737488351232) (hp : PreIs w) :
    Calls Tryd.prog 22 #[.slice L N e] w (RetBBF (fun g => g < w.heap.size) w (to16Ls bss)) := by
  obtain ⟨i0, hi, hz0, hz1, hz2⟩ := info_parts bytes_info
  have HL := hide hL.free
  have Hall := hide hall
  have Hp := hide hp
  have Hst := hide (Made.start (fun g => g < w.heap.size) w)
  clear hL hall hp
  go_enter Tryd.func22, Tryd.ntmps22
  go_wp2_with fail
  go_loopw [3, 9] (fun v i wr => ∃ k : Nat, k ≤ N ∧ i = .int .i64 k ∧ Made (fun g => g < w.heap.size) w (to16Ls (bss.take k)) v wr) (fun _ i _ => N - (intOf i).toNat)
  case atStart => exact ⟨0, Nat.zero_le _, rfl, Hst.out⟩
  case round =>
    obtain ⟨k, hk, rfl, hr⟩ := hrel
    have Hr := hide hr
    by_cases hlt : k < N
    · obtain ⟨xs, h1, h2, h3⟩ := hr
      obtain ⟨g, o, B, mb, f, b, rfl, hbk, hc, hb⟩ := (HL.out.below h3).at_ hlt
      have hbl : mb ≤ 140737488351232 := by rw [← hb.len]; exact Hall.out b (List.mem_of_getElem? hbk)
      have Hcall := hide (formBytes_own B mb f b wr no hb (by omega))
      have Hsn : Hid (to16Ls (bss.take (k + 1)) = to16Ls (bss.take k) ++ [to16L b]) := hide (to16L_snoc hbk)
      have hlen : (to16Ls (bss.take k)).length = k := by unfold to16Ls; rw [List.length_map, List.length_take, HL.out.len]; omega
      rw [hlen] at h1
      have Hlen := hide hlen
      have H1 := hide h1
      have H2 := hide h2
      have H3 := hide h3
      have hsz := h3.size
      have Hown : Hid (∀ g, rowOf u3 g → g < wr.heap.size) := hide fun g h => (h1.lt g h).2
      generalize to16Ls (bss.take k) = al at *
      clear hb hbk h1 h2 h3 hlen
      go_wp2_with fail
      with_reducible refine Hcall.out.mono ?_
      rintro e v1 ⟨v, rfl, h1, hb1⟩
      obtain ⟨A1, d1, rfl, h1'⟩ := RB.of_own h1
      have Hcall2 := hide (to16_any A1 mb d1 b v1 no h1' (Hp.out.below (H3.out.trans (hb1.mono H3.out.size))))
      have H3' := hide hb1
      clear h1 h1' hb1 Hcall
      go_wp2_with fail
      with_reducible refine Hcall2.out.mono ?_
      rintro e v2 ⟨A2, d2, rfl, h2, hb2⟩
      have hcl := to16L_le b
      have Hcall3 := hide (formBytes_own A2 (to16L b).length d2 (to16L b) v2 no h2 (by omega))
      have H4' := hide (H3'.out.trans (hb2.mono H3'.out.size))
      generalize hcm : to16L b = cm at *
      clear h2 hb2 Hcall2 H3' hcm
      go_wp2_with fail
      with_reducible refine Hcall3.out.mono ?_
      rintro e w1 ⟨v, rfl, h5, hb5⟩
      have hs2 := H4'.out.size
      obtain ⟨Ac, cc, rfl, hrb⟩ := RB.of_own_av (av := fun g => g < w.heap.size ∨ rowOf u3 g) h5 (fun g h => h.elim (fun h => by omega) (fun h => by have := Hown.out g h; omega))
      have hcb := H4'.out.trans (hb5.mono H4'.out.size)
      have h1' := own_below H1.out hcb
      rw [← Hlen.out] at h1'
      have h2' := H2.out.keep (Kept.of_below hcb _)
      have h3' := H3.out.trans (hcb.mono H3.out.size)
      have hsz1 := hcb.size
      have Ho := hide (h1'.alloc (.cells #[.slice Ac cm.length cc] 22))
      have Hf := hide (fun v' w' => Made.step (v' := v') (w' := w') h1' h2' h3' hrb)
      rw [Hlen.out] at Ho Hf
      clear h1' h2' h3' hrb hcb h5 hb5 Hcall3 H4'
      go_wp2_with (at_builtin; refine wpList_append_rd _ rfl (.tmp 13) (.tmp 18) _ rfl w.heap.size 22 i0 _ 24 Tryd.underlying27 hi hz0 hz1 hz2 rfl _ k _ rfl Ho.out no (some ⟨w1.heap.size, 0, none⟩) 1 1 [.slice Ac cm.length cc] rfl ?_ ?_ ?_ ?_ ?_ ?_)
      · exact Rd.one w1 _ _ no (fun h => h)
      · intro u hu; simp at hu; subst hu; rfl
      · unfold maxLen; omega
      · omega
      · simp; omega
      intro v' w2 h1 h2 h3
      have Hs := hide (Hf.out v' w2 h1 h2 h3)
      clear h1 h2 h3
      go_wp2_with fail
      go_roundw
      case rel => exact ⟨k + 1, by omega, by go_num, by rw [Hsn.out]; exact Hs.out⟩
      case measure => simp [intOf]; omega
    · obtain rfl : k = N := by omega
      clear hr
      go_wp2_with fail
      go_ret
      have h := Hr.out
      rw [List.take_of_length_le (by rw [HL.out.len]; omega)] at h
      exact h.retF (fun g h => h)
end Go.Proofs.YtmfcgglgolajnaaDoor
/-
  The contract of To4Each.
-/
namespace Go.Proofs.YtmfcgglgolajnaaDoor
open Go.RowKit
set_option linter.unusedVariables false

theorem to4L_snoc {bss : List (List UInt8)} {b : List UInt8} {k : Nat} (h : bss[k]? = some b) : (bss.take (k + 1)).map to4L = (bss.take k).map to4L ++ [to4L b] := by
  rw [take_snoc h, List.map_append]; rfl
def to4Ls (bss : List (List UInt8)) : List (List UInt8) := bss.map to4L

set_option maxHeartbeats 3200000 in
theorem to4Each_any (L : Option Addr) (N e : Nat) (bss : List (List UInt8)) (w : World) (av : Nat → Prop) (hL : RBB w av L N e bss) (hall : ∀ b ∈ bss, b.length ≤ 140737488351232) (hN : N * 24 ≤ 140737488351232) (hp : PreIs w) :
    Calls Tryd.prog 29 #[.slice L N e] w (RetBBF (fun g => g < w.heap.size) w (to4Ls bss)) := by
  obtain ⟨i0, hi, hz0, hz1, hz2⟩ := info_parts bytes_info
  have HL := hide hL.free
  have Hall := hide hall
  have Hp := hide hp
  have Hst := hide (Made.start (fun g => g < w.heap.size) w)
  clear hL hall hp
  go_enter Tryd.func29, Tryd.ntmps29
  go_wp2_with fail
  go_loopw [3, 9] (fun v i wr => ∃ k : Nat, k ≤ N ∧ i = .int .i64 k ∧ Made (fun g => g < w.heap.size) w (to4Ls (bss.take k)) v wr) (fun _ i _ => N - (intOf i).toNat)
  case atStart => exact ⟨0, Nat.zero_le _, rfl, Hst.out⟩
  case round =>
    obtain ⟨k, hk, rfl, hr⟩ := hrel
    have Hr := hide hr
    by_cases hlt : k < N
    · obtain ⟨xs, h1, h2, h3⟩ := hr
      obtain ⟨g, o, B, mb, f, b, rfl, hbk, hc, hb⟩ := (HL.out.below h3).at_ hlt
      have hbl : mb ≤ 140737488351232 := by rw [← hb.len]; exact Hall.out b (List.mem_of_getElem? hbk)
      have Hcall := hide (formBytes_own B mb f b wr no hb (by omega))
      have Hsn : Hid (to4Ls (bss.take (k + 1)) = to4Ls (bss.take k) ++ [to4L b]) := hide (to4L_snoc hbk)
      have hlen : (to4Ls (bss.take k)).length = k := by unfold to4Ls; rw [List.length_map, List.length_take, HL.out.len]; omega
      rw [hlen] at h1
      have Hlen := hide hlen
      have H1 := hide h1
      have H2 := hide h2
      have H3 := hide h3
      have hsz := h3.size
      have Hown : Hid (∀ g, rowOf u3 g → g < wr.heap.size) := hide fun g h => (h1.lt g h).2
      generalize to4Ls (bss.take k) = al at *
      clear hb hbk h1 h2 h3 hlen
      go_wp2_with fail
      with_reducible refine Hcall.out.mono ?_
      rintro e v1 ⟨v, rfl, h1, hb1⟩
      obtain ⟨A1, d1, rfl, h1'⟩ := RB.of_own h1
      have Hcall2 := hide (to4_any A1 mb d1 b v1 no h1' (Hp.out.below (H3.out.trans (hb1.mono H3.out.size))))
      have H3' := hide hb1
      clear h1 h1' hb1 Hcall
      go_wp2_with fail
      with_reducible refine Hcall2.out.mono ?_
      rintro e v2 ⟨A2, d2, rfl, h2, hb2⟩
      have hcl := to4L_le b
      have Hcall3 := hide (formBytes_own A2 (to4L b).length d2 (to4L b) v2 no h2 (by omega))
      have H4' := hide (H3'.out.trans (hb2.mono H3'.out.size))
      generalize hcm : to4L b = cm at *
      clear h2 hb2 Hcall2 H3' hcm
      go_wp2_with fail
      with_reducible refine Hcall3.out.mono ?_
      rintro e w1 ⟨v, rfl, h5, hb5⟩
      have hs2 := H4'.out.size
      obtain ⟨Ac, cc, rfl, hrb⟩ := RB.of_own_av (av := fun g => g < w.heap.size ∨ rowOf u3 g) h5 (fun g h => h.elim (fun h => by omega) (fun h => by have := Hown.out g h; omega))
      have hcb := H4'.out.trans (hb5.mono H4'.out.size)
      have h1' := own_below H1.out hcb
      rw [← Hlen.out] at h1'
      have h2' := H2.out.keep (Kept.of_below hcb _)
      have h3' := H3.out.trans (hcb.mono H3.out.size)
      have hsz1 := hcb.size
      have Ho := hide (h1'.alloc (.cells #[.slice Ac cm.length cc] 22))
      have Hf := hide (fun v' w' => Made.step (v' := v') (w' := w') h1' h2' h3' hrb)
      rw [Hlen.out] at Ho Hf
      clear h1' h2' h3' hrb hcb h5 hb5 Hcall3 H4'
      go_wp2_with (at_builtin; refine wpList_append_rd _ rfl (.tmp 13) (.tmp 18) _ rfl w.heap.size 22 i0 _ 24 Tryd.underlying27 hi hz0 hz1 hz2 rfl _ k _ rfl Ho.out no (some ⟨w1.heap.size, 0, none⟩) 1 1 [.slice Ac cm.length cc] rfl ?_ ?_ ?_ ?_ ?_ ?_)
      · exact Rd.one w1 _ _ no (fun h => h)
      · intro u hu; simp at hu; subst hu; rfl
      · unfold maxLen; omega
      · omega
      · simp; omega
      intro v' w2 h1 h2 h3
      have Hs := hide (Hf.out v' w2 h1 h2 h3)
      clear h1 h2 h3
      go_wp2_with fail
      go_roundw
      case rel => exact ⟨k + 1, by omega, by go_num, by rw [Hsn.out]; exact Hs.out⟩
      case measure => simp [intOf]; omega
    · obtain rfl : k = N := by omega
      clear hr
      go_wp2_with fail
      go_ret
      have h := Hr.out
      rw [List.take_of_length_le (by rw [HL.out.len]; omega)] at h
      exact h.retF (fun g h => h)
end Go.Proofs.YtmfcgglgolajnaaDoor
/-
  The contracts of fAddresses and EqualEach.
-/
namespace Go.Proofs.YtmfcgglgolajnaaDoor
open Go.RowKit
set_option linter.unusedVariables false

def ok46 (b : List UInt8) : Bool := decide (b.length = 4) || decide (b.length = 16)
def fAddrL (bss : List (List UInt8)) : List (List UInt8) := bss.filter ok46
theorem fAddrL_keep {bss : List (List UInt8)} {k : Nat} {b : List UInt8} (hb : bss[k]? = some b) (h : ok46 b = true) : fAddrL (bss.take (k + 1)) = fAddrL (bss.take k) ++ [b] := by
  unfold fAddrL; rw [take_snoc hb, List.filter_append]; simp [h]
theorem fAddrL_drop {bss : List (List UInt8)} {k : Nat} {b : List UInt8} (hb : bss[k]? = some b) (h : ok46 b = false) : fAddrL (bss.take (k + 1)) = fAddrL (bss.take k) := by
  unfold fAddrL; rw [take_snoc hb, List.filter_append]; simp [h]
theorem fAddrL_le (bss : List (List UInt8)) (k : Nat) : (fAddrL (bss.take k)).length ≤ k :=
  Nat.le_trans (List.length_filter_le _ _) (by rw [List.length_take]; omega)
theorem fAddrL_mem {bss : List (List UInt8)} {b : List UInt8} (h : b ∈ fAddrL bss) : b.length = 4 ∨ b.length = 16 := by
  unfold fAddrL ok46 at h
  simp at h
  exact h.2

set_option maxHeartbeats 3200000 in
theorem fAddresses_any (L : Option Addr) (N e : Nat) (bss : List (List UInt8)) (w : World) (hL : RBB w no L N e bss) (hN : N * 24 ≤ 140737488351232) :
    Calls Tryd.prog 18 #[.slice L N e] w (RetBBF (fun g => g < w.heap.size) w (fAddrL bss)) := by
  obtain ⟨i0, hi, hz0, hz1, hz2⟩ := info_parts bytes_info
  have HL := hide hL
  clear hL
  have Hst := hide (Made.start (fun g => g < w.heap.size) w)
  go_enter Tryd.func18, Tryd.ntmps18
  go_wp2
  go_loopw [3, 9] (fun v i wr => ∃ k : Nat, k ≤ N ∧ i = .int .i64 k ∧ Made (fun g => g < w.heap.size) w (fAddrL (bss.take k)) v wr) (fun _ i _ => N - (intOf i).toNat)
  case atStart => exact ⟨0, Nat.zero_le _, rfl, Hst.out⟩
  case round =>
    obtain ⟨k, hk, rfl, hr⟩ := hrel
    have Hr := hide hr
    by_cases hlt : k < N
    · obtain ⟨xs, h1, h2, h3⟩ := hr
      obtain ⟨g, o, B, mb, f, b, rfl, hbk, hc, hb⟩ := (HL.out.below h3).at_ hlt
      have Hbk := hide hbk
      have Hb := hide hb
      have hbl := Hb.out.len
      have Hbl := hide hbl
      have H1 := hide h1
      have H2 := hide h2
      have H3 := hide h3
      clear hbk hb h1 h2 h3 hbl
      by_cases hlm : mb = 4 ∨ mb = 16
      · have hcase : ((mb : Int) == 4) = true ∨ ((mb : Int) == 4) = false ∧ ((mb : Int) == 16) = true := by rcases hlm with rfl | rfl <;> simp
        have hm16 : mb ≤ 16 := by omega
        have hsz := H3.out.size
        have hal := fAddrL_le bss k
        have Hg := hide (fAddrL_keep Hbk.out (by unfold ok46; rw [Hbl.out]; simpa using hlm))
        generalize fAddrL (bss.take k) = al at *
        have Hcop := hide (copied_own B mb f b wr no Hb.out (by omega))
        have hown : ∀ g, (g < w.heap.size ∨ rowOf u3 g) → g < wr.heap.size := fun g hg => hg.elim (fun h => by omega) (fun h => (H1.out.lt g h).2)
        have Hown := hide hown
        clear hown hlm
        rcases hcase with t1 | ⟨t1, t2⟩
        all_goals
          go_wp2_with fail
          with_reducible refine Hcop.out.mono ?_
          rintro e w1 ⟨vc, rfl, hcv, hcb⟩
          obtain ⟨Ac, cc, rfl, hrb⟩ := RB.of_own_av (av := fun g => g < w.heap.size ∨ rowOf u3 g) hcv Hown.out
          have h1' := own_below H1.out hcb
          have h2' := H2.out.keep (Kept.of_below hcb _)
          have h3' := H3.out.trans (hcb.mono H3.out.size)
          have hsz1 := hcb.size
          have Ho := hide (h1'.alloc (.cells #[.slice Ac mb cc] 22))
          have Hf := hide (fun v' w' => Made.step (v' := v') (w' := w') h1' h2' h3' hrb)
          clear h1' h2' h3' hrb hcv hcb
          go_wp2_with (at_builtin; refine wpList_append_rd _ rfl (.tmp 21) (.tmp 24) _ rfl w.heap.size 22 i0 _ 24 Tryd.underlying27 hi hz0 hz1 hz2 rfl _ al.length _ rfl Ho.out no (some ⟨w1.heap.size, 0, none⟩) 1 1 [.slice Ac mb cc] rfl ?_ ?_ ?_ ?_ ?_ ?_)
          · exact Rd.one w1 _ _ no (fun h => h)
          · intro u hu; simp at hu; subst hu; rfl
          · unfold maxLen; omega
          · omega
          · simp; omega
          intro v' w2 h1 h2 h3
          have Hs := hide (Hf.out v' w2 h1 h2 h3)
          clear h1 h2 h3
          go_wp2_with fail
          go_roundw
          case rel => exact ⟨k + 1, by omega, by go_num, by rw [Hg.out]; exact Hs.out⟩
          case measure => simp [intOf]; omega
      · have t1 : ((mb : Int) == 4) = false := by simp; omega
        have t2 : ((mb : Int) == 16) = false := by simp; omega
        have Hg := hide (fAddrL_drop Hbk.out (by unfold ok46; rw [Hbl.out]; simpa using hlm))
        clear hlm
        go_wp2_with fail
        go_roundw
        case rel => exact ⟨k + 1, by omega, by go_num, by rw [Hg.out]; exact Hr.out⟩
        case measure => simp [intOf]; omega
    · obtain rfl : k = N := by omega
      clear hr
      go_wp2
      go_ret
      have h1 := Hr.out
      rw [List.take_of_length_le (by rw [HL.out.len]; omega)] at h1
      exact h1.retF (fun _ h => h)

theorem bool_info : (Tryd.prog.info? 4).map (fun i => (i.zero, i.size, i.bytes)) = some (some (.bool false), 1, 1) := by kernel_rfl
/-- A slice of bools comes back; nothing that was there has turned. -/
def RetL (w : World) (ys : List Bool) (e : Ending) (w' : World) : Prop := ∃ A c, e = .returned (.slice A ys.length c) ∧ RL w' no A ys.length c ys ∧ Below w.heap.size w w'
/-- .. in new memory. -/
def RetLF (w : World) (ys : List Bool) (e : Ending) (w' : World) : Prop := ∃ A c, e = .returned (.slice A ys.length c) ∧ RL w' (fun g => g < w.heap.size) A ys.length c ys ∧ Below w.heap.size w w'
def eqTo (xs : List UInt8) (bss : List (List UInt8)) (k : Nat) : List Value := ((bss.take k).map (eqIP xs)).map Value.bool
theorem eqTo_snoc {xs : List UInt8} {bss : List (List UInt8)} {k : Nat} {b : List UInt8} (h : bss[k]? = some b) : eqTo xs bss (k + 1) = eqTo xs bss k ++ [.bool (eqIP xs b)] := by
  unfold eqTo; rw [take_snoc h]; simp

set_option maxHeartbeats 3200000 in
theorem equalEach_new (A L : Option Addr) (n c N e : Nat) (xs : List UInt8) (bss : List (List UInt8)) (w : World) (ha : RB w no A n c xs) (hL : RBB w no L N e bss) (hn : n = 4 ∨ n = 16) (hall : ∀ b ∈ bss, b.length = 4 ∨ b.length = 16) (hN : N ≤ 140737488351232) (hp : PreIs w) :
    Calls Tryd.prog 13 #[.slice A n c, .slice L N e] w (RetLF w (bss.map (eqIP xs))) := by
  obtain ⟨i0, hi, hz0, hz1, hz2⟩ := info_parts bool_info
  have Ha := hide ha
  have HL := hide hL
  have Hall := hide hall
  have Hn := hide hn
  have Hp := hide hp
  have hn16 : n ≤ 16 := by omega
  have Hst : Hid ((w.alloc (.cells #[] 4)).ownsRow w.heap.size 4 1 (.slice (some ⟨w.heap.size, 0, none⟩) 0 0) 0 (eqTo xs bss 0) ∧ Below w.heap.size w (w.alloc (.cells #[] 4))) :=
    hide ⟨own_empty w w.heap.size _ (Nat.le_refl _), (Below.refl _ _).alloc (Nat.le_refl _) _⟩
  clear ha hL hall hn hp
  go_enter Tryd.func13, Tryd.ntmps13
  go_wp2
  go_loopw [5, 11] (fun v i wr => ∃ k : Nat, k ≤ N ∧ i = .int .i64 k ∧ wr.ownsRow w.heap.size 4 1 v k (eqTo xs bss k) ∧ Below w.heap.size w wr) (fun _ i _ => N - (intOf i).toNat)
  case atStart => exact ⟨0, Nat.zero_le _, rfl, Hst.out⟩
  case round =>
    obtain ⟨k, hk, rfl, h1, h2⟩ := hrel
    have H1 := hide h1
    have H2 := hide h2
    by_cases hlt : k < N
    · obtain ⟨g, o, B, mb, f, b, rfl, hbk, hc, hb⟩ := (HL.out.below h2).at_ hlt
      have hmb : mb = 4 ∨ mb = 16 := by rw [← hb.len]; exact Hall.out b (List.mem_of_getElem? hbk)
      have hm16 : mb ≤ 16 := by omega
      have Hmb := hide hmb
      have Hb := hide hb
      have Hsn := hide (eqTo_snoc (xs := xs) hbk)
      have hsz := h2.size
      have Hc1 := hide (formBytes_own A n c xs wr no (Ha.out.below h2) (by omega))
      have Hp2 := hide (Hp.out.below h2)
      generalize eqTo xs bss k = al at *
      clear hbk hb h1 h2 hmb
      go_wp2_with fail
      with_reducible refine Hc1.out.mono ?_
      rintro e v1 ⟨v, rfl, h1, hb1⟩
      obtain ⟨A1, d1, rfl, h1'⟩ := RB.of_own h1
      have R1 := hide h1'
      have Hc2 := hide (formBytes_own B mb f b v1 no (Hb.out.below hb1) (by omega))
      have B1 := hide hb1
      clear h1 h1' hb1
      go_wp2_with fail
      with_reducible refine Hc2.out.mono ?_
      rintro e v2 ⟨v, rfl, h2, hb2⟩
      obtain ⟨A2, d2, rfl, h2'⟩ := RB.of_own h2
      have B2 := hide (B1.out.trans (hb2.mono B1.out.size))
      have Hc3 := hide (equal_any A1 A2 n mb d1 d2 xs b v2 no no (R1.out.below hb2) h2' Hn.out Hmb.out (Hp2.out.below B2.out))
      have Ho := hide (fun q : Nat => ((own_drewN (own_below H1.out B2.out) q).alloc (.cells #[.bool (eqIP xs b)] 4)))
      have B3 := hide (H2.out.trans (B2.out.mono H2.out.size))
      have hs3 := B3.out.size
      generalize eqIP xs b = yb at *
      clear h2 h2' hb2
      go_wp2_with fail
      with_reducible refine Hc3.out.mono ?_
      rintro e v3 ⟨rfl, q, rfl⟩
      go_wp2_with (at_builtin; refine wpList_append_rd _ rfl (.tmp 15) (.tmp 21) _ rfl w.heap.size 4 i0 _ 1 Tryd.underlying25 hi hz0 hz1 hz2 rfl _ k _ rfl (Ho.out q) no (some ⟨v2.heap.size, 0, none⟩) 1 1 [.bool yb] rfl ?c0 ?c1 ?c2 ?c3 ?c4 ?_)
      case c0 => exact Rd.one (v2.drewN q) _ _ no (fun h => h)
      case c1 => intro u hu; simp at hu; subst hu; rfl
      case c2 => unfold maxLen; omega
      case c3 => omega
      case c4 => simp; omega
      intro v' w2 h1 h2 h3
      have Hs := hide h1
      rw [← Hsn.out] at Hs
      have Hbb := hide (below_append ((below_drewN B3.out q).alloc (by simpa using hs3) _) h2 (Ho.out q) (by simp; omega))
      clear h1 h2 h3
      go_wp2_with fail
      go_roundw
      case rel => exact ⟨k + 1, by omega, by go_num, Hs.out, Hbb.out⟩
      case measure => simp [intOf]; omega
    · obtain rfl : k = N := by omega
      clear h1 h2
      go_wp2
      go_ret
      have h1 := H1.out
      unfold eqTo at h1
      rw [List.take_of_length_le (by rw [HL.out.len]; omega)] at h1
      obtain ⟨A', c', rfl, hRL⟩ := RL.of_own_av (av := fun g => g < w.heap.size) h1 (fun g h => h)
      have hl : (bss.map (eqIP xs)).length = k := by rw [List.length_map, HL.out.len]
      exact ⟨A', c', by rw [hl]; rfl, by rw [hl]; exact hRL, H2.out⟩
theorem equalEach_any (A L : Option Addr) (n c N e : Nat) (xs : List UInt8) (bss : List (List UInt8)) (w : World) (ha : RB w no A n c xs) (hL : RBB w no L N e bss) (hn : n = 4 ∨ n = 16) (hall : ∀ b ∈ bss, b.length = 4 ∨ b.length = 16) (hN : N ≤ 140737488351232) (hp : PreIs w) :
    Calls Tryd.prog 13 #[.slice A n c, .slice L N e] w (RetL w (bss.map (eqIP xs))) :=
  (equalEach_new A L n c N e xs bss w ha hL hn hall hN hp).mono fun _ _ ⟨A', c', h1, h2, h3⟩ => ⟨A', c', h1, h2.free, h3⟩
end Go.Proofs.YtmfcgglgolajnaaDoor
