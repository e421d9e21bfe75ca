/-
  To16, bytealg.Equal and Equal.
-/
import Derived.Test.YtmfcgglgolajnaaDoorPre
import Derived.StillTailTactics
namespace Go.Proofs.YtmfcgglgolajnaaDoor
open Go.RowKit
set_option linter.unusedVariables false

set_option maxHeartbeats 400000 in
theorem to16_six (A : Option Addr) (c : Nat) (w : World) :
    Calls Tryd.prog 38 #[.slice A 16 c] w fun e w' => e = .returned (.slice A 16 c) ∧ w = w' := by
  go_enter Tryd.func38, Tryd.ntmps38
  go_wp2
  go_ret
  exact ⟨rfl, rfl⟩

set_option maxHeartbeats 400000 in
theorem to16_odd (A : Option Addr) (n c : Nat) (w : World) (h4 : n ≠ 4) (h16 : n ≠ 16) :
    Calls Tryd.prog 38 #[.slice A n c] w fun e w' => e = .returned (.slice none 0 0) ∧ w = w' := by
  have e4 : ((n : Int) == 4) = false := by simp; omega
  have e16 : ((n : Int) == 16) = false := by simp; omega
  go_enter Tryd.func38, Tryd.ntmps38
  go_wp2
  go_ret
  exact ⟨rfl, rfl⟩

set_option maxRecDepth 100000 in
set_option maxHeartbeats 1600000 in
theorem to16_four (A : Option Addr) (c : Nat) (xs : List UInt8) (w : World) (av : Nat → Prop) (ha : RB w av A 4 c xs) (hp : PreIs w) :
    Calls Tryd.prog 38 #[.slice A 4 c] w (RetBF w (pre12 ++ xs)) := by
  obtain ⟨x0, x1, x2, x3, rfl⟩ : ∃ x0 x1 x2 x3, xs = [x0, x1, x2, x3] := by
    have h := ha.len
    match xs, h with
    | [a, b, c, d], _ => exact ⟨a, b, c, d, rfl⟩
  obtain ⟨g, o, y0, rfl, h0, hc0⟩ := ha.at_ (k := 0) (by omega)
  injection h0 with h0; subst h0
  obtain ⟨g', o', y1, hA, h1, hc1⟩ := ha.at_ (k := 1) (by omega)
  cases hA; injection h1 with h1; subst h1
  obtain ⟨g', o', y2, hA, h2, hc2⟩ := ha.at_ (k := 2) (by omega)
  cases hA; injection h2 with h2; subst h2
  obtain ⟨g', o', y3, hA, h3, hc3⟩ := ha.at_ (k := 3) (by omega)
  cases hA; injection h3 with h3; subst h3
  rw [Nat.add_zero] at hc0
  have Hcall := hide (ipv4_any x0 x1 x2 x3 w.drew hp)
  clear ha hp
  go_enter Tryd.func38, Tryd.ntmps38
  go_wp2_with fail
  go_still_tail 12, (by kernel_rfl)
  change wpList _ _ _ _ _ w.drew
  go_wp2_with fail
  with_reducible refine Hcall.out.mono ?_
  rintro e v1 ⟨A1, d1, rfl, h1, hb1⟩
  have H1 := hide h1
  have Hb1 := hide hb1
  clear h1 hb1
  go_wp2_with fail
  go_ret
  exact ⟨A1, d1, rfl, H1.out, ((Below.refl w.heap.size w).drew).trans Hb1.out⟩

theorem beq_eqL (xs ys : List UInt8) : (xs == ys) = eqL xs ys := by
  unfold eqL
  by_cases h : xs = ys <;> simp [h]

set_option maxHeartbeats 400000 in
theorem bytesEq_any (A B : Option Addr) (n c m d : Nat) (xs ys : List UInt8) (w : World) (av bv : Nat → Prop) (ha : RB w av A n c xs) (hb : RB w bv B m d ys) :
    Calls Tryd.prog 44 #[.slice A n c, .slice B m d] w fun e w' => e = .returned (.bool (eqL xs ys)) ∧ ∃ q, w' = w.drewN q := by
  have h1 := run_string_rb (P := Tryd.prog) 22 9 5 Tryd.underlying22 Tryd.underlying5 Tryd.underlying9 ha
  have h2 := run_string_rb (P := Tryd.prog) 22 9 5 Tryd.underlying22 Tryd.underlying5 Tryd.underlying9 hb
  clear ha hb
  go_enter Tryd.func44, Tryd.ntmps44
  go_wp2_with fail
  go_ret
  exact ⟨ret_bool (beq_eqL xs ys), 0, rfl⟩

/-- The same address. -/
def eqIP (xs ys : List UInt8) : Bool := eqL (longOf xs) (longOf ys)
theorem eqIP_even {xs ys : List UInt8} (h : xs.length = ys.length) : eqIP xs ys = eqL xs ys := by
  unfold eqIP longOf eqL
  rw [h]
  split
  · congr 1; simp
  · rfl
theorem eqL_cut {xs ys : List UInt8} (hy : ys.length = 16) : eqL (pre12 ++ xs) ys = (eqL (ys.take 12) pre12 && eqL xs (ys.drop 12)) := by
  have e : (pre12 ++ xs = ys) ↔ (ys.take 12 = pre12 ∧ xs = ys.drop 12) := by
    constructor
    · rintro rfl; exact ⟨rfl, rfl⟩
    · rintro ⟨h1, h2⟩; rw [h2, ← h1, List.take_append_drop]
  unfold eqL
  rw [show decide (pre12 ++ xs = ys) = decide (ys.take 12 = pre12 ∧ xs = ys.drop 12) from decide_eq_decide.2 e, Bool.decide_and]
theorem eqL_symm {α : Type} [DecidableEq α] (xs ys : List α) : eqL xs ys = eqL ys xs := by unfold eqL; exact decide_eq_decide.2 eq_comm
theorem eqIP_four {xs ys : List UInt8} (hx : xs.length = 4) (hy : ys.length = 16) : eqIP xs ys = (eqL (ys.take 12) pre12 && eqL xs (ys.drop 12)) := by
  unfold eqIP longOf
  rw [if_pos hx, if_neg (by omega), eqL_cut hy]
theorem eqIP_six {xs ys : List UInt8} (hx : xs.length = 16) (hy : ys.length = 4) : eqIP xs ys = (eqL (xs.take 12) pre12 && eqL (xs.drop 12) ys) := by
  unfold eqIP longOf
  rw [if_neg (by omega), if_pos hy, eqL_symm, eqL_cut hx, eqL_symm ys]

set_option maxHeartbeats 400000 in
theorem equal_even (A B : Option Addr) (n c d : Nat) (xs ys : List UInt8) (w : World) (av bv : Nat → Prop) (ha : RB w av A n c xs) (hb : RB w bv B n d ys) :
    Calls Tryd.prog 34 #[.slice A n c, .slice B n d] w fun e w' => e = .returned (.bool (eqIP xs ys)) ∧ ∃ q, w' = w.drewN q := by
  have t : ((n : Int) == (n : Int)) = true := by simp
  have Hcall := hide (bytesEq_any A B n c n d xs ys w av bv ha hb)
  rw [← eqIP_even (by rw [ha.len, hb.len])] at Hcall
  clear ha hb
  go_enter Tryd.func34, Tryd.ntmps34
  go_wp2_with fail
  with_reducible refine Hcall.out.mono ?_
  rintro e v1 ⟨rfl, q, rfl⟩
  go_wp2_with fail
  go_ret
  exact ⟨rfl, q, rfl⟩

set_option maxRecDepth 100000 in
set_option maxHeartbeats 1600000 in
theorem equal_four (A B : Option Addr) (c d : Nat) (xs ys : List UInt8) (w : World) (av bv : Nat → Prop) (ha : RB w av A 4 c xs) (hb : RB w bv B 16 d ys) (hp : PreIs w) :
    Calls Tryd.prog 34 #[.slice A 4 c, .slice B 16 d] w fun e w' => e = .returned (.bool (eqIP xs ys)) ∧ ∃ q, w' = w.drewN q := by
  obtain ⟨gb, ob, _, rfl, _, _⟩ := hb.at_ (k := 0) (by omega)
  obtain ⟨P, pc, hpc, hP⟩ := hp
  have k1 := hb.cap
  have k2 := hb.max
  unfold maxLen at k2
  rw [eqIP_four ha.len hb.len]
  have H1 := hide (fun q => bytesEq_any (some ⟨gb, ob, none⟩) P 12 d 12 pc (ys.take 12) pre12 (w.drewN q) bv no ((hb.take (m := 12) (by omega)).drewN q) (hP.drewN q))
  have H2 := hide (fun q => bytesEq_any A (some ⟨gb, ob + 12, none⟩) 4 c 4 (d - 12) xs (ys.drop 12) (w.drewN q) av bv (ha.drewN q) ((hb.drop (k := 12) rfl (by omega)).drewN q))
  clear ha hb hP
  cases h12 : eqL (ys.take 12) pre12 with
  | true =>
    rw [h12] at H1
    clear h12
    generalize eqL xs (ys.drop 12) = r at *
    go_enter Tryd.func34, Tryd.ntmps34
    go_wp2_with fail
    go_quiet ((first | (go_at_call 44; exact Calls.quiet_of (H1.out _)) | (go_at_call 44; exact Calls.quiet_of (H2.out _))))
    go_wp2_with fail
    go_ret
    exact ⟨rfl, _, rfl⟩
  | false =>
    rw [h12] at H1
    clear h12 H2
    rw [Bool.false_and]
    go_enter Tryd.func34, Tryd.ntmps34
    go_wp2_with fail
    go_quiet ((go_at_call 44; exact Calls.quiet_of (H1.out _)))
    go_wp2_with fail
    go_ret
    exact ⟨rfl, _, rfl⟩
end Go.Proofs.YtmfcgglgolajnaaDoor
