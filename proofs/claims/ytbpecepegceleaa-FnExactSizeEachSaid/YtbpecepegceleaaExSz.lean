/-
  The contracts of szByteS and szByteSS.
-/
import Derived.Test.YtbpecepegceleaaBase
namespace Go.Proofs.Ytbpecepegceleaa
open Go.RowKit
set_option linter.unusedVariables false

set_option maxHeartbeats 400000 in
theorem szByteS_fits (A : Option Addr) (n c left : Nat) (w : World) (h : n ≤ left) (hl : left ≤ 1048576) :
    Calls Try.prog 19 #[.slice A n c, .int .i64 (left : Int)] w fun e w' => e = .returned (.int .i64 ((left - n : Nat) : Int)) ∧ w = w' := by
  have e1 : (left : Int) - (n : Int) = ((left - n : Nat) : Int) := by omega
  generalize left - n = r at *
  have t1 : ¬ ((r : Int) < 0) := by omega
  go_enter Try.func19, Try.ntmps19
  go_wp2_with fail
  go_ret
  exact ⟨rfl, rfl⟩

set_option maxHeartbeats 400000 in
theorem szByteS_over (A : Option Addr) (n c left : Nat) (w : World) (h : left < n) (hl : left ≤ 1048576) (hn : n ≤ 9223372036854775807) :
    Calls Try.prog 19 #[.slice A n c, .int .i64 (left : Int)] w fun e w' => e = .returned (.int .i64 (-1)) ∧ w = w' := by
  have t1 : (left : Int) - (n : Int) < 0 := by omega
  go_enter Try.func19, Try.ntmps19
  go_wp2_with fail
  go_ret
  exact ⟨rfl, rfl⟩

/-- All bytes of the first k rows. -/
def sumTo (bss : List (List UInt8)) (k : Nat) : Nat := ((bss.take k).map List.length).sum
theorem sumTo_succ {bss : List (List UInt8)} {k : Nat} {b : List UInt8} (h : bss[k]? = some b) : sumTo bss (k + 1) = sumTo bss k + b.length := by
  unfold sumTo; rw [take_snoc h]; simp
theorem sumTo_le (bss : List (List UInt8)) {k m : Nat} (h : k ≤ m) : sumTo bss k ≤ sumTo bss m := by
  induction m with
  | zero => rw [show k = 0 by omega]; exact Nat.le_refl _
  | succ m ih =>
    by_cases e : k = m + 1
    · subst e; exact Nat.le_refl _
    · refine Nat.le_trans (ih (by omega)) ?_
      by_cases hm : m < bss.length
      · rw [sumTo_succ (List.getElem?_eq_getElem hm)]; omega
      · unfold sumTo; rw [List.take_of_length_le (by omega), List.take_of_length_le (by omega)]; exact Nat.le_refl _

/-- Either all of it fits, or the answer is -1. -/
def SzR (N left : Nat) (bss : List (List UInt8)) (w : World) (e : Ending) (w' : World) : Prop :=
  ((e = .returned (.int .i64 (-1))) ∨ ∃ r : Nat, e = .returned (.int .i64 (r : Int)) ∧ r ≤ left ∧ N + sumTo bss N ≤ left) ∧ w = w'

set_option maxHeartbeats 1600000 in
theorem szByteSS_any (L : Option Addr) (N e left : Nat) (bss : List (List UInt8)) (w : World) (hL : RBB w no L N e bss) (hl : left ≤ 1048576) :
    Calls Try.prog 8 #[.slice L N e, .int .i64 (left : Int)] w (SzR N left bss w) := by
  have HL := hide hL
  have k1 := hL.cap
  have k2 := hL.max
  unfold maxLen at k2
  clear hL
  by_cases hN : left < N
  · have t1 : (left : Int) - (N : Int) < 0 := by omega
    go_enter Try.func8, Try.ntmps8
    go_wp2_with fail
    go_ret
    exact ⟨Or.inl rfl, rfl⟩
  · obtain ⟨r0, hr0⟩ : ∃ r0 : Nat, r0 = left - N := ⟨_, rfl⟩
    have e1 : (left : Int) - (N : Int) = (r0 : Int) := by omega
    have t1 : ¬ ((r0 : Int) < 0) := by omega
    have Hr0 := hide hr0
    clear hr0
    go_enter Try.func8, Try.ntmps8
    go_wp2_with fail
    go_loop [1, 5] (fun s i => ∃ k r : Nat, k ≤ N ∧ i = .int .i64 k ∧ s = .int .i64 (r : Int) ∧ r + N + sumTo bss k = left) (fun _ i => N - (intOf i).toNat)
    case atStart => exact ⟨0, r0, Nat.zero_le _, rfl, rfl, by have := Hr0.out; unfold sumTo; simp; omega⟩
    case round =>
      obtain ⟨k, r, hk, rfl, rfl, hr⟩ := hrel
      have Hr := hide hr
      have hrl : r ≤ left := by omega
      by_cases hlt : k < N
      · obtain ⟨g, o, B, mb, f, b, rfl, hbk, hc, hb⟩ := HL.out.at_ hlt
        have Hs := hide (sumTo_succ hbk)
        have hbl := hb.len
        have hmc := hb.cap
        have hmm := hb.max
        unfold maxLen at hmm
        have Hbl := hide hbl
        clear hr hbk hb hbl
        by_cases hfit : mb ≤ r
        · have Hc := hide (szByteS_fits B mb f r w hfit (by omega))
          have Hq : Hid (r - mb + N + sumTo bss (k + 1) = left) := hide (by rw [Hs.out, Hbl.out]; have := Hr.out; omega)
          generalize hq : r - mb = r1 at *
          have t2 : ¬ ((r1 : Int) < 0) := by omega
          clear hq
          go_wp2_with fail
          with_reducible refine Hc.out.mono ?_
          rintro e w' ⟨rfl, rfl⟩
          go_wp2_with fail
          go_round
          case rel => exact ⟨k + 1, r1, by omega, by go_num, rfl, Hq.out⟩
          case measure => simp [intOf]; omega
        · have Hc := hide (szByteS_over B mb f r w (by omega) (by omega) (by omega))
          go_wp2_with fail
          with_reducible refine Hc.out.mono ?_
          rintro e w' ⟨rfl, rfl⟩
          go_wp2_with fail
          go_ret
          exact ⟨Or.inl rfl, rfl⟩
      · obtain rfl : k = N := by omega
        clear hr
        go_wp2_with fail
        go_ret
        exact ⟨Or.inr ⟨r, rfl, hrl, by have := Hr.out; omega⟩, rfl⟩
end Go.Proofs.Ytbpecepegceleaa
