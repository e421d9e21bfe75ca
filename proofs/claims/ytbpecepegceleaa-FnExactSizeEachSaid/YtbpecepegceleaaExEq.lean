/-
  The contracts of eqByteS, eqIntS and eqByteSS.
-/
import Derived.Test.YtbpecepegceleaaBase
namespace Go.Proofs.Ytbpecepegceleaa
open Go.RowKit
set_option linter.unusedVariables false

theorem int_ne {x y : Int} (h : (x != y) = true) : x ≠ y := by simpa using h
theorem int_eq {x y : Int} (h : (x != y) = false) : x = y := by simpa using h

set_option maxHeartbeats 400000 in
theorem eqByteS_any (A B : Option Addr) (n c m d : Nat) (xs ys : List UInt8) (w : World) (av bv : Nat → Prop) (ha : RB w av A n c xs) (hb : RB w bv B m d ys) :
    Calls Try.prog 23 #[.slice A n c, .slice B m d] w fun e w' => e = .returned (.bool (eqL xs ys)) ∧ ∃ q, w' = w.drewN q := by
  have hn := ha.cap
  have hn2 := ha.max
  have Hl1 := hide ha.len
  have Hl2 := hide hb.len
  unfold maxLen at hn2
  by_cases hnm : n = m
  · subst hnm
    have hne : ((n : Int) != (n : Int)) = false := by simp
    go_enter Try.func23, Try.ntmps23
    go_wp2
    go_loopw [5] (fun i wr => ∃ k q : Nat, k ≤ n ∧ i = .int .i64 k ∧ wr = w.drewN q ∧ xs.take k = ys.take k) (fun i _ => n - (intOf i).toNat)
    case atStart => exact ⟨0, 0, Nat.zero_le _, rfl, rfl, rfl⟩
    case round =>
      obtain ⟨k, q, hk, rfl, rfl, htk⟩ := hrel
      by_cases hlt : k < n
      · obtain ⟨g, o, x, rfl, hx, hc⟩ := ha.at_ hlt
        obtain ⟨g2, o2, y, rfl, hy, hd⟩ := hb.at_ hlt
        have Hx := hide hx
        have Hy := hide hy
        have Ht := hide htk
        clear hx hy htk ha hb
        have i1 : (0 : Int) ≤ k := by omega
        have i2 : (k : Int) < n := by omega
        go_wp2
        go_quiet (fail)
        go_wp2
        · go_ret
          exact ⟨ret_bool (eqL_ne Hx.out Hy.out (byte_ne ‹_›)).symm, _, World.drewN_drewN w q nq⟩
        · rename_i h
          obtain rfl := byte_eq h
          go_roundw
          case rel => exact ⟨k + 1, _, by omega, by go_num, rfl, take_step Ht.out Hx.out Hy.out⟩
          case measure => simp [intOf]; omega
      · go_wp2
        go_ret
        exact ⟨ret_bool (eqL_take htk (by rw [Hl1.out]; omega) (by rw [Hl2.out]; omega)).symm, _, rfl⟩
  · have hne : ((n : Int) != (m : Int)) = true := by simp; omega
    go_enter Try.func23, Try.ntmps23
    go_wp2
    go_ret
    exact ⟨ret_bool (eqL_len (by rw [Hl1.out, Hl2.out]; exact hnm)).symm, 0, rfl⟩

set_option maxHeartbeats 400000 in
theorem eqIntS_any (A B : Option Addr) (n c m d : Nat) (xs ys : List Int) (w : World) (av bv : Nat → Prop) (ha : RI w av A n c xs) (hb : RI w bv B m d ys) :
    Calls Try.prog 12 #[.slice A n c, .slice B m d] w fun e w' => e = .returned (.bool (eqL xs ys)) ∧ ∃ q, w' = w.drewN q := by
  have hn := ha.cap
  have hn2 := ha.max
  have Hl1 := hide ha.len
  have Hl2 := hide hb.len
  unfold maxLen at hn2
  by_cases hnm : n = m
  · subst hnm
    have hne : ((n : Int) != (n : Int)) = false := by simp
    go_enter Try.func12, Try.ntmps12
    go_wp2
    go_loopw [5] (fun i wr => ∃ k q : Nat, k ≤ n ∧ i = .int .i64 k ∧ wr = w.drewN q ∧ xs.take k = ys.take k) (fun i _ => n - (intOf i).toNat)
    case atStart => exact ⟨0, 0, Nat.zero_le _, rfl, rfl, rfl⟩
    case round =>
      obtain ⟨k, q, hk, rfl, rfl, htk⟩ := hrel
      by_cases hlt : k < n
      · obtain ⟨g, o, x, rfl, hx, hc⟩ := ha.at_ hlt
        obtain ⟨g2, o2, y, rfl, hy, hd⟩ := hb.at_ hlt
        have Hx := hide hx
        have Hy := hide hy
        have Ht := hide htk
        clear hx hy htk ha hb
        have i1 : (0 : Int) ≤ k := by omega
        have i2 : (k : Int) < n := by omega
        go_wp2
        go_quiet (fail)
        go_wp2
        · go_ret
          exact ⟨ret_bool (eqL_ne Hx.out Hy.out (int_ne ‹_›)).symm, _, World.drewN_drewN w q nq⟩
        · rename_i h
          obtain rfl := int_eq h
          go_roundw
          case rel => exact ⟨k + 1, _, by omega, by go_num, rfl, take_step Ht.out Hx.out Hy.out⟩
          case measure => simp [intOf]; omega
      · go_wp2
        go_ret
        exact ⟨ret_bool (eqL_take htk (by rw [Hl1.out]; omega) (by rw [Hl2.out]; omega)).symm, _, rfl⟩
  · have hne : ((n : Int) != (m : Int)) = true := by simp; omega
    go_enter Try.func12, Try.ntmps12
    go_wp2
    go_ret
    exact ⟨ret_bool (eqL_len (by rw [Hl1.out, Hl2.out]; exact hnm)).symm, 0, rfl⟩


set_option maxHeartbeats 1600000 in
theorem eqByteSS_any (A B : Option Addr) (n c m d : Nat) (xs ys : List (List UInt8)) (w : World) (av bv : Nat → Prop) (ha : RBB w av A n c xs) (hb : RBB w bv B m d ys) :
    Calls Try.prog 13 #[.slice A n c, .slice B m d] w fun e w' => e = .returned (.bool (eqL xs ys)) ∧ ∃ q, w' = w.drewN q := by
  have hn := ha.cap
  have hn2 := ha.max
  have Hl1 := hide ha.len
  have Hl2 := hide hb.len
  unfold maxLen at hn2
  by_cases hnm : n = m
  · subst hnm
    have hne : ((n : Int) != (n : Int)) = false := by simp
    go_enter Try.func13, Try.ntmps13
    go_wp2
    go_loopw [5] (fun i wr => ∃ k q : Nat, k ≤ n ∧ i = .int .i64 k ∧ wr = w.drewN q ∧ xs.take k = ys.take k) (fun i _ => n - (intOf i).toNat)
    case atStart => exact ⟨0, 0, Nat.zero_le _, rfl, rfl, rfl⟩
    case round =>
      obtain ⟨k, q, hk, rfl, rfl, htk⟩ := hrel
      by_cases hlt : k < n
      · obtain ⟨g, o, X, xn, xc, x, rfl, hx, hc, hX⟩ := ha.at_ hlt
        obtain ⟨g2, o2, Y, yn, yc, y, rfl, hy, hd, hY⟩ := hb.at_ hlt
        have Hx := hide hx
        have Hy := hide hy
        have Ht := hide htk
        have Hc := hide (fun q' : Nat => eqByteS_any X Y xn xc yn yc x y ((w.drewN q).drewN q') av bv ((hX.drewN q).drewN q') ((hY.drewN q).drewN q'))
        have hc' : (w.drewN q).cell? ⟨g, o + k, none⟩ = some (.slice X xn xc) := hc
        have hd' : (w.drewN q).cell? ⟨g2, o2 + k, none⟩ = some (.slice Y yn yc) := hd
        have Hw : Hid (∀ nq, ∃ q2, (w.drewN q).drewN nq = w.drewN q2) := hide fun nq => ⟨_, World.drewN_drewN w q nq⟩
        clear hx hy htk ha hb hX hY hc hd
        generalize w.drewN q = wq at *
        have i1 : (0 : Int) ≤ k := by omega
        have i2 : (k : Int) < n := by omega
        by_cases hxy : x = y
        · subst hxy
          rw [show eqL x x = true from eqL_iff.2 rfl] at Hc
          go_wp2_with fail
          go_quiet ((go_at_call 23; exact Calls.quiet_of (Hc.out _)))
          go_wp2_with fail
          go_roundw
          case rel => obtain ⟨q2, hq2⟩ := Hw.out nq; exact ⟨k + 1, q2, by omega, by go_num, hq2, take_step Ht.out Hx.out Hy.out⟩
          case measure => simp [intOf]; omega
        · rw [show eqL x y = false from by unfold eqL; exact decide_eq_false hxy] at Hc
          have Hne := hide hxy
          clear hxy
          go_wp2_with fail
          go_quiet ((go_at_call 23; exact Calls.quiet_of (Hc.out _)))
          go_wp2_with fail
          go_ret
          exact ⟨ret_bool (eqL_ne Hx.out Hy.out Hne.out).symm, Hw.out nq⟩
      · go_wp2
        go_ret
        exact ⟨ret_bool (eqL_take htk (by rw [Hl1.out]; omega) (by rw [Hl2.out]; omega)).symm, _, rfl⟩
  · have hne : ((n : Int) != (m : Int)) = true := by simp; omega
    go_enter Try.func13, Try.ntmps13
    go_wp2
    go_ret
    exact ⟨ret_bool (eqL_len (by rw [Hl1.out, Hl2.out]; exact hnm)).symm, 0, rfl⟩
end Go.Proofs.Ytbpecepegceleaa
