/-
  The contracts of isZeros, isMapped and To4.
-/
import Derived.Test.YtmfcgglgolajnaaDoorBase
namespace Go.Proofs.YtmfcgglgolajnaaDoor
open Go.RowKit

set_option maxHeartbeats 400000 in
theorem isZeros_any (A : Option Addr) (n c : Nat) (xs : List UInt8) (w : World) (av : Nat → Prop) (ha : RB w av A n c xs) :
    Calls Tryd.prog 55 #[.slice A n c] w fun e w' => e = .returned (.bool (zerosB xs)) ∧ w = w' := by
  have hn := ha.cap
  have hn2 := ha.max
  have Hl1 := hide ha.len
  unfold maxLen at hn2
  go_enter Tryd.func55, Tryd.ntmps55
  go_wp2
  go_loop [3] (fun i => ∃ k : Nat, k ≤ n ∧ i = .int .i64 k ∧ zerosB (xs.take k) = true) (fun i => n - (intOf i).toNat)
  case atStart => exact ⟨0, Nat.zero_le _, rfl, rfl⟩
  case round =>
    obtain ⟨k, hk, rfl, htk⟩ := hrel
    have Ht := hide htk
    clear htk
    by_cases hlt : k < n
    · obtain ⟨g, o, x, rfl, hx, hc⟩ := ha.at_ hlt
      have Hx := hide hx
      clear hx ha
      have i1 : (0 : Int) ≤ k := by omega
      have i2 : (k : Int) < n := by omega
      by_cases hx0 : x = 0
      · subst hx0
        go_wp2
        go_round
        case rel => exact ⟨k + 1, by omega, by go_num, zerosB_step Ht.out Hx.out rfl⟩
        case measure => simp [intOf]; omega
      · have hb2 : ((x.toNat : Int) != 0) = true := by
          rw [bne_iff_ne]; intro h; exact hx0 (UInt8.toNat_inj.1 (by simpa using h))
        have Hx0 := hide hx0
        clear hx0
        go_wp2
        go_ret
        exact ⟨ret_bool (zerosB_ne Hx.out Hx0.out).symm, rfl⟩
    · go_wp2
      go_ret
      exact ⟨ret_bool (zerosB_take Ht.out (by rw [Hl1.out]; omega)).symm, rfl⟩

set_option maxHeartbeats 400000 in
theorem to4_four (A : Option Addr) (c : Nat) (w : World) :
    Calls Tryd.prog 42 #[.slice A 4 c] w fun e w' => e = .returned (.slice A 4 c) ∧ w = w' := by
  go_enter Tryd.func42, Tryd.ntmps42
  go_wp2
  go_ret
  exact ⟨rfl, rfl⟩

set_option maxHeartbeats 400000 in
theorem to4_odd (A : Option Addr) (n c : Nat) (w : World) (h4 : n ≠ 4) (h16 : n ≠ 16) :
    Calls Tryd.prog 42 #[.slice A n c] w fun e w' => e = .returned (.slice none 0 0) ∧ w = w' := by
  have e4 : ((n : Int) == 4) = false := by simp; omega
  have e16 : ((n : Int) == 16) = false := by simp; omega
  go_enter Tryd.func42, Tryd.ntmps42
  go_wp2
  go_ret
  exact ⟨rfl, rfl⟩

set_option maxHeartbeats 800000 in
theorem to4_six (A : Option Addr) (c : Nat) (xs : List UInt8) (w : World) (av : Nat → Prop) (ha : RB w av A 16 c xs) (hm : mapd xs = false) :
    Calls Tryd.prog 42 #[.slice A 16 c] w fun e w' => e = .returned (.slice none 0 0) ∧ w = w' := by
  have hn := ha.cap
  have hn2 := ha.max
  unfold maxLen at hn2
  obtain ⟨g, o, x0, rfl, _, _⟩ := ha.at_ (k := 0) (by omega)
  obtain ⟨g', o', x10, hA, h10, hc10⟩ := ha.at_ (k := 10) (by omega)
  injection hA with hA; injection hA with e1 e2; subst e1 e2
  obtain ⟨g', o', x11, hA, h11, hc11⟩ := ha.at_ (k := 11) (by omega)
  injection hA with hA; injection hA with e1 e2; subst e1 e2
  have hz := ha.take (m := 10) (by omega)
  have Hz := hide hz
  clear hz
  cases hzz : zerosB (xs.take 10) with
  | false =>
    have Hzz := hide hzz
    clear hzz h10 h11 hm ha
    go_enter Tryd.func42, Tryd.ntmps42
    go_wp2_with fail
    refine (isZeros_any _ _ _ _ _ _ Hz.out).mono ?_
    rintro e w' ⟨rfl, rfl⟩
    rw [Hzz.out]
    go_wp2
    go_ret
    exact ⟨rfl, rfl⟩
  | true =>
    rw [mapd_of ha.len hzz h10 h11] at hm
    have Hzz := hide hzz
    clear hzz h10 h11 ha
    have e10 : ((x10.toNat : Int) == 255) = decide (x10 = 255) := byte_ff
    have e11 : ((x11.toNat : Int) == 255) = decide (x11 = 255) := byte_ff
    by_cases g10 : x10 = 255
    · rw [decide_eq_true g10] at e10 hm
      have g11 : decide (x11 = 255) = false := by simpa using hm
      rw [g11] at e11
      clear hm g10 g11
      go_enter Tryd.func42, Tryd.ntmps42
      go_wp2_with fail
      refine (isZeros_any _ _ _ _ _ _ Hz.out).mono ?_
      rintro e w' ⟨rfl, rfl⟩
      rw [Hzz.out]
      go_wp2
      go_ret
      exact ⟨rfl, rfl⟩
    · rw [decide_eq_false g10] at e10 hm
      clear hm g10 e11
      go_enter Tryd.func42, Tryd.ntmps42
      go_wp2_with fail
      refine (isZeros_any _ _ _ _ _ _ Hz.out).mono ?_
      rintro e w' ⟨rfl, rfl⟩
      rw [Hzz.out]
      go_wp2
      go_ret
      exact ⟨rfl, rfl⟩

set_option maxHeartbeats 800000 in
theorem to4_mapped (g o c : Nat) (xs : List UInt8) (w : World) (av : Nat → Prop) (ha : RB w av (some ⟨g, o, none⟩) 16 c xs) (hm : mapd xs = true) :
    Calls Tryd.prog 42 #[.slice (some ⟨g, o, none⟩) 16 c] w fun e w' => e = .returned (.slice (some ⟨g, o + 12, none⟩) 4 (c - 12)) ∧ w = w' := by
  have hn := ha.cap
  have hn2 := ha.max
  unfold maxLen at hn2
  obtain ⟨g', o', x10, hA, h10, hc10⟩ := ha.at_ (k := 10) (by omega)
  injection hA with hA; injection hA with e1 e2; subst e1 e2
  obtain ⟨g', o', x11, hA, h11, hc11⟩ := ha.at_ (k := 11) (by omega)
  injection hA with hA; injection hA with e1 e2; subst e1 e2
  have hz := ha.take (m := 10) (by omega)
  have Hz := hide hz
  clear hz
  cases hzz : zerosB (xs.take 10) with
  | false => rw [mapd_zeros hzz] at hm; cases hm
  | true =>
    rw [mapd_of ha.len hzz h10 h11] at hm
    have Hzz := hide hzz
    clear hzz h10 h11 ha
    have e10 : ((x10.toNat : Int) == 255) = true := by rw [byte_ff]; simp at hm; simp [hm]
    have e11 : ((x11.toNat : Int) == 255) = true := by rw [byte_ff]; simp at hm; simp [hm]
    clear hm
    go_enter Tryd.func42, Tryd.ntmps42
    go_wp2_with fail
    refine (isZeros_any _ _ _ _ _ _ Hz.out).mono ?_
    rintro e w' ⟨rfl, rfl⟩
    rw [Hzz.out]
    go_wp2
    go_ret
    exact ⟨rfl, rfl⟩
end Go.Proofs.YtmfcgglgolajnaaDoor
