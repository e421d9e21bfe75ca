/-
  The contract of isMapped.
-/
import Derived.Test.YtmfcgglgolajnaaDoorMB
namespace Go.Proofs.YtmfcgglgolajnaaDoor
open Go.RowKit

set_option maxHeartbeats 400000 in
theorem isMapped_any (A : Option Addr) (n c : Nat) (xs : List UInt8) (w : World) (av : Nat → Prop) (ha : RB w av A n c xs) :
    Calls Tryd.prog 26 #[.slice A n c] w fun e w' => e = .returned (.bool (mapd xs)) ∧ w = w' := by
  have hn := ha.cap
  have hn2 := ha.max
  have Hl1 := hide ha.len
  unfold maxLen at hn2
  by_cases h16 : n = 16
  · obtain ⟨g, o, x0, rfl, _, _⟩ := ha.at_ (k := 0) (by omega)
    obtain ⟨g', o', x10, hA, h10, hc10⟩ := ha.at_ (k := 10) (by omega)
    injection hA with hA; injection hA with e1 e2; subst e1 e2
    obtain ⟨g', o', x11, hA, h11, hc11⟩ := ha.at_ (k := 11) (by omega)
    injection hA with hA; injection hA with e1 e2; subst e1 e2
    subst h16
    have H10 := hide h10
    have H11 := hide h11
    clear h10 h11
    have e10 : ((x10.toNat : Int) == 255) = decide (x10 = 255) := byte_ff
    have e11 : ((x11.toNat : Int) == 255) = decide (x11 = 255) := byte_ff
    have E10 := hide e10
    have E11 := hide e11
    clear e10 e11
    go_enter Tryd.func26, Tryd.ntmps26
    go_wp2
    go_loop [11] (fun i => ∃ k : Nat, k ≤ 10 ∧ i = .int .i64 k ∧ zerosB (xs.take k) = true) (fun i => 10 - (intOf i).toNat)
    case atStart => exact ⟨0, Nat.zero_le _, rfl, rfl⟩
    case round =>
      obtain ⟨k, hk, rfl, htk⟩ := hrel
      have Ht := hide htk
      clear htk
      by_cases hlt : k < 10
      · obtain ⟨g', o', x, hA, hx, hc⟩ := ha.at_ (k := k) (by omega)
        injection hA with hA; injection hA with e1 e2; subst e1 e2
        have Hx := hide hx
        clear hx hc10 hc11
        have i1 : (0 : Int) ≤ k := by omega
        by_cases hx0 : x = 0
        · subst hx0
          go_wp2
          go_round
          case rel => exact ⟨k + 1, by omega, by go_num, zerosB_step Ht.out Hx.out rfl⟩
          case measure => simp [intOf]; omega
        · have hb2 : ((x.toNat : Int) != 0) = true := by
            rw [bne_iff_ne]; intro h; exact hx0 (UInt8.toNat_inj.1 (by simpa using h))
          have Hx0 := hide hx0
          clear hx0
          go_wp2
          go_ret
          exact ⟨ret_bool (mapd_zeros (zerosB_ne (x := x) (k := k) (by rw [List.getElem?_take, if_pos hlt]; exact Hx.out) Hx0.out)).symm, rfl⟩
      · obtain rfl : k = 10 := by omega
        have hfin := mapd_of Hl1.out Ht.out H10.out H11.out
        rw [← E10.out, ← E11.out] at hfin
        have Hf := hide hfin
        clear hfin
        cases g10 : ((x10.toNat : Int) == 255) with
        | false =>
          rw [g10] at Hf
          go_wp2
          go_ret
          exact ⟨ret_bool Hf.out.symm, rfl⟩
        | true =>
          rw [g10] at Hf
          go_wp2
          go_ret
          exact ⟨ret_bool Hf.out.symm, rfl⟩
  · have hne : ((n : Int) != 16) = true := by rw [bne_iff_ne]; omega
    go_enter Tryd.func26, Tryd.ntmps26
    go_wp2
    go_ret
    exact ⟨ret_bool (mapd_len (by rw [Hl1.out]; exact h16)).symm, rfl⟩
end Go.Proofs.YtmfcgglgolajnaaDoor
