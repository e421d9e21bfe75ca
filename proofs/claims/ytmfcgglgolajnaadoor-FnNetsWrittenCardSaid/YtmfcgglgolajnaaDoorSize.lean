/-
  The contracts of simpleMaskLength and Size.
-/
import Derived.Test.YtmfcgglgolajnaaDoorMB
import Derived.Test.YtmfcgglgolajnaaDoorOnes
namespace Go.Proofs.YtmfcgglgolajnaaDoor
open Go.RowKit
set_option linter.unusedVariables false

/-- Ones so far. -/
def OnesTo (bs : List UInt8) (p : Nat) : Prop := ∀ j, j < p → bitAt bs j = true
/-- Zeros from behind k to q. -/
def ZerosTo (bs : List UInt8) (k q : Nat) : Prop := ∀ i, k < i → i < q → bs[i]? = some 0

set_option maxRecDepth 100000 in
set_option maxHeartbeats 1600000 in
theorem sml_any (A : Option Addr) (n c : Nat) (bs : List UInt8) (w : World) (av : Nat → Prop) (ha : RB w av A n c bs) (hn8 : n ≤ 140737488351232) :
    Calls Tryd.prog 51 #[.slice A n c] w fun e w' => e = .returned (.int .i64 (onesOf bs)) ∧ w = w' := by
  have Ha := hide ha.free
  have Hl := hide ha.len
  clear ha
  go_enter Tryd.func51, Tryd.ntmps51
  go_wp2_with fail
  go_loop [3, 8] (fun m i => ∃ k : Nat, k ≤ n ∧ i = .int .i64 k ∧ m = .int .i64 (8 * (k : Int)) ∧ OnesTo bs (8 * k)) (fun _ i => n - (intOf i).toNat)
  case atStart => exact ⟨0, Nat.zero_le _, rfl, rfl, fun j hj => by omega⟩
  case round =>
    obtain ⟨k, hk, rfl, rfl, hb⟩ := hrel
    have Hb := hide hb
    clear hb
    by_cases hlt : k < n
    · obtain ⟨g, o, v, rfl, hv, hcv⟩ := Ha.out.at_ hlt
      have Hv := hide hv
      have i1 : (0 : Int) ≤ k := by omega
      have hv1 := lt_256 v
      clear hv
      by_cases h255 : v = 255
      · have hne : ((v.toNat : Int) == 255) = true := by rw [byte_ff]; simpa using h255
        have H255 := hide h255
        clear h255
        go_wp2_with fail
        go_round
        case rel => exact ⟨k + 1, by omega, by go_num, by go_num, bits_full Hb.out (by rw [Hv.out, H255.out])⟩
        case measure => simp [intOf]; omega
      · have hne : ((v.toNat : Int) == 255) = false := by rw [byte_ff]; simpa using h255
        have H255 := hide h255
        have H0 := hide (shl8_zero v)
        clear h255
        go_wp2_with fail
        clear hcv hne
        go_loop [3, 5] (fun m x => ∃ t : Nat, t ≤ 8 ∧ m = .int .i64 (8 * (k : Int) + (t : Int)) ∧ x = .int .u8 ((shl8 v t : Nat) : Int) ∧ OnesTo bs (8 * k + t)) (fun m _ => 8 * k + 8 - (intOf m).toNat)
        case atStart => exact ⟨0, Nat.zero_le _, by simp, by rw [H0.out], Hb.out⟩
        case round =>
          obtain ⟨t, ht, rfl, rfl, hones⟩ := hrel
          have Hones := hide hones
          have hx := shl8_lt v t
          have Htb := hide (top_bit hx)
          have Hsu := hide (shl8_succ v t)
          clear hones
          cases htop : (shl8 v t).testBit 7 with
          | true =>
            have hst := bits_step Hones.out Hv.out ht htop
            have t8 := hst.1
            have Hst := hide hst.2
            have htt : (bits .and .u8 ((shl8 v t : Nat) : Int) 128 != 0) = true := by rw [Htb.out]; exact htop
            clear hst htop
            generalize shl8 v t = x at *
            go_wp2_with fail
            go_round
            case rel => exact ⟨t + 1, by omega, by go_num, by rw [Hsu.out]; go_num, Hst.out⟩
            case measure => simp [intOf]; omega
          | false =>
            obtain ⟨t8, hbit⟩ := bits_stop Hones.out Hv.out H255.out ht htop
            have Hbit := hide hbit
            have htt : (bits .and .u8 ((shl8 v t : Nat) : Int) 128 != 0) = false := by rw [Htb.out]; exact htop
            clear hbit htop
            by_cases hx0 : shl8 v t = 0
            · have hxx : (((shl8 v t : Nat) : Int) != 0) = false := by rw [hx0]; rfl
              have Hx0 := hide hx0
              have Hend := hide (fun hz => ones_end Hones.out Hv.out t8 hx0 hz)
              clear hx0
              generalize shl8 v t = x at *
              go_wp2_with fail
              clear htt hxx
              go_loop [4] (fun i => ∃ q : Nat, k + 1 ≤ q ∧ q ≤ n ∧ i = .int .i64 q ∧ ZerosTo bs k q) (fun i => n - (intOf i).toNat)
              case atStart => exact ⟨k + 1, Nat.le_refl _, by omega, by go_num, fun i h1 h2 => by omega⟩
              case round =>
                obtain ⟨q, hq1, hq2, rfl, hz⟩ := hrel
                have Hz := hide hz
                clear hz
                by_cases hltq : q < n
                · obtain ⟨g', o', y, hA, hy, hcy⟩ := Ha.out.at_ hltq
                  injection hA with hA; injection hA with e1 e2; subst e1 e2
                  have Hy := hide hy
                  have i2 : (0 : Int) ≤ q := by omega
                  clear hy
                  by_cases hy0 : y = 0
                  · subst hy0
                    go_wp2_with fail
                    go_round
                    case rel =>
                      refine ⟨q + 1, by omega, by omega, by go_num, fun i h1 h2 => ?_⟩
                      rcases Nat.lt_or_ge i q with h3 | h3
                      · exact Hz.out i h1 h3
                      · rw [show i = q by omega]; exact Hy.out
                    case measure => simp [intOf]; omega
                  · have hb2 : ((y.toNat : Int) != 0) = true := by
                      rw [bne_iff_ne]; intro h; exact hy0 (UInt8.toNat_inj.1 (by simpa using h))
                    have Hy0 := hide hy0
                    clear hy0
                    go_wp2_with fail
                    go_ret
                    exact ⟨ret_int (ones_behind (p := 8 * k + t) (i := q) (by omega) Hbit.out Hy.out Hy0.out).symm, rfl⟩
                · go_wp2_with fail
                  go_ret
                  refine ⟨ret_int ?_, rfl⟩
                  rw [Hend.out (fun i h1 h2 => Hz.out i h1 (by rw [Hl.out] at h2; omega))]
                  omega
            · have hxx : (((shl8 v t : Nat) : Int) != 0) = true := by rw [bne_iff_ne]; omega
              have Hleft := hide (ones_left Hv.out t8 Hbit.out hx0)
              clear hx0
              generalize shl8 v t = x at *
              go_wp2_with fail
              go_ret
              exact ⟨ret_int Hleft.out.symm, rfl⟩
    · obtain rfl : k = n := by omega
      go_wp2_with fail
      go_ret
      refine ⟨ret_int ?_, rfl⟩
      rw [ones_yes (k := 8 * k) (by rw [Hl.out]; omega) Hb.out (fun j h1 h2 => by rw [Hl.out] at h2; omega)]
      omega

/-- What Size says. -/
def sizeOnes (bs : List UInt8) : Int := if onesOf bs = -1 then 0 else onesOf bs
def sizeBits (bs : List UInt8) : Int := if onesOf bs = -1 then 0 else 8 * (bs.length : Int)

set_option maxHeartbeats 1600000 in
theorem size_any (A : Option Addr) (n c : Nat) (bs : List UInt8) (w : World) (av : Nat → Prop) (ha : RB w av A n c bs) (hn8 : n ≤ 140737488351232) :
    Calls Tryd.prog 43 #[.slice A n c] w fun e w' => e = .returned (.tuple #[.int .i64 (sizeOnes bs), .int .i64 (sizeBits bs)]) ∧ w = w' := by
  have Hc := hide (sml_any A n c bs w av ha hn8)
  have Hl := hide ha.len
  clear ha
  unfold sizeOnes sizeBits
  by_cases h1 : onesOf bs = -1
  · rw [if_pos h1, if_pos h1]
    rw [h1] at Hc
    clear h1
    go_enter Tryd.func43, Tryd.ntmps43
    go_wp2_with fail
    with_reducible refine Hc.out.mono ?_
    rintro e w' ⟨rfl, rfl⟩
    go_wp2_with fail
    go_ret2
    exact ⟨rfl, rfl⟩
  · rw [if_neg h1, if_neg h1, Hl.out]
    have hne : (onesOf bs == -1) = false := by simpa using h1
    generalize onesOf bs = z at *
    clear h1
    go_enter Tryd.func43, Tryd.ntmps43
    go_wp2_with fail
    with_reducible refine Hc.out.mono ?_
    rintro e w' ⟨rfl, rfl⟩
    go_wp2_with fail
    go_ret2
    refine ⟨?_, rfl⟩
    show Ending.returned (.tuple #[.int .i64 z, .int .i64 ((n : Int) * 8)]) = _
    rw [Int.mul_comm]
end Go.Proofs.YtmfcgglgolajnaaDoor
