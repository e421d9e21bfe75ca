/-
  The contract of spec.onesOf.
-/
import Derived.Test.YtbpecepegceleaaBase
import Derived.Test.YtbpecepegceleaaCidr
import Derived.Test.YtbpecepegceleaaOnes
namespace Go.Proofs.Ytbpecepegceleaa
open Go.RowKit
set_option linter.unusedVariables false

theorem oneBit {x s : Nat} (hx : x < 256) (hs : s < 8) : (bits .and .u8 ((x : Int) / 2 ^ s) 1 == 1) = x.testBit s := by
  have key : ∀ (y : Fin 256) (t : Fin 8), (bits .and .u8 ((y.val : Int) / 2 ^ t.val) 1 == 1) = y.val.testBit t.val := by decide +kernel
  exact key ⟨x, hx⟩ ⟨s, hs⟩

/-- After K bits: m ones, and then (if ended) zeros. -/
def SpR (bs : List UInt8) (K m : Nat) (eb : Bool) : Prop :=
  (∀ j, j < m → bitAt bs j = true) ∧ (∀ j, m ≤ j → j < K → bitAt bs j = false) ∧ m ≤ K ∧ (eb = false → m = K) ∧ (eb = true → m < K)

set_option maxRecDepth 100000 in
set_option maxHeartbeats 1600000 in
theorem specOnes_any (A : Option Addr) (n c : Nat) (bs : List UInt8) (w : World) (av : Nat → Prop) (ha : RB w av A n c bs) (hn : n ≤ 1048576) :
    Calls Try.prog 20 #[.slice A n c] w fun e w' => e = .returned (.int .i64 (onesOf bs)) ∧ w = w' := by
  have Ha := hide ha
  clear ha
  go_enter Try.func20, Try.ntmps20
  go_wp2_with fail
  go_loop [3, 4, 10] (fun s3 s4 i => ∃ (K m : Nat) (eb : Bool), K ≤ 8 * n ∧ i = .int .i64 K ∧ s3 = .int .i64 m ∧ s4 = .bool eb ∧ SpR bs K m eb) (fun _ _ i => 8 * n - (intOf i).toNat)
  case atStart => exact ⟨0, 0, false, Nat.zero_le _, rfl, rfl, rfl, fun j h => by omega, fun j _ h => by omega, Nat.le_refl _, fun _ => rfl, fun h => by cases h⟩
  case round =>
    obtain ⟨K, m, eb, hK, rfl, rfl, rfl, hs⟩ := hrel
    have Hs := hide hs
    have hmK := hs.2.2.1
    clear hs
    by_cases hlt : K < 8 * n
    · obtain ⟨g, o, x, rfl, hx, hc⟩ := Ha.out.at_ (k := K / 8) (by omega)
      have Hbit : Hid (bitAt bs K = x.toNat.testBit (7 - K % 8)) := hide (by unfold bitAt; rw [List.getD, hx]; rfl)
      have hb := oneBit (x := x.toNat) (s := 7 - K % 8) x.toNat_lt (by omega)
      rw [← Hbit.out] at hb
      have hx1 := lt_256 x
      have i1 : (K : Int) / 8 < n := by omega
      have i2 : (0 : Int) ≤ (K : Int) / 8 := by omega
      have i3 : (0 : Int) ≤ 7 - (K : Int) % 8 := by omega
      have i6 : (K : Int) < 8 * (n : Int) := by omega
      clear hx
      cases hbv : bitAt bs K with
      | true =>
        rw [hbv] at hb
        have Hbv := hide hbv
        clear hbv
        cases eb with
        | true =>
          go_wp2_with fail
          go_ret
          refine ⟨congrArg (fun z => Ending.returned (.int .i64 z)) (ones_no (p := m) (q := K) (Hs.out.2.2.2.2 rfl) (by rw [Ha.out.len]; exact hlt) (Hs.out.2.1 m (Nat.le_refl _) (Hs.out.2.2.2.2 rfl)) Hbv.out).symm, rfl⟩
        | false =>
          go_wp2_with fail
          go_round
          case rel =>
            have hm := Hs.out.2.2.2.1 rfl
            refine ⟨K + 1, m + 1, false, by omega, by go_num, by go_num, rfl, fun j hj => ?_, fun j h1 h2 => by omega, by omega, fun _ => by omega, fun h => by cases h⟩
            by_cases e : j = K
            · rw [e]; exact Hbv.out
            · exact Hs.out.1 j (by omega)
          case measure => simp [intOf]; omega
      | false =>
        rw [hbv] at hb
        have Hbv := hide hbv
        clear hbv
        go_wp2_with fail
        go_round
        case rel =>
          refine ⟨K + 1, m, true, by omega, by go_num, rfl, rfl, Hs.out.1, fun j h1 h2 => ?_, by omega, (fun h => nomatch h), fun _ => by omega⟩
          by_cases e : j = K
          · rw [e]; exact Hbv.out
          · exact Hs.out.2.1 j h1 (by omega)
        case measure => simp [intOf]; omega
    · obtain rfl : K = 8 * n := by omega
      have i6 : ¬ ((8 * (n : Int)) < 8 * (n : Int)) := by omega
      go_wp2_with fail
      go_ret
      refine ⟨congrArg (fun z => Ending.returned (.int .i64 z)) (ones_yes (k := m) (by rw [Ha.out.len]; exact hmK) Hs.out.1 (fun j h1 h2 => Hs.out.2.1 j h1 (by rw [← Ha.out.len]; exact h2))).symm, rfl⟩
end Go.Proofs.Ytbpecepegceleaa
