/-
  The contract of placeIn.
-/
import Derived.Test.YtmfcgglgolajnaaDoorMB
namespace Go.Proofs.YtmfcgglgolajnaaDoor
open Go.RowKit
set_option linter.unusedVariables false

/-- 'x & m' of an int, m not negative. -/
theorem and_nat (x : Int) (m : Nat) (hm : m < 9223372036854775808) : ∃ r : Nat, bits .and .i64 x (m : Int) = (r : Int) ∧ r ≤ m := by
  have hb : (BitVec.ofInt 64 (m : Int)).toNat = m := by
    rw [BitVec.toNat_ofInt]
    have : ((m : Int) % ((2 ^ 64 : Nat) : Int)) = m := Int.emod_eq_of_lt (by omega) (by omega)
    rw [this]; rfl
  have hle : (BitVec.ofInt 64 x &&& BitVec.ofInt 64 (m : Int)).toNat ≤ m := by
    rw [BitVec.toNat_and, hb]
    exact Nat.and_le_right
  refine ⟨(BitVec.ofInt 64 x &&& BitVec.ofInt 64 (m : Int)).toNat, ?_, hle⟩
  show IntKind.wrap .i64 (((BitVec.ofInt 64 x &&& BitVec.ofInt 64 (m : Int)).toNat : Nat) : Int) = _
  generalize (BitVec.ofInt 64 x &&& BitVec.ofInt 64 (m : Int)).toNat = r at hle ⊢
  rw [IntKind.wrap_i64]
  omega

/-- What placeIn hands back. -/
def placeN (k : Int) (n : Nat) : Nat := (bits .and .i64 k 65535).toNat % (n + 1)
theorem placeN_le (k : Int) (n : Nat) : placeN k n ≤ n := by
  have := Nat.mod_lt (bits .and .i64 k 65535).toNat (show 0 < n + 1 by omega)
  unfold placeN; omega

set_option maxHeartbeats 800000 in
theorem placeIn_any (k : Int) (n : Nat) (m : Int) (hm : (n : Int) = m) (hn : n ≤ 1048576) (w : World) :
    Calls Tryd.prog 11 #[.int .i64 k, .int .i64 m] w fun e w' => e = .returned (.int .i64 (placeN k n : Int)) ∧ w = w' := by
  subst hm
  obtain ⟨r, hr, hle⟩ := and_nat k 65535 (by omega)
  have hr' : bits .and .i64 k 65535 = (r : Int) := hr
  have hp : (placeN k n : Int) = (r : Int) % ((n : Int) + 1) := by
    unfold placeN; rw [hr', Int.toNat_natCast]; push_cast; rfl
  have Hp := hide hp
  have h0 : ((n : Int) + 1 == 0) = false := by rw [beq_eq_false_iff_ne]; omega
  have h00 : ¬ ((n : Int) + 1 = 0) := by omega
  have h1 : (r : Int).tmod ((n : Int) + 1) = (r : Int) % ((n : Int) + 1) := Int.tmod_eq_emod_of_nonneg (by omega)
  have b1 : (r : Int) % ((n : Int) + 1) < (n : Int) + 1 := Int.emod_lt_of_pos _ (by omega)
  have b2 : 0 ≤ (r : Int) % ((n : Int) + 1) := Int.emod_nonneg _ (by omega)
  clear hr hp
  go_enter Tryd.func11, Tryd.ntmps11
  go_wp2_with fail
  go_ret
  rw [Hp.out]
  exact ⟨rfl, rfl⟩
end Go.Proofs.YtmfcgglgolajnaaDoor
