/-
  The contract of isBit.
-/
import Derived.Test.YtknajppjgdhbfaaDoorBase
import Derived.Test.YtknajppjgdhbfaaDoorCidr
namespace Go.Proofs.YtknajppjgdhbfaaDoor
open Go.RowKit
set_option linter.unusedVariables false

theorem one_bit {x s : Nat} (hx : x < 256) (hs : s < 8) : (bits .and .u8 ((x : Int) / 2 ^ s) 1 == 1) = x.testBit s := by
  have key : ∀ (y : Fin 256) (t : Fin 8), (bits .and .u8 ((y.val : Int) / 2 ^ t.val) 1 == 1) = y.val.testBit t.val := by decide +kernel
  exact key ⟨x, hx⟩ ⟨s, hs⟩

set_option maxRecDepth 100000 in
set_option maxHeartbeats 1600000 in
theorem isBit_any (A : Option Addr) (n c k : Nat) (bs : List UInt8) (w : World) (av : Nat → Prop) (ha : RB w av A n c bs) (hn8 : n ≤ 140737488351232) (hk : k < 8 * n) :
    Calls Tryd.prog 16 #[.slice A n c, .int .i64 (k : Int)] w fun e w' => e = .returned (.bool (bitAt bs k)) ∧ w = w' := by
  obtain ⟨g, o, x, rfl, hx, hc⟩ := ha.at_ (k := k / 8) (by omega)
  have Hx := hide hx
  have hx1 := lt_256 x
  have i1 : (k : Int) / 8 < n := by omega
  have i2 : (0 : Int) ≤ (k : Int) / 8 := by omega
  clear ha hx
  go_enter Tryd.func16, Tryd.ntmps16
  go_wp2_with fail
  go_ret
  refine ⟨ret_bool ?_, rfl⟩
  rw [one_bit x.toNat_lt (by omega)]
  unfold bitAt
  rw [List.getD, Hx.out]
  rfl
end Go.Proofs.YtknajppjgdhbfaaDoor
