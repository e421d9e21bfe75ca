/-
  The contract of Addr.v4.
-/
import Derived.Test.YtmfcgglgolajnaaDoorAppD
namespace Go.Proofs.YtmfcgglgolajnaaDoor
open Go.RowKit
set_option linter.unusedVariables false

theorem lo4_parts (a b c d : UInt8) : ((lo4 a b c d : Nat) : Int) / 16777216 % 256 = a.toNat ∧ ((lo4 a b c d : Nat) : Int) / 65536 % 256 = b.toNat ∧ ((lo4 a b c d : Nat) : Int) / 256 % 256 = c.toNat ∧ ((lo4 a b c d : Nat) : Int) % 256 = d.toNat := by
  have := a.toNat_lt; have := b.toNat_lt; have := c.toNat_lt; have := d.toNat_lt
  unfold lo4
  refine ⟨?_, ?_, ?_, ?_⟩ <;> omega
theorem lo4_lt (a b c d : UInt8) : lo4 a b c d < 18446744073709551616 := by
  have := a.toNat_lt; have := b.toNat_lt; have := c.toNat_lt; have := d.toNat_lt
  unfold lo4
  omega

set_option maxRecDepth 100000 in
set_option maxHeartbeats 800000 in
theorem v4_0 (lo : Nat) (p : Option Addr) (x : UInt8) (w : World) (hl : lo < 18446744073709551616) (hx : (lo : Int) / 16777216 % 256 = x.toNat) :
    Calls Tryd.prog 78 #[addrV 0 lo p, .int .u8 0] w fun e w' => e = .returned (.int .u8 (x.toNat : Int)) ∧ Below w.heap.size w w' := by
  have hB : Hid (∀ o1, Below w.heap.size w (w.alloc o1)) := hide (fun o1 => (Below.refl _ _).alloc (Nat.le_refl _) _)
  have h1 : (lo : Int) < 18446744073709551616 := by omega
  have h2 : (0 : Int) ≤ (lo : Int) := by omega
  have Hx := hide hx
  clear hx
  unfold addrV
  go_enter Tryd.func78, Tryd.ntmps78
  go_wp2_with fail
  go_ret
  rw [← Hx.out]
  exact ⟨rfl, hB.out _⟩
set_option maxRecDepth 100000 in
set_option maxHeartbeats 800000 in
theorem v4_1 (lo : Nat) (p : Option Addr) (x : UInt8) (w : World) (hl : lo < 18446744073709551616) (hx : (lo : Int) / 65536 % 256 = x.toNat) :
    Calls Tryd.prog 78 #[addrV 0 lo p, .int .u8 1] w fun e w' => e = .returned (.int .u8 (x.toNat : Int)) ∧ Below w.heap.size w w' := by
  have hB : Hid (∀ o1, Below w.heap.size w (w.alloc o1)) := hide (fun o1 => (Below.refl _ _).alloc (Nat.le_refl _) _)
  have h1 : (lo : Int) < 18446744073709551616 := by omega
  have h2 : (0 : Int) ≤ (lo : Int) := by omega
  have Hx := hide hx
  clear hx
  unfold addrV
  go_enter Tryd.func78, Tryd.ntmps78
  go_wp2_with fail
  go_ret
  rw [← Hx.out]
  exact ⟨rfl, hB.out _⟩
set_option maxRecDepth 100000 in
set_option maxHeartbeats 800000 in
theorem v4_2 (lo : Nat) (p : Option Addr) (x : UInt8) (w : World) (hl : lo < 18446744073709551616) (hx : (lo : Int) / 256 % 256 = x.toNat) :
    Calls Tryd.prog 78 #[addrV 0 lo p, .int .u8 2] w fun e w' => e = .returned (.int .u8 (x.toNat : Int)) ∧ Below w.heap.size w w' := by
  have hB : Hid (∀ o1, Below w.heap.size w (w.alloc o1)) := hide (fun o1 => (Below.refl _ _).alloc (Nat.le_refl _) _)
  have h1 : (lo : Int) < 18446744073709551616 := by omega
  have h2 : (0 : Int) ≤ (lo : Int) := by omega
  have Hx := hide hx
  clear hx
  unfold addrV
  go_enter Tryd.func78, Tryd.ntmps78
  go_wp2_with fail
  go_ret
  rw [← Hx.out]
  exact ⟨rfl, hB.out _⟩
set_option maxRecDepth 100000 in
set_option maxHeartbeats 800000 in
theorem v4_3 (lo : Nat) (p : Option Addr) (x : UInt8) (w : World) (hl : lo < 18446744073709551616) (hx : (lo : Int) % 256 = x.toNat) :
    Calls Tryd.prog 78 #[addrV 0 lo p, .int .u8 3] w fun e w' => e = .returned (.int .u8 (x.toNat : Int)) ∧ Below w.heap.size w w' := by
  have hB : Hid (∀ o1, Below w.heap.size w (w.alloc o1)) := hide (fun o1 => (Below.refl _ _).alloc (Nat.le_refl _) _)
  have h1 : (lo : Int) < 18446744073709551616 := by omega
  have h2 : (0 : Int) ≤ (lo : Int) := by omega
  have Hx := hide hx
  clear hx
  unfold addrV
  go_enter Tryd.func78, Tryd.ntmps78
  go_wp2_with fail
  go_ret
  rw [← Hx.out]
  exact ⟨rfl, hB.out _⟩
end Go.Proofs.YtmfcgglgolajnaaDoor
