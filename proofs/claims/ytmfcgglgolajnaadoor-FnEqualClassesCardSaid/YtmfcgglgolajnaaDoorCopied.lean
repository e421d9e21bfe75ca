/-
  The contract of copied.
-/
import Derived.Test.YtmfcgglgolajnaaDoorBase
namespace Go.Proofs.YtmfcgglgolajnaaDoor
open Go.RowKit

theorem copied_own (A : Option Addr) (n c : Nat) (xs : List UInt8) (w : World) (av : Nat → Prop) (ha : RB w av A n c xs) (hn : n ≤ 140737488355328) :
    Calls Tryd.prog 12 #[.slice A n c] w fun e w' => ∃ v, e = .returned v ∧ w'.ownsRow w.heap.size 5 1 v n (xs.map fun b => .int .u8 (b.toNat : Int)) ∧ Below w.heap.size w w' := by
  obtain ⟨i0, hi, hz0, hz1, hz2⟩ := info_parts byte_info
  have h0 : Rd (w.alloc (.cells #[] 5)) av A n (xs.map fun b => .int .u8 (b.toNat : Int)) := ha.2.2.2.keep (Kept.alloc _ _ _)
  have ho := own_empty w w.heap.size 5 (Nat.le_refl _)
  have hm := ha.max
  have hcap := ha.cap
  go_enter Tryd.func12, Tryd.ntmps12
  go_wp2_with (at_builtin; refine wpList_append_rd _ rfl (.tmp 3) (.tmp 4) _ rfl w.heap.size 5 i0 _ 1 Tryd.underlying22 hi hz0 hz1 hz2 rfl _ 0 [] rfl ho av A n c _ rfl h0 ?c1 ?c2 ?c3 ?c4 ?_)
  case c1 => intro u hu; simp at hu; obtain ⟨x, _, rfl⟩ := hu; rfl
  case c2 => omega
  case c3 => omega
  case c4 => simp
  intro v' w' h1 h2 h3
  go_wp2
  go_ret
  refine ⟨v', rfl, by simpa using h1, ((Below.refl _ _).alloc (Nat.le_refl _) _).grown h2 (by simp) (fun k hk => ?_)⟩
  simp [Value.ownBlock] at hk; omega
end Go.Proofs.YtmfcgglgolajnaaDoor
