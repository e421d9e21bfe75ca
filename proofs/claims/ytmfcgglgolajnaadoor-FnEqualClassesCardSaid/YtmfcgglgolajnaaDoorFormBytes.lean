/-
  The contract of formBytes.
-/
import Derived.Test.YtmfcgglgolajnaaDoorBase
namespace Go.Proofs.YtmfcgglgolajnaaDoor
open Go.RowKit

theorem formBytes_own (A : Option Addr) (n c : Nat) (xs : List UInt8) (w : World) (av : Nat → Prop) (ha : RB w av A n c xs) (hn : n ≤ 140737488355328) :
    Calls Tryd.prog 33 #[.slice A n c] w fun e w' => ∃ v, e = .returned v ∧ w'.ownsRow w.heap.size 5 1 v n (xs.map fun b => .int .u8 (b.toNat : Int)) ∧ Below w.heap.size w w' := by
  obtain ⟨i0, hi, hz0, hz1, hz2⟩ := info_parts byte_info
  have h0 := ha.2.2.2
  have ho := World.ownsRow_nil w w.heap.size 5 1
  have hm := ha.max
  have hcap := ha.cap
  go_enter Tryd.func33, Tryd.ntmps33
  go_wp2_with (at_builtin; refine wpList_append_rd _ rfl (.const (.slice none 0 0)) (.tmp 3) _ rfl w.heap.size 5 i0 _ 1 Tryd.underlying22 hi hz0 hz1 hz2 rfl _ 0 [] rfl ho av A n c _ rfl h0 ?c1 ?c2 ?c3 ?c4 ?_)
  case c1 => intro u hu; simp at hu; obtain ⟨x, _, rfl⟩ := hu; rfl
  case c2 => omega
  case c3 => omega
  case c4 => omega
  intro v' w' h1 h2 h3
  go_wp2
  go_ret
  refine ⟨v', rfl, by simpa using h1, (Below.refl _ _).grown h2 (Nat.le_refl _) (fun k hk => ?_)⟩
  simp [Value.ownBlock] at hk
end Go.Proofs.YtmfcgglgolajnaaDoor
