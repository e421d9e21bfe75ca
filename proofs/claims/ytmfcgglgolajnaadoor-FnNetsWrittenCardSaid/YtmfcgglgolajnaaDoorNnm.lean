/-
  The contract of networkNumberAndMask, where number and mask are of one length and not IPv4-mapped.
-/
import Derived.Test.YtmfcgglgolajnaaDoorMG
namespace Go.Proofs.YtmfcgglgolajnaaDoor
open Go.RowKit

set_option maxHeartbeats 800000 in
theorem nnm_four (p q : Nat) (A : Addr) (M : Option Addr) (c d : Nat) (w : World) (h0 : w.cell? ⟨p, q, none⟩ = some (.slice (some A) 4 c)) (h1 : w.cell? ⟨p, q + 1, none⟩ = some (.slice M 4 d)) :
    Calls Tryd.prog 50 #[.pointer (some ⟨p, q, none⟩)] w fun e w' => e = .returned (.tuple #[.slice (some A) 4 c, .slice M 4 d]) ∧ w = w' := by
  have hnil := fun (w : World) a n c => Lib.run_eql_slice_nil (P := Tryd.prog) w 55 5 a n c 0 0 Tryd.underlying55
  go_enter Tryd.func50, Tryd.ntmps50
  go_wp2_with fail
  refine (to4_four _ _ _).mono ?_
  rintro e w' ⟨rfl, rfl⟩
  go_wp2
  go_ret2
  exact ⟨rfl, rfl⟩

set_option maxHeartbeats 800000 in
theorem nnm_six (p q : Nat) (A : Option Addr) (M : Option Addr) (c d : Nat) (w : World) (av : Nat → Prop) (xs : List UInt8) (h0 : w.cell? ⟨p, q, none⟩ = some (.slice A 16 c)) (h1 : w.cell? ⟨p, q + 1, none⟩ = some (.slice M 16 d))
    (ha : RB w av A 16 c xs) (hm : mapd xs = false) :
    Calls Tryd.prog 50 #[.pointer (some ⟨p, q, none⟩)] w fun e w' => e = .returned (.tuple #[.slice A 16 c, .slice M 16 d]) ∧ w = w' := by
  have hnil := fun (w : World) a n c => Lib.run_eql_slice_nil (P := Tryd.prog) w 55 5 a n c 0 0 Tryd.underlying55
  have Hm := hide hm
  have Ha := hide ha
  clear hm ha
  go_enter Tryd.func50, Tryd.ntmps50
  go_wp2_with fail
  refine (to4_six _ _ _ _ _ Ha.out Hm.out).mono ?_
  rintro e w' ⟨rfl, rfl⟩
  go_wp2
  go_ret2
  exact ⟨rfl, rfl⟩

theorem nnm_any (p q n : Nat) (A : Option Addr) (M : Option Addr) (c d : Nat) (w : World) (av : Nat → Prop) (xs : List UInt8) (h0 : w.cell? ⟨p, q, none⟩ = some (.slice A n c)) (h1 : w.cell? ⟨p, q + 1, none⟩ = some (.slice M n d))
    (hn : n = 4 ∨ n = 16) (ha : RB w av A n c xs) (hm : mapd xs = false) :
    Calls Tryd.prog 50 #[.pointer (some ⟨p, q, none⟩)] w fun e w' => e = .returned (.tuple #[.slice A n c, .slice M n d]) ∧ w = w' := by
  rcases hn with rfl | rfl
  · obtain ⟨g, o, x, rfl, _, _⟩ := ha.at_ (k := 0) (by omega)
    exact nnm_four p q _ M c d w h0 h1
  · exact nnm_six p q A M c d w av xs h0 h1 ha hm
end Go.Proofs.YtmfcgglgolajnaaDoor
