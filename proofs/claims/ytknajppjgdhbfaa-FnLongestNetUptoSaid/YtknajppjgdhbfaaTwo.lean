/-
  Two slices of bytes in a new list, as the laws lay them ahead of alike.
-/
import Derived.Test.YtknajppjgdhbfaaAlike
import Derived.OpenShut
namespace Go.Proofs.Ytknajppjgdhbfaa
open Go.RowKit

theorem RBB.two {w : World} {A B : Option Addr} {n c m d : Nat} {ps bs : List UInt8} (t : TypeId) (ha : RB w no A n c ps) (hb : RB w no B m d bs) : RBB (w.alloc (.cells #[.slice A n c, .slice B m d] t)) no (some ⟨w.heap.size, 0, none⟩) 2 2 [ps, bs] :=
  ⟨rfl, Nat.le_refl _, by unfold maxLen; omega, [.slice A n c, .slice B m d], ⟨rfl, fun _ => ⟨w.heap.size, 0, rfl, by simp, fun h => h, fun j v hv => by
    rcases j with _ | _ | j
    · simp at hv; subst hv; simp [World.cell?_alloc_new]
    · simp at hv; subst hv; simp [World.cell?_alloc_new]
    · simp at hv⟩⟩, by simp, fun j b hj => by
    rcases j with _ | _ | j
    · simp at hj; subst hj; exact ⟨A, n, c, rfl, ha.alloc _⟩
    · simp at hj; subst hj; exact ⟨B, m, d, rfl, hb.alloc _⟩
    · simp at hj⟩

theorem alikeL_two (a b : List UInt8) (n : Nat) : (goodA n a = true ∧ goodA n b = true ∧ (alikeL [a, b] n).length = 2) ∨ (alikeL [a, b] n).length < 2 := by
  unfold alikeL
  cases ha : goodA n a <;> cases hb : goodA n b <;> simp [ha, hb]
theorem goodA_out {n : Nat} {b : List UInt8} (h : goodA n b = true) : b.length = n ∧ (n = 4 ∨ n = 16) ∧ mapd b = false := by
  unfold goodA at h
  simp at h
  exact ⟨h.1.1, h.1.2, h.2⟩
theorem RB.two {w : World} (x y : UInt8) (t : TypeId) : RB (w.alloc (.cells #[.int .u8 (x.toNat : Int), .int .u8 (y.toNat : Int)] t)) no (some ⟨w.heap.size, 0, none⟩) 2 2 [x, y] :=
  ⟨rfl, Nat.le_refl _, by unfold maxLen; omega, rfl, fun _ => ⟨w.heap.size, 0, rfl, by simp, fun h => h, fun j v hv => by
    rcases j with _ | _ | j
    · simp at hv; subst hv; simp [World.cell?_alloc_new]
    · simp at hv; subst hv; simp [World.cell?_alloc_new]
    · simp at hv⟩⟩
theorem byte_of_wf {z : Int} (h : (Lit.int .u8 z).wf = true) : ∃ x : UInt8, z = (x.toNat : Int) := by
  have hb := bounds_u8 h
  refine ⟨UInt8.ofNat z.toNat, ?_⟩
  rw [UInt8.toNat_ofNat']
  omega
end Go.Proofs.Ytknajppjgdhbfaa
