/-
  The contract of maskOf.
-/
import Derived.Test.YtmfcgglgolajnaaDoorMasksOf
import Derived.Test.YtmfcgglgolajnaaDoorAlike
namespace Go.Proofs.YtmfcgglgolajnaaDoor
open Go.RowKit
set_option linter.unusedVariables false

theorem RI.one (w : World) (z : Int) (t : TypeId) : RI (w.alloc (.cells #[.int .i64 z] t)) no (some ⟨w.heap.size, 0, none⟩) 1 1 [z] :=
  ⟨rfl, Nat.le_refl _, by unfold maxLen; omega, ⟨rfl, fun _ => ⟨w.heap.size, 0, rfl, by simp, fun h => h, fun j v hv => by
    rcases j with _ | j
    · simp at hv; subst hv; simp [World.cell?_alloc_new]
    · simp at hv⟩⟩⟩

set_option maxHeartbeats 1600000 in
theorem maskOf_any (k : Int) (n : Nat) (w : World) (hn : n = 4 ∨ n = 16) (h0 : 0 ≤ k) (hk : k ≤ 8 * (n : Int)) :
    Calls Tryd.prog 24 #[.int .i64 k, .int .i64 (n : Int)] w (RetBF w (cidr n k.toNat)) := by
  have hn16 : n ≤ 16 := by omega
  have Hcall := hide (masksOf_any _ 1 1 n (8 * (n : Int)) [k] _ no (RI.one w k 3) hn rfl (by intro z hz; simp at hz; subst hz; exact ⟨h0, hk⟩) (by omega))
  clear hn h0 hk
  go_enter Tryd.func24, Tryd.ntmps24
  go_wp2_with fail
  with_reducible refine Hcall.out.mono ?_
  rintro e v1 ⟨A1, d1, rfl, h1, hb1⟩
  have hl : (masksL n [k]).length = 1 := rfl
  rw [hl] at h1 ⊢
  obtain ⟨g, o, B, m, f, b, rfl, hbk, hc, hb⟩ := h1.at_ (k := 0) (by omega)
  have hbe : b = cidr n k.toNat := by
    unfold masksL at hbk
    simp at hbk
    exact hbk.symm
  subst hbe
  obtain rfl : m = n := by rw [← hb.len, cidr_length]
  have Hb := hide hb
  have Hb1 := hide hb1
  have hne : ((m : Int) != (m : Int)) = false := by simp
  have hc' : v1.cell? ⟨g, o, none⟩ = some (.slice B m f) := hc
  clear h1 hbk hb hb1 hc hl Hcall
  go_wp2_with fail
  go_ret
  refine ⟨B, f, ?_, ?_, ((Below.refl _ _).alloc (Nat.le_refl _) _).trans (Hb1.out.mono (by simp))⟩
  · rw [cidr_length]; rfl
  · rw [cidr_length]
    exact Hb.out.sub fun g _ h => by simp; omega
end Go.Proofs.YtmfcgglgolajnaaDoor
