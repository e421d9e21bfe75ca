/-
  The contracts of fOne and fRead.
-/
import Derived.Test.YtekmlhkoibgmlaaDoorPEach
namespace Go.Proofs.YtekmlhkoibgmlaaDoor
open Go.RowKit
set_option linter.unusedVariables false

set_option maxHeartbeats 800000 in
theorem fOne_any (A B : Option Addr) (c m d : Nat) (b : List UInt8) (g o : Nat) (w : World) (hA : A = some ⟨g, o, none⟩) (hc : w.cell? ⟨g, o, none⟩ = some (.slice B m d)) :
    Calls Tryd.prog 37 #[.slice A 1 c] w fun e w' => e = .returned (.slice B m d) ∧ w = w' := by
  subst hA
  go_enter Tryd.func37, Tryd.ntmps37
  go_wp2_with fail
  go_ret
  exact ⟨rfl, rfl⟩

/-- What fRead hands back. -/
def RetRead (w : World) (bs : List UInt8) (e : Ending) (w' : World) : Prop := ∃ A c, e = .returned (.tuple #[.slice A bs.length c, .bool true]) ∧ RB w' no A bs.length c bs ∧ Below w.heap.size w w'

set_option maxRecDepth 100000 in
set_option maxHeartbeats 800000 in
theorem fRead_any (s : List UInt8) (w : World) (g4 o4 g6 o6 : Nat) (hz : ZIs w g4 o4 g6 o6) (hs : s.length ≤ 140737488351232) (hc : scanL s ≠ some 58) :
    Calls Tryd.prog 15 #[.string ⟨s.toArray⟩] w (RetRead w (readB s)) := by
  have hb0 : Below w.heap.size w (w.alloc (.cells #[.string ⟨s.toArray⟩] 9)) := (Below.refl _ _).alloc (Nat.le_refl _) _
  have hrs : RS (w.alloc (.cells #[.string ⟨s.toArray⟩] 9)) no (some ⟨w.heap.size, 0, none⟩) 1 1 [s] := ⟨rfl, Nat.le_refl _, by unfold maxLen; omega, Rd.one w _ _ no (fun h => h)⟩
  have Hc := hide (parseEach_any _ 1 1 [s] _ g4 o4 g6 o6 hrs (by omega) (hz.below hb0) (by intro t ht; simp at ht; subst ht; exact ⟨hs, hc⟩))
  have Hb0 := hide hb0
  clear hz hrs hb0 hc
  go_enter Tryd.func15, Tryd.ntmps15
  go_wp2_with fail
  with_reducible refine Hc.out.mono ?_
  rintro e w1 ⟨A1, c1, rfl, h1, hb1⟩
  rw [show ([s].map readB).length = 1 from rfl] at h1 ⊢
  obtain ⟨g, o, B, m, d, b, rfl, hbk, hcell, hb⟩ := h1.at_ (k := 0) (by omega)
  obtain rfl : b = readB s := by simp at hbk; exact hbk.symm
  obtain rfl : (readB s).length = m := hb.len
  rw [Nat.add_zero] at hcell
  have Ho := hide (fOne_any (some ⟨g, o, none⟩) B c1 _ d (readB s) g o w1 rfl hcell)
  have Hb := hide hb
  have Hb1 := hide (Hb0.out.trans (hb1.mono Hb0.out.size))
  clear h1 hbk hb hb1 Hc hcell
  go_wp2_with fail
  with_reducible refine Ho.out.mono ?_
  rintro e w2 ⟨rfl, rfl⟩
  go_wp2_with fail
  go_ret2
  exact ⟨B, d, rfl, Hb.out, Hb1.out⟩
end Go.Proofs.YtekmlhkoibgmlaaDoor
