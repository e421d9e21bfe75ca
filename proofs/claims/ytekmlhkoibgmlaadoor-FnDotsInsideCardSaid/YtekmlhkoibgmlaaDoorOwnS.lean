/-
  A row of texts of the call's own, written in.
-/
import Derived.Test.YtekmlhkoibgmlaaDoorFHex
namespace Go.Proofs.YtekmlhkoibgmlaaDoor
open Go.RowKit
set_option linter.unusedVariables false

/-- A row of texts of the call's own, laid behind w. -/
def OwnS (w : World) (v : Value) (n : Nat) (ss : List (List UInt8)) (wr : World) : Prop := wr.ownsRow w.heap.size 9 1 v n (ss.map sv) ∧ Below w.heap.size w wr
theorem OwnS.rs {w wr : World} {A : Option Addr} {n c : Nat} {ss : List (List UInt8)} (h : OwnS w (.slice A n c) n ss wr) : RS wr no A n c ss := by
  obtain ⟨A', c', e, hr⟩ := RS.of_own_av (av := no) h.1 (fun g h => h.elim)
  injection e with e1 _ e3
  subst e1 e3
  exact hr
theorem OwnS.form {w wr : World} {v : Value} {n : Nat} {ss : List (List UInt8)} (h : OwnS w v n ss wr) : ∃ A c, v = .slice A n c ∧ n ≤ c ∧ c ≤ maxLen := by
  obtain ⟨A', c', e, hr⟩ := RS.of_own_av (av := no) h.1 (fun g h => h.elim)
  exact ⟨A', c', e, hr.cap, hr.max⟩
theorem OwnS.some_ {w wr : World} {A : Option Addr} {n c : Nat} {ss : List (List UInt8)} (h : OwnS w (.slice A n c) n ss wr) (hn : 0 < n) : ∃ g, A = some ⟨g, 0, none⟩ ∧ w.heap.size ≤ g := by
  rcases h.1.2 with ⟨_, h2⟩ | ⟨g, cap, cur, h2, h3, _⟩
  · omega
  · injection h2 with h2 _ _; exact ⟨g, h2, h3⟩
theorem OwnS.set_ {w wr : World} {g n c : Nat} {ss : List (List UInt8)} (h : OwnS w (.slice (some ⟨g, 0, none⟩) n c) n ss wr) (hg : w.heap.size ≤ g) (i : Nat) (x : List UInt8) :
    OwnS w (.slice (some ⟨g, 0, none⟩) n c) n (ss.set i x) (wr.setCell ⟨g, i, none⟩ (.string ⟨x.toArray⟩)) := by
  have hs := h.1.stored i (.string ⟨x.toArray⟩)
  have e : (ss.map sv).set i (.string ⟨x.toArray⟩) = (ss.set i x).map sv := by rw [List.map_set]; rfl
  rw [e] at hs
  exact ⟨hs.1, h.2.setCell hg _⟩
theorem OwnS.below {w wr w' : World} {v : Value} {n : Nat} {ss : List (List UInt8)} (h : OwnS w v n ss wr) (hb : Below wr.heap.size wr w') : OwnS w v n ss w' := ⟨own_below h.1 hb, h.2.trans (hb.mono h.2.size)⟩
theorem OwnS.drewN {w wr : World} {v : Value} {n : Nat} {ss : List (List UInt8)} (h : OwnS w v n ss wr) (q : Nat) : OwnS w v n ss (wr.drewN q) := ⟨own_drewN h.1 q, below_drewN h.2 q⟩
end Go.Proofs.YtekmlhkoibgmlaaDoor
