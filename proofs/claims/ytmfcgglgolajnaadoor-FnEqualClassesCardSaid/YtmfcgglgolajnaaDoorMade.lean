/-
  Slices of slices of bytes that a call makes.
-/
import Derived.Test.YtmfcgglgolajnaaDoorBase
namespace Go.Proofs.YtmfcgglgolajnaaDoor
open Go.RowKit

theorem bytes_info : (Tryd.prog.info? 22).map (fun i => (i.zero, i.size, i.bytes)) = some (some (.slice none 0 0), 1, 24) := by kernel_rfl

/-- A slice of slices of bytes comes back; nothing that was there has turned. -/
def RetBB (w : World) (bss : List (List UInt8)) (e : Ending) (w' : World) : Prop := ∃ A c, e = .returned (.slice A bss.length c) ∧ RBB w' no A bss.length c bss ∧ Below w.heap.size w w'

/-- .. all in blocks that are not of S. -/
def RetBBF (S : Nat → Prop) (w : World) (bss : List (List UInt8)) (e : Ending) (w' : World) : Prop := ∃ A c, e = .returned (.slice A bss.length c) ∧ RBB w' S A bss.length c bss ∧ Below w.heap.size w w'

/-- Slices of the call's own making, in a row of its own; they lie in no block of S. -/
def Made (S : Nat → Prop) (w : World) (bss : List (List UInt8)) (v : Value) (wr : World) : Prop :=
  ∃ xs : List Value, wr.ownsRow w.heap.size 22 1 v bss.length xs ∧ Each wr (fun g => S g ∨ rowOf v g) xs bss ∧ Below w.heap.size w wr

theorem Made.start (S : Nat → Prop) (w : World) : Made S w [] (.slice (some ⟨w.heap.size, 0, none⟩) 0 0) (w.alloc (.cells #[] 22)) :=
  ⟨[], own_empty w w.heap.size _ (Nat.le_refl _), Each.nil, (Below.refl _ _).alloc (Nat.le_refl _) _⟩
theorem Made.start_nil (S : Nat → Prop) (w : World) : Made S w [] (.slice none 0 0) w :=
  ⟨[], World.ownsRow_nil w _ _ _, Each.nil, Below.refl _ _⟩
theorem Made.ret {S : Nat → Prop} {w wr : World} {bss : List (List UInt8)} {v : Value} (h : Made S w bss v wr) : RetBB w bss (.returned v) wr := by
  obtain ⟨xs, h1, h2, h3⟩ := h
  obtain ⟨A, c, rfl, hr⟩ := RBB.of_own h1 h2.free
  exact ⟨A, c, rfl, hr, h3⟩
/-- Where S lies below the row. -/
theorem Made.retF {S : Nat → Prop} {w wr : World} {bss : List (List UInt8)} {v : Value} (h : Made S w bss v wr) (hS : ∀ g, S g → g < w.heap.size) : RetBBF S w bss (.returned v) wr := by
  obtain ⟨xs, h1, h2, h3⟩ := h
  obtain ⟨A, c, rfl, q1, q2, q3⟩ := Rd.of_own h1
  refine ⟨A, c, rfl, ⟨rfl, q1, q2, xs, ⟨q3.1, fun hn => ?_⟩, h2.sub fun g _ h => Or.inl h⟩, h3⟩
  obtain ⟨g, o, e2, hg, _, hc⟩ := q3.2 hn
  refine ⟨g, o, e2, hg, fun hh => ?_, hc⟩
  have := (h1.lt g (by rw [e2]; rfl)).1
  have := hS g hh
  omega
theorem Made.below {S : Nat → Prop} {w wr w' : World} {bss : List (List UInt8)} {v : Value} (h : Made S w bss v wr) (hb : Below wr.heap.size wr w') : Made S w bss v w' := by
  obtain ⟨xs, h1, h2, h3⟩ := h
  exact ⟨xs, own_below h1 hb, h2.keep (Kept.of_below hb _), h3.trans (hb.mono h3.size)⟩
/-- One more: 'append(out, x)', x laid in a cell first. -/
theorem Made.step {S : Nat → Prop} {w w1 w' : World} {bss : List (List UInt8)} {v v' : Value} {A : Option Addr} {n c : Nat} {bs : List UInt8} {xs : List Value} (h1 : w1.ownsRow w.heap.size 22 1 v bss.length xs) (h2 : Each w1 (fun g => S g ∨ rowOf v g) xs bss) (h3 : Below w.heap.size w w1)
    (hr : RB w1 (fun g => S g ∨ rowOf v g) A n c bs) (ho : w'.ownsRow w.heap.size 22 1 v' (bss.length + 1) (xs ++ [.slice A n c])) (hg : (w1.alloc (.cells #[.slice A n c] 22)).grownBy w' v.ownBlock)
    (hv : v'.ownBlock = v.ownBlock ∨ v'.ownBlock = some (w1.heap.size + 1)) : Made S w (bss ++ [bs]) v' w' := by
  have hE : Each w1 (fun g => S g ∨ rowOf v g) (xs ++ [.slice A n c]) (bss ++ [bs]) := h2.snoc hr
  have hK : Kept (rowOf v) w1 w' := (Kept.alloc (rowOf v) w1 _).trans (Kept.of_grown hg)
  refine ⟨_, by simpa using ho, ?_, below_append (h3.alloc h3.size _) hg (h1.alloc _) (by simp; have := h3.size; omega)⟩
  have hE2 : Each w1 (fun g => (S g ∨ rowOf v g) ∨ rowOf v' g) (xs ++ [.slice A n c]) (bss ++ [bs]) := hE.sub fun g hg h => by
    rcases h with h | h
    · exact h
    · unfold rowOf at h ⊢
      rcases hv with hv | hv
      · rw [← hv]; exact Or.inr h
      · rw [hv] at h; injection h with h; omega
  exact (hE2.keep (hK.mono fun _ h => Or.inl (Or.inr h))).sub fun _ _ h => h.elim (fun h => Or.inl (Or.inl h)) Or.inr

end Go.Proofs.YtmfcgglgolajnaaDoor
