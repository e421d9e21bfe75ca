/-
  Words for slices of slices of bools (as those for bytes). Beside the types' numbers no program is named here.
-/
import Derived.Test.YtmfcgglgolajnaaDoorAppend
namespace Go.Proofs.YtmfcgglgolajnaaDoor
open Go.RowKit

/-! ### A slice of slices of bools -/
/-- The values xs are slices that read as bss. -/
def EachL (w : World) (av : Nat → Prop) (xs : List Value) (bss : List (List Bool)) : Prop :=
  xs.length = bss.length ∧ ∀ (j : Nat) (bs : List Bool), bss[j]? = some bs → ∃ A n c, xs[j]? = some (Value.slice A n c) ∧ RL w av A n c bs

def RLL (w : World) (av : Nat → Prop) (A : Option Addr) (n c : Nat) (bss : List (List Bool)) : Prop :=
  bss.length = n ∧ n ≤ c ∧ c ≤ maxLen ∧ ∃ xs, Rd w av A n xs ∧ EachL w av xs bss

section
variable {w w' : World} {av : Nat → Prop} {A : Option Addr} {n c k : Nat} {bss : List (List Bool)} {xs : List Value}
theorem EachL.nil : EachL w av [] [] := ⟨rfl, fun j bs h => by simp at h⟩
theorem EachL.keep (h : EachL w av xs bss) (hk : Kept av w w') : EachL w' av xs bss :=
  ⟨h.1, fun j bs hj => by obtain ⟨A, n, c, e, hr⟩ := h.2 j bs hj; exact ⟨A, n, c, e, hr.keep hk⟩⟩
theorem EachL.free (h : EachL w av xs bss) : EachL w no xs bss :=
  ⟨h.1, fun j bs hj => by obtain ⟨A, n, c, e, hr⟩ := h.2 j bs hj; exact ⟨A, n, c, e, hr.free⟩⟩
theorem EachL.sub (h : EachL w av xs bss) {av' : Nat → Prop} (hs : ∀ g, g < w.heap.size → av' g → av g) : EachL w av' xs bss :=
  ⟨h.1, fun j bs hj => by obtain ⟨A, n, c, e, hr⟩ := h.2 j bs hj; exact ⟨A, n, c, e, hr.sub hs⟩⟩
theorem EachL.fresh (h : EachL w av xs bss) {b : Nat} (hb : w.heap.size ≤ b) : EachL w (just b) xs bss :=
  ⟨h.1, fun j bs hj => by obtain ⟨A, n, c, e, hr⟩ := h.2 j bs hj; exact ⟨A, n, c, e, hr.fresh hb⟩⟩
theorem EachL.snoc (h : EachL w av xs bss) {A : Option Addr} {n c : Nat} {bs : List Bool} (hr : RL w av A n c bs) : EachL w av (xs ++ [Value.slice A n c]) (bss ++ [bs]) := by
  refine ⟨by simp [h.1], fun j b hj => ?_⟩
  by_cases hlt : j < bss.length
  · rw [List.getElem?_append_left hlt] at hj
    rw [List.getElem?_append_left (by rw [h.1]; exact hlt)]
    exact h.2 j b hj
  · have hj' : j = bss.length := by
      have := (List.getElem?_eq_some_iff.1 hj).1
      simp at this; omega
    subst hj'
    simp at hj
    subst hj
    refine ⟨A, n, c, ?_, hr⟩
    rw [← h.1]; simp
theorem RLL.len (h : RLL w av A n c bss) : bss.length = n := h.1
theorem RLL.cap (h : RLL w av A n c bss) : n ≤ c := h.2.1
theorem RLL.max (h : RLL w av A n c bss) : c ≤ maxLen := h.2.2.1
theorem RLL.nil : RLL w av none 0 0 [] := ⟨rfl, Nat.le_refl _, Nat.zero_le _, [], Rd.nil _, EachL.nil⟩
theorem RLL.keep (h : RLL w av A n c bss) (hk : Kept av w w') : RLL w' av A n c bss := by
  obtain ⟨h1, h2, h3, xs, h4, h5⟩ := h
  exact ⟨h1, h2, h3, xs, h4.keep hk, h5.keep hk⟩
theorem RLL.below (h : RLL w av A n c bss) (hk : Below w.heap.size w w') : RLL w' av A n c bss := h.keep (Kept.of_below hk av)
theorem RLL.drewN (h : RLL w av A n c bss) (m : Nat) : RLL (w.drewN m) av A n c bss := h.keep (Kept.drewN av w m)
theorem RLL.alloc (h : RLL w av A n c bss) (o : Obj) : RLL (w.alloc o) av A n c bss := h.keep (Kept.alloc av w o)
theorem RLL.free (h : RLL w av A n c bss) : RLL w no A n c bss := by
  obtain ⟨h1, h2, h3, xs, h4, h5⟩ := h
  exact ⟨h1, h2, h3, xs, h4.free, h5.free⟩
theorem RLL.sub (h : RLL w av A n c bss) {av' : Nat → Prop} (hs : ∀ g, g < w.heap.size → av' g → av g) : RLL w av' A n c bss := by
  obtain ⟨h1, h2, h3, xs, h4, h5⟩ := h
  exact ⟨h1, h2, h3, xs, h4.sub hs, h5.sub hs⟩
theorem RLL.at_ (h : RLL w av A n c bss) (hk : k < n) : ∃ g o B m d bs, A = some ⟨g, o, none⟩ ∧ bss[k]? = some bs ∧ w.cell? ⟨g, o + k, none⟩ = some (.slice B m d) ∧ RL w av B m d bs := by
  obtain ⟨h1, _, _, xs, h4, h5⟩ := h
  obtain ⟨g, o, u, e, hu, hc⟩ := h4.at_ hk
  have hl : k < bss.length := by omega
  obtain ⟨B, m, d, e2, hr⟩ := h5.2 k _ (List.getElem?_eq_getElem hl)
  rw [hu] at e2
  injection e2 with e2
  subst e2
  exact ⟨g, o, B, m, d, _, e, List.getElem?_eq_getElem hl, hc, hr⟩
theorem RLL.of_own {base : Nat} {e : TypeId} {v : Value} (h : w.ownsRow base e 1 v n xs) (he : EachL w no xs bss) : ∃ A c, v = .slice A n c ∧ RLL w no A n c bss := by
  obtain ⟨A, c, e1, h1, h2, h3⟩ := Rd.of_own h
  exact ⟨A, c, e1, by rw [← he.1]; exact h3.1, h1, h2, xs, h3, he⟩
end


/-- A slice of slices of bools comes back; nothing that was there has turned. -/
def RetLL (w : World) (bss : List (List Bool)) (e : Ending) (w' : World) : Prop := ∃ A c, e = .returned (.slice A bss.length c) ∧ RLL w' no A bss.length c bss ∧ Below w.heap.size w w'

/-- Slices of the call's own making, in a row of its own. -/
def MadeL (w : World) (bss : List (List Bool)) (v : Value) (wr : World) : Prop :=
  ∃ xs : List Value, wr.ownsRow w.heap.size 25 1 v bss.length xs ∧ EachL wr (rowOf v) xs bss ∧ Below w.heap.size w wr

theorem MadeL.start (w : World) : MadeL w [] (.slice (some ⟨w.heap.size, 0, none⟩) 0 0) (w.alloc (.cells #[] 25)) :=
  ⟨[], own_empty w w.heap.size _ (Nat.le_refl _), EachL.nil, (Below.refl _ _).alloc (Nat.le_refl _) _⟩
theorem MadeL.ret {w wr : World} {bss : List (List Bool)} {v : Value} (h : MadeL w bss v wr) : RetLL w bss (.returned v) wr := by
  obtain ⟨xs, h1, h2, h3⟩ := h
  obtain ⟨A, c, rfl, hr⟩ := RLL.of_own h1 h2.free
  exact ⟨A, c, rfl, hr, h3⟩
theorem MadeL.below {w wr w' : World} {bss : List (List Bool)} {v : Value} (h : MadeL w bss v wr) (hb : Below wr.heap.size wr w') : MadeL w bss v w' := by
  obtain ⟨xs, h1, h2, h3⟩ := h
  exact ⟨xs, own_below h1 hb, h2.keep (Kept.of_below hb _), h3.trans (hb.mono h3.size)⟩
/-- One more: 'append(out, x)', x laid in a cell first. -/
theorem MadeL.step {w w1 w' : World} {bss : List (List Bool)} {v v' : Value} {A : Option Addr} {n c : Nat} {bs : List Bool} {xs : List Value} (h1 : w1.ownsRow w.heap.size 25 1 v bss.length xs) (h2 : EachL w1 (rowOf v) xs bss) (h3 : Below w.heap.size w w1)
    (hr : RL w1 (rowOf v) A n c bs) (ho : w'.ownsRow w.heap.size 25 1 v' (bss.length + 1) (xs ++ [.slice A n c])) (hg : (w1.alloc (.cells #[.slice A n c] 25)).grownBy w' v.ownBlock)
    (hv : v'.ownBlock = v.ownBlock ∨ v'.ownBlock = some (w1.heap.size + 1)) : MadeL w (bss ++ [bs]) v' w' := by
  have hE : EachL w1 (rowOf v) (xs ++ [.slice A n c]) (bss ++ [bs]) := h2.snoc hr
  have hK : Kept (rowOf v) w1 w' := (Kept.alloc (rowOf v) w1 _).trans (Kept.of_grown (by simpa using hg))
  refine ⟨_, by simpa using ho, ?_, below_append (h3.alloc h3.size _) hg (h1.alloc _) (by simp; have := h3.size; omega)⟩
  have hE2 : EachL w1 (fun g => rowOf v g ∨ rowOf v' g) (xs ++ [.slice A n c]) (bss ++ [bs]) := hE.sub fun g hg h => by
    rcases h with h | h
    · exact h
    · unfold rowOf at h ⊢
      rcases hv with hv | hv
      · rw [← hv]; exact h
      · rw [hv] at h; injection h with h; omega
  exact (hE2.keep (hK.mono fun _ h => Or.inl h)).sub fun _ _ h => Or.inr h

end Go.Proofs.YtmfcgglgolajnaaDoor
