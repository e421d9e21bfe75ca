/-
  Numbers and ones: a row of slices of bytes and a row of ints, both of the call's own, that grow side by side; other blocks ('av') may be written meanwhile.
-/
import Derived.Test.YtknajppjgdhbfaaMade
import Derived.Test.YtknajppjgdhbfaaInts
import Derived.Test.YtknajppjgdhbfaaFilled
namespace Go.Proofs.Ytknajppjgdhbfaa
open Go.RowKit
set_option linter.unusedVariables false

/-- Rows of other types lie in other blocks. -/
theorem own_apart {w : World} {b1 b2 : Nat} {e1 e2 : TypeId} {v u : Value} {n m : Nat} {xs ys : List Value} (h1 : w.ownsRow b1 e1 1 v n xs) (h2 : w.ownsRow b2 e2 1 u m ys) (he : e1 ≠ e2) : v.ownBlock = none ∨ v.ownBlock ≠ u.ownBlock := by
  rcases h1.2 with ⟨rfl, _⟩ | ⟨g, cap, cur, rfl, _, hg, _⟩
  · exact Or.inl rfl
  · right
    rcases h2.2 with ⟨rfl, _⟩ | ⟨g', cap', cur', rfl, _, hg', _⟩
    · simp [Value.ownBlock]
    · simp only [Value.ownBlock]
      intro e
      injection e with e
      subst e
      rw [hg] at hg'
      injection hg' with hg'
      injection hg' with _ hg' _
      exact he hg'

theorem own_rb {wr : World} {b : Nat} {A : Option Addr} {n c : Nat} {bs : List UInt8} (h : wr.ownsRow b 5 1 (.slice A n c) n (byL bs)) : RB wr no A n c bs := by
  obtain ⟨A', c', e, hr⟩ := RB.of_own h
  injection e with e1 _ e3
  subst e1 e3
  exact hr
theorem own_rb_av {wr : World} {b : Nat} {A : Option Addr} {n c : Nat} {bs : List UInt8} {av : Nat → Prop} (h : wr.ownsRow b 5 1 (.slice A n c) n (byL bs)) (hav : ∀ g, av g → (Value.slice A n c).ownBlock ≠ some g) : RB wr av A n c bs := by
  obtain ⟨h1, h2, h3, h4, h5⟩ := own_rb h
  refine ⟨h1, h2, h3, h4, fun hn => ?_⟩
  obtain ⟨g, o, e, hg, _, hc⟩ := h5 hn
  refine ⟨g, o, e, hg, fun hh => hav g hh (by rw [e]; rfl), hc⟩
theorem apart_row {w : World} {b1 b2 : Nat} {e1 e2 : TypeId} {v u : Value} {n m : Nat} {xs ys : List Value} (h1 : w.ownsRow b1 e1 1 v n xs) (h2 : w.ownsRow b2 e2 1 u m ys) (he : e1 ≠ e2) {g : Nat} (hg : rowOf u g) : v.ownBlock ≠ some g := by
  intro e
  rcases own_apart h1 h2 he with h | h
  · rw [h] at e; cases e
  · unfold rowOf at hg; exact h (by rw [e, hg])

structure Nums (w : World) (al : List (List UInt8)) (os : List Int) (vN vO : Value) (av : Nat → Prop) (wr : World) : Prop where
  row : ∃ xs, wr.ownsRow w.heap.size 22 1 vN al.length xs ∧ Each wr (fun g => av g ∨ rowOf vN g ∨ rowOf vO g) xs al
  ones : wr.ownsRow w.heap.size 3 1 vO os.length (os.map (Value.int .i64))
  bel : Below w.heap.size w wr

section
variable {w wr w' : World} {al : List (List UInt8)} {os : List Int} {vN vO : Value} {av : Nat → Prop}
theorem Nums.start (w wr : World) (hb : Below w.heap.size w wr) (av : Nat → Prop) : Nums w [] [] (.slice none 0 0) (.slice none 0 0) av wr :=
  ⟨⟨[], World.ownsRow_nil _ _ _ _, Each.nil⟩, World.ownsRow_nil _ _ _ _, hb⟩
theorem Nums.below (h : Nums w al os vN vO av wr) (hb : Below wr.heap.size wr w') : Nums w al os vN vO av w' := by
  obtain ⟨⟨xs, h1, h2⟩, h3, h4⟩ := h
  exact ⟨⟨xs, own_below h1 hb, h2.keep (Kept.of_below hb _)⟩, own_below h3 hb, h4.trans (hb.mono h4.size)⟩
theorem Nums.drewN (h : Nums w al os vN vO av wr) (q : Nat) : Nums w al os vN vO av (wr.drewN q) := h.below (below_drewN (Below.refl _ _) q)
/-- Other blocks are written from now on: new ones. -/
theorem Nums.turn (h : Nums w al os vN vO av wr) (av' : Nat → Prop) (hav : ∀ g, av' g → wr.heap.size ≤ g) : Nums w al os vN vO av' wr := by
  obtain ⟨⟨xs, h1, h2⟩, h3, h4⟩ := h
  refine ⟨⟨xs, h1, h2.sub fun g hg h => ?_⟩, h3, h4⟩
  rcases h with h | h
  · have := hav g h; omega
  · exact Or.inr h
theorem Nums.addN {A : Option Addr} {n c : Nat} {bs : List UInt8} {v' : Value} {xs : List Value} (h1 : wr.ownsRow w.heap.size 22 1 vN al.length xs) (h2 : Each wr (fun g => av g ∨ rowOf vN g ∨ rowOf vO g) xs al) (h3 : wr.ownsRow w.heap.size 3 1 vO os.length (os.map (Value.int .i64))) (h4 : Below w.heap.size w wr)
    (hr : RB wr (fun g => av g ∨ rowOf vN g ∨ rowOf vO g) A n c bs) (ho : w'.ownsRow w.heap.size 22 1 v' (al.length + 1) (xs ++ [.slice A n c])) (hg : (wr.alloc (.cells #[.slice A n c] 22)).grownBy w' vN.ownBlock)
    (hv : v'.ownBlock = vN.ownBlock ∨ v'.ownBlock = some (wr.heap.size + 1)) : Nums w (al ++ [bs]) os v' vO av w' := by
  have hE : Each wr (fun g => av g ∨ rowOf vN g ∨ rowOf vO g) (xs ++ [.slice A n c]) (al ++ [bs]) := h2.snoc hr
  have hK : Kept (rowOf vN) wr w' := (Kept.alloc (rowOf vN) wr _).trans (Kept.of_grown hg)
  refine ⟨⟨_, by simpa using ho, ?_⟩, ?_, below_append (h4.alloc h4.size _) hg (h1.alloc _) (by simp; have := h4.size; omega)⟩
  · have hE2 : Each wr (fun g => (av g ∨ rowOf vN g ∨ rowOf vO g) ∨ rowOf v' g) (xs ++ [.slice A n c]) (al ++ [bs]) := hE.sub fun g hg h => by
      rcases h with h | h
      · exact h
      · unfold rowOf at h ⊢
        rcases hv with hv | hv
        · rw [← hv]; exact Or.inr (Or.inl h)
        · rw [hv] at h; injection h with h; omega
    exact (hE2.keep (hK.mono fun _ h => Or.inl (Or.inr (Or.inl h)))).sub fun _ _ h => by
      rcases h with h | h | h
      · exact Or.inl (Or.inl h)
      · exact Or.inr h
      · exact Or.inl (Or.inr (Or.inr h))
  · exact (h3.alloc _).kept hg (own_apart (h3.alloc (.cells #[.slice A n c] 22)) (h1.alloc (.cells #[.slice A n c] 22)) (by decide))
theorem Nums.addO {z : Int} {v' : Value} (h : Nums w al os vN vO av wr) (ho : w'.ownsRow w.heap.size 3 1 v' (os.length + 1) (os.map (Value.int .i64) ++ [.int .i64 z])) (hg : (wr.alloc (.cells #[.int .i64 z] 3)).grownBy w' vO.ownBlock)
    (hv : v'.ownBlock = vO.ownBlock ∨ v'.ownBlock = some (wr.heap.size + 1)) : Nums w al (os ++ [z]) vN v' av w' := by
  obtain ⟨⟨xs, h1, h2⟩, h3, h4⟩ := h
  have hK : Kept (rowOf vO) wr w' := (Kept.alloc (rowOf vO) wr _).trans (Kept.of_grown hg)
  refine ⟨⟨xs, ?_, ?_⟩, by simpa using ho, below_append (h4.alloc h4.size _) hg (h3.alloc _) (by simp; have := h4.size; omega)⟩
  · exact (h1.alloc _).kept hg (own_apart (h1.alloc (.cells #[.int .i64 z] 3)) (h3.alloc (.cells #[.int .i64 z] 3)) (by decide))
  · have hE2 : Each wr (fun g => (av g ∨ rowOf vN g ∨ rowOf vO g) ∨ rowOf v' g) xs al := h2.sub fun g hg h => by
      rcases h with h | h
      · exact h
      · unfold rowOf at h ⊢
        rcases hv with hv | hv
        · rw [← hv]; exact Or.inr (Or.inr h)
        · rw [hv] at h; injection h with h; omega
    exact (hE2.keep (hK.mono fun _ h => Or.inl (Or.inr (Or.inr h)))).sub fun _ _ h => by
      rcases h with h | h | h
      · exact Or.inl (Or.inl h)
      · exact Or.inl (Or.inr (Or.inl h))
      · exact Or.inr h
/-- A row of bytes beside them is written. -/
theorem Nums.store {u : Value} {n : Nat} {ys : List Value} {b g : Nat} (h : Nums w al os vN vO (rowOf u) wr) (hu : wr.ownsRow b 5 1 u n ys) (hg : u.ownBlock = some g) (hb : w.heap.size ≤ g) (i : Nat) (x : Value) : Nums w al os vN vO (rowOf u) (wr.setCell ⟨g, i, none⟩ x) := by
  obtain ⟨⟨xs, h1, h2⟩, h3, h4⟩ := h
  have a1 := own_apart h1 hu (by decide)
  have a2 := own_apart h3 hu (by decide)
  rw [hg] at a1 a2
  have hgb : wr.grownBy (wr.setCell ⟨g, i, none⟩ x) (some g) := ⟨rfl, rfl, rfl, by simp [World.setCell], fun k _ hk => Below.heap_setCell wr _ x k (fun e => hk (by simp [e]))⟩
  refine ⟨⟨xs, h1.kept hgb a1, h2.keep ((Kept.setCell (w := wr)).mono fun k hk => ?_)⟩, h3.kept hgb a2, h4.setCell hb _⟩
  unfold just at hk
  subst hk
  exact Or.inl hg
/-- One of the ones is written. -/
theorem Nums.storeO {g n c : Nat} (h : Nums w al os vN (.slice (some ⟨g, 0, none⟩) n c) av wr) (hn : os.length = n) (k : Nat) (z : Int) : Nums w al (os.set k z) vN (.slice (some ⟨g, 0, none⟩) n c) av (wr.setCell ⟨g, k, none⟩ (.int .i64 z)) := by
  obtain ⟨⟨xs, h1, h2⟩, h3, h4⟩ := h
  have a1 := own_apart h1 h3 (by decide)
  have hb := (h3.lt g rfl).1
  rw [hn] at h3
  obtain ⟨s1, s2⟩ := h3.stored k (.int .i64 z)
  rw [← List.map_set] at s1
  refine ⟨⟨xs, h1.kept s2 a1, h2.keep ((Kept.setCell (w := wr)).mono fun j hj => ?_)⟩, by rw [List.length_set, hn]; exact s1, h4.setCell hb _⟩
  unfold just at hj
  subst hj
  exact Or.inr (Or.inr rfl)
/-- Nothing else is written any more. -/
theorem Nums.calm (h : Nums w al os vN vO av wr) : Nums w al os vN vO no wr := by
  obtain ⟨⟨xs, h1, h2⟩, h3, h4⟩ := h
  exact ⟨⟨xs, h1, h2.sub fun g _ h => h.elim (fun h => h.elim) Or.inr⟩, h3, h4⟩
theorem Nums.rbb {A : Option Addr} {n c : Nat} (h : Nums w al os (.slice A n c) vO av wr) (hn : al.length = n) : RBB wr no A n c al := by
  obtain ⟨⟨xs, h1, h2⟩, h3, h4⟩ := h
  rw [hn] at h1
  obtain ⟨A', c', e, hr⟩ := RBB.of_own h1 h2.free
  injection e with e1 _ e3
  subst e1 e3
  exact hr
theorem Nums.ri {A : Option Addr} {n c : Nat} (h : Nums w al os vN (.slice A n c) av wr) (hn : os.length = n) : RI wr no A n c os := by
  obtain ⟨⟨xs, h1, h2⟩, h3, h4⟩ := h
  rw [hn] at h3
  obtain ⟨A', c', e, hr⟩ := RI.of_own h3
  injection e with e1 _ e3
  subst e1 e3
  exact hr
theorem Nums.form {n : Nat} (h : Nums w al os vN vO av wr) (hn : al.length = n) (hm : os.length = n) : ∃ A c B d, vN = .slice A n c ∧ vO = .slice B n d := by
  obtain ⟨⟨xs, h1, h2⟩, h3, h4⟩ := h
  rw [hn] at h1
  rw [hm] at h3
  obtain ⟨A, c, e, _⟩ := Rd.of_own h1
  obtain ⟨B, d, e', _⟩ := Rd.of_own h3
  exact ⟨A, c, B, d, e, e'⟩
end
end Go.Proofs.Ytknajppjgdhbfaa
