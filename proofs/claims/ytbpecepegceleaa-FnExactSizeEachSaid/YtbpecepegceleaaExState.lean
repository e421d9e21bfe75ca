/-
  What FnExactSizeEach keeps from step to step.
-/
import Derived.Test.YtbpecepegceleaaExMark
import Derived.Test.YtbpecepegceleaaExMarkI
import Derived.Test.YtbpecepegceleaaExSpec
import Derived.Test.YtbpecepegceleaaExEq
namespace Go.Proofs.Ytbpecepegceleaa
open Go.RowKit
set_option linter.unusedVariables false

theorem own_keep {w w' : World} {av : Nat → Prop} {base : Nat} {e : TypeId} {v : Value} {n : Nat} {xs : List Value} (h : w.ownsRow base e 1 v n xs) (hk : Kept av w w') (hav : ∀ k, base ≤ k → ¬ av k) : w'.ownsRow base e 1 v n xs := by
  obtain ⟨h1, h2⟩ := h
  refine ⟨h1, ?_⟩
  rcases h2 with h2 | ⟨g, cap, cur, hv, hg, hh, r⟩
  · exact Or.inl h2
  · exact Or.inr ⟨g, cap, cur, hv, hg, (hk.2 g (block_lt hh) (hav g hg)).trans hh, r⟩

/-- Two rows of ints, apart. -/
def Rows2 (b : Nat) (v u : Value) (xs ys : List Int) (w : World) : Prop :=
  w.ownsRow b 3 1 v xs.length (xs.map (Value.int .i64)) ∧ w.ownsRow b 3 1 u ys.length (ys.map (Value.int .i64)) ∧ (u.ownBlock = none ∨ u.ownBlock ≠ v.ownBlock)

/-- What lies below u2 stays; the two rows lie at u3 or above. -/
structure St (u2 u3 : World) (v u : Value) (xs ys : List Int) (cur : World) : Prop where
  bel : Below u2.heap.size u2 cur
  rows : Rows2 u3.heap.size v u xs ys cur
  le23 : u2.heap.size ≤ u3.heap.size
  le : u3.heap.size ≤ cur.heap.size

section
variable {u2 u3 cur cur' : World} {v u : Value} {xs ys : List Int}
theorem St.drewN (h : St u2 u3 v u xs ys cur) (q : Nat) : St u2 u3 v u xs ys (cur.drewN q) := ⟨below_drewN h.bel q, h.rows, h.le23, h.le⟩
theorem St.below (h : St u2 u3 v u xs ys cur) (hb : Below cur.heap.size cur cur') : St u2 u3 v u xs ys cur' :=
  ⟨h.bel.trans (hb.mono (Nat.le_trans h.le23 h.le)), ⟨own_below h.rows.1 hb, own_below h.rows.2.1 hb, h.rows.2.2⟩, h.le23, Nat.le_trans h.le hb.size⟩
theorem St.marked (h : St u2 u3 v u xs ys cur) {S : Nat → Prop} (hm : Marked S cur cur') (hS : ∀ k, S k → u2.heap.size ≤ k ∧ k < u3.heap.size) : St u2 u3 v u xs ys cur' := by
  refine ⟨h.bel.trans ⟨hm.2.2.1, hm.2.2.2.1, hm.2.2.2.2, hm.1.1, fun k hk => hm.1.2 k (by have := h.le23; have := h.le; omega) (fun hs => by have := (hS k hs).1; omega)⟩, ⟨own_keep h.rows.1 hm.1 ?_, own_keep h.rows.2.1 hm.1 ?_, h.rows.2.2⟩, h.le23, Nat.le_trans h.le hm.1.1⟩
  · intro k hk hs; have := (hS k hs).2; omega
  · intro k hk hs; have := (hS k hs).2; omega
theorem St.ri1 {A : Option Addr} {n c : Nat} (h : St u2 u3 (.slice A n c) u xs ys cur) (hn : xs.length = n) : RI cur no A n c xs := by
  have h1 := h.rows.1
  rw [hn] at h1
  obtain ⟨A', c', e, hr⟩ := RI.of_own h1
  injection e with e1 e2 e3
  subst e1 e3
  exact hr
theorem St.ri2 {A : Option Addr} {n c : Nat} (h : St u2 u3 v (.slice A n c) xs ys cur) (hn : ys.length = n) : RI cur no A n c ys := by
  have h1 := h.rows.2.1
  rw [hn] at h1
  obtain ⟨A', c', e, hr⟩ := RI.of_own h1
  injection e with e1 e2 e3
  subst e1 e3
  exact hr
theorem apart_symm {v u : Value} (h : u.ownBlock = none ∨ u.ownBlock ≠ v.ownBlock) : v.ownBlock = none ∨ v.ownBlock ≠ u.ownBlock := by
  rcases h with h | h
  · cases hv : v.ownBlock with
    | none => exact Or.inl rfl
    | some g => right; rw [h]; simp
  · exact Or.inr (fun e => h e.symm)
theorem St.mark1 {n q : Nat} (h : St u2 u3 v u xs ys cur) (hn : xs.length = n) (hm : MarkI cur u3.heap.size v n q n cur') : St u2 u3 v u (marks q n) ys cur' := by
  obtain ⟨h1, h2⟩ := hm.full
  refine ⟨h.bel.grown h2 (Nat.le_trans h.le23 h.le) (fun k hk => by have := (h.rows.1.lt k hk).1; have := h.le23; omega), ⟨by rw [marks_length]; exact h1, h.rows.2.1.kept h2 h.rows.2.2, h.rows.2.2⟩, h.le23, Nat.le_trans h.le h2.size⟩
theorem St.mark2 {n q : Nat} (h : St u2 u3 v u xs ys cur) (hn : ys.length = n) (hm : MarkI cur u3.heap.size u n q n cur') : St u2 u3 v u xs (marks q n) cur' := by
  obtain ⟨h1, h2⟩ := hm.full
  refine ⟨h.bel.grown h2 (Nat.le_trans h.le23 h.le) (fun k hk => by have := (h.rows.2.1.lt k hk).1; have := h.le23; omega), ⟨h.rows.1.kept h2 (apart_symm h.rows.2.2), by rw [marks_length]; exact h1, h.rows.2.2⟩, h.le23, Nat.le_trans h.le h2.size⟩
end

/-- The copy reads as the list. -/
theorem TSS.rbb {w wr : World} {bss : List (List UInt8)} {gs : List Nat} {N : Nat} (h : TSS w bss gs wr) (hg : gs.length = N) (hb : bss.length = N) (hN : N ≤ 1048576) (hall : ∀ b ∈ bss, b.length ≤ 1048576) : RBB wr no (some ⟨w.heap.size, 0, none⟩) N N bss := by
  have hl : (rowOfGs gs bss bss.length).length = N := by
    unfold rowOfGs
    rw [List.length_append, List.length_zipWith, List.length_replicate, hb, hg]; omega
  refine ⟨hb, Nat.le_refl _, by unfold maxLen; omega, rowOfGs gs bss bss.length, ?_, by rw [hl, hb], ?_⟩
  · have := h.row.rd (av := no) (fun h => h)
    rw [hl] at this
    exact this
  · intro j b hj
    have hjl := (List.getElem?_eq_some_iff.1 hj).1
    have hgj := List.getElem?_eq_getElem (show j < gs.length by omega)
    refine ⟨_, _, _, row_at hgj hj, ?_⟩
    have := h.blk j _ b hgj hj
    unfold byv at this
    exact this.rb (fun h => h) rfl (Nat.le_refl _) (by have := hall b (List.mem_of_getElem? hj); unfold maxLen; omega)
theorem TSS.wr {w wr : World} {bss : List (List UInt8)} {gs : List Nat} (h : TSS w bss gs wr) : ∀ (k g : Nat) (b : List UInt8), gs[k]? = some g → bss[k]? = some b → Wr8 wr g b.length :=
  fun k g b hg hb => ⟨_, h.blk k g b hg hb, by unfold byv; simp⟩
theorem Wr8.below {w w' : World} {g n : Nat} (h : Wr8 w g n) (hb : Below w.heap.size w w') : Wr8 w' g n := by
  obtain ⟨xs, h1, h2⟩ := h
  exact ⟨xs, h1.below hb, h2⟩
theorem TSS.inside {w wr : World} {bss : List (List UInt8)} {gs : List Nat} (h : TSS w bss gs wr) : ∀ k, k ∈ gs → w.heap.size ≤ k ∧ k < wr.heap.size := by
  intro k hk
  refine ⟨by have := h.base k hk; omega, ?_⟩
  obtain ⟨j, hj⟩ := List.getElem?_of_mem hk
  have hjl := (List.getElem?_eq_some_iff.1 hj).1
  have hl := h.len
  exact (h.blk j k _ hj (List.getElem?_eq_getElem (by omega))).lt
theorem TSS.notin {w wr : World} {bss : List (List UInt8)} {gs : List Nat} (h : TSS w bss gs wr) : ¬ w.heap.size ∈ gs := fun hk => by have := h.base _ hk; omega
end Go.Proofs.Ytbpecepegceleaa
