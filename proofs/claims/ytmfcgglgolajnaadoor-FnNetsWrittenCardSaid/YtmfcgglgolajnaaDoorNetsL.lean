/-
  Lines of a head, a slash and a number, cut again; three rows that grow apart.
-/
import Derived.Test.YtmfcgglgolajnaaDoorLinesL
import Derived.Test.YtmfcgglgolajnaaDoorChars
import Derived.Test.YtmfcgglgolajnaaDoorMB
import Derived.Test.YtmfcgglgolajnaaDoorInts
namespace Go.Proofs.YtmfcgglgolajnaaDoor
open Go.RowKit
set_option linter.unusedVariables false

/-! ### The number of some digits -/
def dval (l : List UInt8) : Nat := l.foldl (fun a c => a * 10 + (c.toNat - 48)) 0
theorem dval_snoc (l : List UInt8) (c : UInt8) : dval (l ++ [c]) = dval l * 10 + (c.toNat - 48) := by unfold dval; rw [List.foldl_append]; rfl
theorem dval_decL (n : Nat) : dval (decL n) = n := by
  induction n using Nat.strongRecOn with
  | ind n ih =>
    by_cases h : n < 10
    · rw [decL_small h]
      show 0 * 10 + ((UInt8.ofNat (48 + n)).toNat - 48) = n
      rw [dig_toNat h]; omega
    · rw [decL_big h, dval_snoc, ih (n / 10) (by omega), dig_toNat (Nat.mod_lt _ (by omega))]; omega
theorem dval_le (l : List UInt8) : ∀ r : List UInt8, dval l ≤ dval (l ++ r) := by
  intro r
  induction r generalizing l with
  | nil => simp
  | cons c r ih =>
    have := ih (l ++ [c])
    rw [List.append_assoc] at this
    rw [dval_snoc] at this
    simp only [List.cons_append, List.nil_append] at this
    omega
theorem dval_take (l : List UInt8) (k : Nat) : dval (l.take k) ≤ dval l := by
  have := dval_le (l.take k) (l.drop k)
  rwa [List.take_append_drop] at this

/-! ### The lines -/
/-- Each line is a head, a slash and a number. -/
def Heads (hs : List (List UInt8)) (ls : List Nat) (ts : List (List UInt8)) : Prop :=
  hs.length = ts.length ∧ ls.length = ts.length ∧ ∀ (j : Nat) (t : List UInt8), ts[j]? = some t → ∃ h l, hs[j]? = some h ∧ ls[j]? = some l ∧ t = h ++ 47 :: decL l ∧ (47 : UInt8) ∉ h ∧ (10 : UInt8) ∉ h ∧ l ≤ 128
/-- Ahead of the slash, or behind it. -/
def Part (ts : List (List UInt8)) (h : List UInt8) (l j i : Nat) (slash : Int) (value : Nat) : Prop :=
  (i ≤ fromL ts j + h.length ∧ slash < (fromL ts j : Int)) ∨ (fromL ts j + h.length < i ∧ slash = ((fromL ts j + h.length : Nat) : Int) ∧ value = dval ((decL l).take (i - fromL ts j - h.length - 1)))
def NS (hs : List (List UInt8)) (ls : List Nat) (ts : List (List UInt8)) (j i : Nat) (slash : Int) (value : Nat) : Prop :=
  LInv ts j i ∧ value ≤ 1000 ∧ slash < (i : Int) ∧ -1 ≤ slash ∧ ∀ h l, hs[j]? = some h → ls[j]? = some l → Part ts h l j i slash value
theorem NS.start (hs : List (List UInt8)) (ls : List Nat) (ts : List (List UInt8)) : NS hs ls ts 0 0 (-1) 0 :=
  ⟨LInv.start ts, by omega, by omega, by omega, fun h l _ _ => Or.inl ⟨Nat.zero_le _, by omega⟩⟩
theorem dig_at {n q : Nat} (h : q < (decL n).length) : ∃ c, (decL n)[q]? = some c ∧ 48 ≤ c.toNat ∧ c.toNat ≤ 57 := by
  refine ⟨_, List.getElem?_eq_getElem h, ?_⟩
  have := decL_digs n _ (List.getElem_mem h)
  unfold isDig at this
  simp at this
  exact this
theorem NS.next {hs : List (List UInt8)} {ls : List Nat} {ts : List (List UInt8)} {j i : Nat} {slash : Int} {value : Nat} (hH : Heads hs ls ts) (h : NS hs ls ts j i slash value) (hi : i < (linesL ts).length) :
    ∃ c, (linesL ts)[i]? = some c ∧
      ((c ≠ 47 ∧ c ≠ 10 ∧ slash < (fromL ts j : Int) ∧ NS hs ls ts j (i + 1) slash value) ∨
       (c = 47 ∧ NS hs ls ts j (i + 1) (i : Int) 0) ∨
       (c ≠ 47 ∧ c ≠ 10 ∧ (fromL ts j : Int) ≤ slash ∧ 48 ≤ c.toNat ∧ c.toNat ≤ 57 ∧ value * 10 + (c.toNat - 48) ≤ 128 ∧ NS hs ls ts j (i + 1) slash (value * 10 + (c.toNat - 48))) ∨
       (c = 10 ∧ (∃ sn : Nat, slash = (sn : Int) ∧ fromL ts j ≤ sn ∧ sn < i ∧ ∃ hd, hs[j]? = some hd ∧ ((linesL ts).take sn).drop (fromL ts j) = hd) ∧ ls[j]? = some value ∧ j < ts.length ∧ i + 1 = fromL ts (j + 1) ∧ NS hs ls ts (j + 1) (i + 1) slash value)) := by
  obtain ⟨hL, hv, hs1, hs2, hP⟩ := h
  obtain ⟨t, ht⟩ := hL.line hi
  obtain ⟨hd, l, hhj, hlj, e, h47, h10, hl⟩ := hH.2.2 j t ht
  have hp := hP hd l hhj hlj
  have htl : t.length = hd.length + 1 + (decL l).length := by rw [e, List.length_append, List.length_cons]; omega
  have hfi := hL.2.1
  have hPart : ∀ (s' : Int) (v' : Nat), Part ts hd l j (i + 1) s' v' → ∀ h' l', hs[j]? = some h' → ls[j]? = some l' → Part ts h' l' j (i + 1) s' v' := fun s' v' hp' h' l' q1 q2 => by
    rw [hhj] at q1; rw [hlj] at q2
    injection q1 with q1; injection q2 with q2
    subst q1 q2
    exact hp'
  by_cases hin : i < fromL ts j + t.length
  · obtain ⟨c, hc, hct, hL2⟩ := hL.inside ht hin
    have hcat : t[i - fromL ts j]? = some c := by
      obtain ⟨r, hr⟩ := linesL_at ht
      have hc' := hc
      rw [hr, List.getElem?_append_right (by unfold fromL at hfi; exact hfi), List.getElem?_append_left (by unfold fromL at hin hfi; omega)] at hc'
      exact hc'
    refine ⟨c, hc, ?_⟩
    by_cases h1 : i < fromL ts j + hd.length
    · have hch : c ∈ hd := by
        rw [e, List.getElem?_append_left (by omega)] at hcat
        exact List.mem_of_getElem? hcat
      have hs3 : slash < (fromL ts j : Int) := by rcases hp with hp | hp <;> omega
      exact Or.inl ⟨fun h => h47 (h ▸ hch), fun h => h10 (h ▸ hch), hs3, hL2, hv, by omega, hs2, hPart _ _ (Or.inl ⟨by omega, hs3⟩)⟩
    · by_cases h2 : i = fromL ts j + hd.length
      · have hc47 : c = 47 := by
          rw [e, show i - fromL ts j = hd.length by omega, List.getElem?_append_right (Nat.le_refl _), Nat.sub_self] at hcat
          injection hcat with hcat
          exact hcat.symm
        refine Or.inr (Or.inl ⟨hc47, hL2, by omega, by omega, by omega, hPart _ _ (Or.inr ⟨by omega, by rw [h2], ?_⟩)⟩)
        rw [show i + 1 - fromL ts j - hd.length - 1 = 0 by omega]; rfl
      · have hB : slash = ((fromL ts j + hd.length : Nat) : Int) ∧ value = dval ((decL l).take (i - fromL ts j - hd.length - 1)) := by rcases hp with hp | hp; omega; exact hp.2
        have hq : i - fromL ts j - hd.length - 1 < (decL l).length := by omega
        obtain ⟨c', hc', hd1, hd2⟩ := dig_at hq
        have hcc : c = c' := by
          rw [e, List.getElem?_append_right (by omega), show i - fromL ts j - hd.length = (i - fromL ts j - hd.length - 1) + 1 by omega, List.getElem?_cons_succ, hc'] at hcat
          injection hcat with hcat
          exact hcat.symm
        subst hcc
        have hnv : value * 10 + (c.toNat - 48) = dval ((decL l).take (i + 1 - fromL ts j - hd.length - 1)) := by
          rw [show i + 1 - fromL ts j - hd.length - 1 = (i - fromL ts j - hd.length - 1) + 1 by omega, take_snoc hc', dval_snoc, ← hB.2]
        have hnb : value * 10 + (c.toNat - 48) ≤ 128 := by
          rw [hnv]
          have := dval_take (decL l) (i + 1 - fromL ts j - hd.length - 1)
          rw [dval_decL] at this
          omega
        have hne : c ≠ 47 ∧ c ≠ 10 := ⟨fun h => by rw [h] at hd1; exact absurd hd1 (by decide), fun h => by rw [h] at hd1; exact absurd hd1 (by decide)⟩
        exact Or.inr (Or.inr (Or.inl ⟨hne.1, hne.2, by omega, hd1, hd2, hnb, hL2, by omega, by omega, hs2, hPart _ _ (Or.inr ⟨by omega, hB.1, hnv⟩)⟩))
  · obtain ⟨hc, hex, hnx, hL2⟩ := hL.atEnd ht hin
    have he : i = fromL ts j + t.length := by have := hL.2.2.1 t ht; omega
    have hB : slash = ((fromL ts j + hd.length : Nat) : Int) ∧ value = dval ((decL l).take (i - fromL ts j - hd.length - 1)) := by
      rcases hp with hp | hp
      · omega
      · exact hp.2
    have hval : value = l := by
      rw [hB.2, List.take_of_length_le (by omega), dval_decL]
    have hjl := (List.getElem?_eq_some_iff.1 ht).1
    refine ⟨10, hc, Or.inr (Or.inr (Or.inr ⟨rfl, ⟨fromL ts j + hd.length, hB.1, by omega, by omega, hd, hhj, ?_⟩, by rw [hval]; exact hlj, hjl, hnx, hL2, hv, by omega, hs2, fun h' l' _ _ => Or.inl ⟨by omega, by omega⟩⟩))⟩
    obtain ⟨r, hr⟩ := linesL_at ht
    rw [hr, e]
    unfold fromL
    rw [List.append_assoc, ← List.append_assoc, List.take_append_of_le_length (by rw [List.length_append]; omega)]
    rw [show (linesL (ts.take j)).length + hd.length = (linesL (ts.take j) ++ hd).length by rw [List.length_append], List.take_length, List.drop_left]

/-! ### Rows that grow apart -/
def Apart (a b : Value) : Prop := a.ownBlock = none ∨ a.ownBlock ≠ b.ownBlock
theorem Apart.symm {a b : Value} (h : Apart a b) : Apart b a := by
  rcases h with h | h
  · cases hb : b.ownBlock with
    | none => exact Or.inl hb
    | some g => right; rw [h, hb]; simp
  · exact Or.inr fun e => h e.symm
theorem own_far {wr w' : World} {B n : Nat} {e : TypeId} {a b : Value} {xs : List Value} {ob : Obj} (h : wr.ownsRow B e 1 b n xs) (hA : Apart b a) (hg : (wr.alloc ob).grownBy w' a.ownBlock) : w'.ownsRow B e 1 b n xs := (h.alloc ob).kept hg hA
theorem apart_far {wr : World} {B n : Nat} {e : TypeId} {a a' b : Value} {xs : List Value} (h : wr.ownsRow B e 1 b n xs) (hA : Apart b a) (hv : a'.ownBlock = a.ownBlock ∨ a'.ownBlock = some (wr.heap.size + 1)) : Apart b a' := by
  rcases hv with hv | hv
  · unfold Apart; rw [hv]; exact hA
  · cases hb : b.ownBlock with
    | none => exact Or.inl hb
    | some g =>
      right
      rw [hv, hb]
      have := (h.lt g hb).2
      simp; omega
theorem each_far {wr w' : World} {R R' : Nat → Prop} {a a' : Value} {xs : List Value} {l : List (List UInt8)} {ob : Obj} (h : Each wr R xs l) (hR : ∀ g, rowOf a g → R g) (hR' : ∀ g, R' g → R g ∨ rowOf a' g) (hg : (wr.alloc ob).grownBy w' a.ownBlock) (hv : a'.ownBlock = a.ownBlock ∨ a'.ownBlock = some (wr.heap.size + 1)) : Each w' R' xs l := by
  have hK : Kept (rowOf a) wr w' := (Kept.alloc (rowOf a) wr _).trans (Kept.of_grown hg)
  have hE : Each wr (fun g => R g ∨ rowOf a' g) xs l := h.sub fun g hg h => by
    rcases h with h | h
    · exact h
    · rcases hv with hv | hv
      · exact hR g (by unfold rowOf at h ⊢; rw [← hv]; exact h)
      · unfold rowOf at h; rw [hv] at h; injection h with h; omega
  exact (hE.keep (hK.mono fun g h => Or.inl (hR g h))).sub fun g _ h => hR' g h
def R3 (v u o : Value) (g : Nat) : Prop := rowOf v g ∨ rowOf u g ∨ rowOf o g
/-- Numbers, masks and ints of the call's own, in three rows apart. -/
def Tri (wd : World) (nums mks : List (List UInt8)) (os : List Int) (v u o : Value) (wr : World) : Prop :=
  ∃ xs ys, wr.ownsRow wd.heap.size 22 1 v nums.length xs ∧ wr.ownsRow wd.heap.size 22 1 u mks.length ys ∧ wr.ownsRow wd.heap.size 3 1 o os.length (os.map (Value.int .i64)) ∧
    Each wr (R3 v u o) xs nums ∧ Each wr (R3 v u o) ys mks ∧ Apart v u ∧ Apart v o ∧ Apart u o ∧ Below wd.heap.size wd wr
theorem Tri.start (wd : World) : Tri wd [] [] [] (.slice none 0 0) (.slice none 0 0) (.slice none 0 0) wd :=
  ⟨[], [], World.ownsRow_nil wd _ _ _, World.ownsRow_nil wd _ _ _, World.ownsRow_nil wd _ _ _, Each.nil, Each.nil, Or.inl rfl, Or.inl rfl, Or.inl rfl, Below.refl _ _⟩
theorem Tri.belowW {wd wr : World} {nums mks : List (List UInt8)} {os : List Int} {v u o : Value} (h : Tri wd nums mks os v u o wr) : Below wd.heap.size wd wr := by
  obtain ⟨_, _, _, _, _, _, _, _, _, _, h⟩ := h; exact h
theorem Tri.lt {wd wr : World} {nums mks : List (List UInt8)} {os : List Int} {v u o : Value} (h : Tri wd nums mks os v u o wr) : ∀ g, R3 v u o g → g < wr.heap.size := fun g hg => by
  obtain ⟨_, _, h1, h2, h3, _⟩ := h
  rcases hg with h | h | h
  · exact (h1.lt g h).2
  · exact (h2.lt g h).2
  · exact (h3.lt g h).2
theorem Tri.below {wd wr w' : World} {nums mks : List (List UInt8)} {os : List Int} {v u o : Value} (h : Tri wd nums mks os v u o wr) (hb : Below wr.heap.size wr w') : Tri wd nums mks os v u o w' := by
  obtain ⟨xs, ys, h1, h2, h3, h4, h5, h6, h7, h8, h9⟩ := h
  exact ⟨xs, ys, own_below h1 hb, own_below h2 hb, own_below h3 hb, h4.keep (Kept.of_below hb _), h5.keep (Kept.of_below hb _), h6, h7, h8, h9.trans (hb.mono h9.size)⟩
theorem Tri.num {wd wr : World} {nums mks : List (List UInt8)} {os : List Int} {v u o : Value} {A : Option Addr} {n c : Nat} {b : List UInt8} (h : Tri wd nums mks os v u o wr) (hr : RB wr (R3 v u o) A n c b) :
    ∃ xs, wr.ownsRow wd.heap.size 22 1 v nums.length xs ∧ ∀ v' w', w'.ownsRow wd.heap.size 22 1 v' (nums.length + 1) (xs ++ [.slice A n c]) → (wr.alloc (.cells #[.slice A n c] 22)).grownBy w' v.ownBlock → (v'.ownBlock = v.ownBlock ∨ v'.ownBlock = some (wr.heap.size + 1)) → Tri wd (nums ++ [b]) mks os v' u o w' := by
  obtain ⟨xs, ys, h1, h2, h3, h4, h5, h6, h7, h8, h9⟩ := h
  refine ⟨xs, h1, fun v' w' ho hg hv => ?_⟩
  have hsub : ∀ g, R3 v' u o g → R3 v u o g ∨ rowOf v' g := fun g h => by
    rcases h with h | h
    · exact Or.inr h
    · exact Or.inl (Or.inr h)
  exact ⟨_, ys, by simpa using ho, own_far h2 h6.symm hg, own_far h3 h7.symm hg, each_far (h4.snoc hr) (fun g h => Or.inl h) hsub hg hv, each_far h5 (fun g h => Or.inl h) hsub hg hv, (apart_far h2 h6.symm hv).symm, (apart_far h3 h7.symm hv).symm, h8, below_append (h9.alloc h9.size _) hg (h1.alloc _) (by simp; have := h9.size; omega)⟩
theorem Tri.mask {wd wr : World} {nums mks : List (List UInt8)} {os : List Int} {v u o : Value} {A : Option Addr} {n c : Nat} {b : List UInt8} (h : Tri wd nums mks os v u o wr) (hr : RB wr (R3 v u o) A n c b) :
    ∃ xs, wr.ownsRow wd.heap.size 22 1 u mks.length xs ∧ ∀ u' w', w'.ownsRow wd.heap.size 22 1 u' (mks.length + 1) (xs ++ [.slice A n c]) → (wr.alloc (.cells #[.slice A n c] 22)).grownBy w' u.ownBlock → (u'.ownBlock = u.ownBlock ∨ u'.ownBlock = some (wr.heap.size + 1)) → Tri wd nums (mks ++ [b]) os v u' o w' := by
  obtain ⟨xs, ys, h1, h2, h3, h4, h5, h6, h7, h8, h9⟩ := h
  refine ⟨ys, h2, fun v' w' ho hg hv => ?_⟩
  have hsub : ∀ g, R3 v v' o g → R3 v u o g ∨ rowOf v' g := fun g h => by
    rcases h with h | h | h
    · exact Or.inl (Or.inl h)
    · exact Or.inr h
    · exact Or.inl (Or.inr (Or.inr h))
  exact ⟨xs, _, own_far h1 h6 hg, by simpa using ho, own_far h3 h8.symm hg, each_far h4 (fun g h => Or.inr (Or.inl h)) hsub hg hv, each_far (h5.snoc hr) (fun g h => Or.inr (Or.inl h)) hsub hg hv, apart_far h1 h6 hv, h7, (apart_far h3 h8.symm hv).symm, below_append (h9.alloc h9.size _) hg (h2.alloc _) (by simp; have := h9.size; omega)⟩
theorem Tri.one {wd wr : World} {nums mks : List (List UInt8)} {os : List Int} {v u o : Value} {z : Int} (h : Tri wd nums mks os v u o wr) :
    wr.ownsRow wd.heap.size 3 1 o os.length (os.map (Value.int .i64)) ∧ ∀ o' w', w'.ownsRow wd.heap.size 3 1 o' (os.length + 1) (os.map (Value.int .i64) ++ [.int .i64 z]) → (wr.alloc (.cells #[.int .i64 z] 3)).grownBy w' o.ownBlock → (o'.ownBlock = o.ownBlock ∨ o'.ownBlock = some (wr.heap.size + 1)) → Tri wd nums mks (os ++ [z]) v u o' w' := by
  obtain ⟨xs, ys, h1, h2, h3, h4, h5, h6, h7, h8, h9⟩ := h
  refine ⟨h3, fun v' w' ho hg hv => ?_⟩
  have hsub : ∀ g, R3 v u v' g → R3 v u o g ∨ rowOf v' g := fun g h => by
    rcases h with h | h | h
    · exact Or.inl (Or.inl h)
    · exact Or.inl (Or.inr (Or.inl h))
    · exact Or.inr h
  exact ⟨xs, ys, own_far h1 h7 hg, own_far h2 h8 hg, by simpa using ho, each_far h4 (fun g h => Or.inr (Or.inr h)) hsub hg hv, each_far h5 (fun g h => Or.inr (Or.inr h)) hsub hg hv, h6, apart_far h1 h7 hv, apart_far h2 h8 hv, below_append (h9.alloc h9.size _) hg (h3.alloc _) (by simp; have := h9.size; omega)⟩
end Go.Proofs.YtmfcgglgolajnaaDoor
