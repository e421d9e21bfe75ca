/-
  Words for memory: a slice that reads as a list, kept from world to world. No program is named here.
-/
import Derived.WalkKit
import Derived.ProofKit
import Derived.Below
import Derived.Laws.OwnMore
import Derived.Deep.AppendLies
import Derived.Deep.Draws
import Derived.Maps.AppendAt
import Derived.RegionTactic
import Derived.OwnWalk
import Derived.Deep.Matrix
namespace Go.Proofs.YtmfcgglgolajnaaDoor
open Go.RowKit

theorem hide {p : Prop} (h : p) : Hid p := h

/-- No block. -/
def no : Nat → Prop := fun _ => False
/-- The block of a row of the call's own. -/
def rowOf (v : Value) : Nat → Prop := fun g => v.ownBlock = some g
/-- One block. -/
def just (b : Nat) : Nat → Prop := fun g => g = b

/-- The slice at A, of n elements of one cell, holds xs; it lies in no block of 'av'. -/
def Rd (w : World) (av : Nat → Prop) (A : Option Addr) (n : Nat) (xs : List Value) : Prop :=
  xs.length = n ∧ (0 < n → ∃ g o, A = some ⟨g, o, none⟩ ∧ g < w.heap.size ∧ ¬ av g ∧ ∀ j u, xs[j]? = some u → w.cell? ⟨g, o + j, none⟩ = some u)

/-- What stays where a world goes on: every block that is there, but those of 'av'. -/
def Kept (av : Nat → Prop) (w w' : World) : Prop := w.heap.size ≤ w'.heap.size ∧ ∀ k, k < w.heap.size → ¬ av k → w'.heap[k]? = w.heap[k]?

theorem Kept.of_below {w w' : World} (h : Below w.heap.size w w') (av : Nat → Prop) : Kept av w w' := ⟨h.size, fun k hk _ => h.block k hk⟩
theorem Kept.mono {av av' : Nat → Prop} {w w' : World} (h : Kept av w w') (hs : ∀ g, av g → av' g) : Kept av' w w' := ⟨h.1, fun k hk hn => h.2 k hk (fun e => hn (hs k e))⟩
theorem Kept.of_grown {w w' : World} {v : Value} (h : w.grownBy w' v.ownBlock) : Kept (rowOf v) w w' := ⟨h.size, fun k hk hn => h.block k hk (fun e => hn e.symm)⟩
theorem Kept.trans {av : Nat → Prop} {a b c : World} (h : Kept av a b) (k : Kept av b c) : Kept av a c :=
  ⟨Nat.le_trans h.1 k.1, fun i hi hn => (k.2 i (Nat.lt_of_lt_of_le hi h.1) hn).trans (h.2 i hi hn)⟩
theorem Kept.refl (av : Nat → Prop) (w : World) : Kept av w w := ⟨Nat.le_refl _, fun _ _ _ => rfl⟩
theorem Kept.drewN (av : Nat → Prop) (w : World) (n : Nat) : Kept av w (w.drewN n) := ⟨Nat.le_refl _, fun _ _ _ => rfl⟩
theorem Kept.alloc (av : Nat → Prop) (w : World) (o : Obj) : Kept av w (w.alloc o) := ⟨by simp, fun k hk _ => Below.heap_alloc w o k hk⟩
theorem Kept.setCell {w : World} {g : Nat} {i : Nat} {u : Value} : Kept (just g) w (w.setCell ⟨g, i, none⟩ u) :=
  ⟨by simp [World.setCell], fun k _ hn => Below.heap_setCell w _ u k (fun e => hn e)⟩

section
variable {w w' : World} {av : Nat → Prop} {A : Option Addr} {n c k : Nat} {xs : List Value}

theorem Rd.nil (A : Option Addr) : Rd w av A 0 [] := ⟨rfl, fun h => absurd h (by omega)⟩
theorem Rd.keep (h : Rd w av A n xs) (hk : Kept av w w') : Rd w' av A n xs :=
  ⟨h.1, fun hn => by
    obtain ⟨g, o, e, hg, ha, hc⟩ := h.2 hn
    exact ⟨g, o, e, Nat.lt_of_lt_of_le hg hk.1, ha, fun j u hu => (World.cell?_of_block (w := w) (hk.2 g hg ha)).trans (hc j u hu)⟩⟩
theorem Rd.free (h : Rd w av A n xs) : Rd w no A n xs :=
  ⟨h.1, fun hn => by obtain ⟨g, o, e, hg, _, hc⟩ := h.2 hn; exact ⟨g, o, e, hg, fun h => h, hc⟩⟩
theorem Rd.sub (h : Rd w av A n xs) {av' : Nat → Prop} (hs : ∀ g, g < w.heap.size → av' g → av g) : Rd w av' A n xs :=
  ⟨h.1, fun hn => by obtain ⟨g, o, e, hg, ha, hc⟩ := h.2 hn; exact ⟨g, o, e, hg, fun h => ha (hs g hg h), hc⟩⟩
theorem Rd.fresh (h : Rd w av A n xs) {b : Nat} (hb : w.heap.size ≤ b) : Rd w (just b) A n xs :=
  h.sub fun g hg e => by unfold just at e; omega
theorem Rd.at_ (h : Rd w av A n xs) (hk : k < n) : ∃ g o u, A = some ⟨g, o, none⟩ ∧ xs[k]? = some u ∧ w.cell? ⟨g, o + k, none⟩ = some u := by
  obtain ⟨g, o, e, _, _, hc⟩ := h.2 (by omega)
  have hl : k < xs.length := by have := h.1; omega
  exact ⟨g, o, xs[k], e, List.getElem?_eq_getElem hl, hc k _ (List.getElem?_eq_getElem hl)⟩
/-- A part of it, from k on. -/
theorem Rd.drop (h : Rd w av A n xs) {g o : Nat} (hA : A = some ⟨g, o, none⟩) (hk : k ≤ n) : Rd w av (some ⟨g, o + k, none⟩) (n - k) (xs.drop k) := by
  refine ⟨by rw [List.length_drop, h.1], fun hn => ?_⟩
  obtain ⟨g', o', e, hg, ha, hc⟩ := h.2 (by omega)
  rw [hA] at e
  injection e with e
  injection e with e1 e2
  subst e1 e2
  refine ⟨g, o + k, rfl, hg, ha, fun j u hu => ?_⟩
  rw [Nat.add_assoc]
  exact hc _ u (by rw [← hu, List.getElem?_drop])
theorem Rd.take (h : Rd w av A n xs) {m : Nat} (hm : m ≤ n) : Rd w av A m (xs.take m) := by
  refine ⟨by rw [List.length_take, h.1]; omega, fun hn => ?_⟩
  obtain ⟨g, o, e, hg, ha, hc⟩ := h.2 (by omega)
  refine ⟨g, o, e, hg, ha, fun j u hu => hc j u ?_⟩
  rw [List.getElem?_take] at hu
  split at hu
  · exact hu
  · cases hu
theorem Rd.of_own {base : Nat} {e : TypeId} {v : Value} (h : w.ownsRow base e 1 v n xs) : ∃ A c, v = .slice A n c ∧ n ≤ c ∧ c ≤ maxLen ∧ Rd w no A n xs := by
  have hl : xs.length = n := by have := h.1; omega
  rcases h.2 with ⟨rfl, rfl⟩ | ⟨g, cap, cur, rfl, _, hh, hnc, hcm, _, hx⟩
  · exact ⟨none, 0, rfl, Nat.le_refl _, Nat.zero_le _, hl, fun hn => absurd hn (by omega)⟩
  · refine ⟨_, cap, rfl, hnc, hcm, hl, fun _ => ⟨g, 0, rfl, ?_, fun h => h, fun j u hu => ?_⟩⟩
    · rcases Nat.lt_or_ge g w.heap.size with hlt | hge
      · exact hlt
      · rw [Array.getElem?_eq_none hge] at hh; cases hh
    · have := h.cells (g := g) rfl j u hu
      simpa [Addr.add] using (show w.cell? ⟨g, 0 + j, none⟩ = some u by
        have e : ((⟨g, 0, none⟩ : Addr).add j) = ⟨g, 0 + j, none⟩ := by
          unfold Addr.add; split
          · rename_i h0; subst h0; rfl
          · rfl
        rwa [e] at this)
end

/-! ### A slice of bytes -/
/-- The slice (A, n, c) reads as the bytes bs. -/
def RB (w : World) (av : Nat → Prop) (A : Option Addr) (n c : Nat) (bs : List UInt8) : Prop :=
  bs.length = n ∧ n ≤ c ∧ c ≤ maxLen ∧ Rd w av A n (bs.map fun b => .int .u8 (b.toNat : Int))

section
variable {w w' : World} {av : Nat → Prop} {A : Option Addr} {n c k : Nat} {bs : List UInt8}
theorem RB.len (h : RB w av A n c bs) : bs.length = n := h.1
theorem RB.cap (h : RB w av A n c bs) : n ≤ c := h.2.1
theorem RB.max (h : RB w av A n c bs) : c ≤ maxLen := h.2.2.1
theorem RB.keep (h : RB w av A n c bs) (hk : Kept av w w') : RB w' av A n c bs := ⟨h.1, h.2.1, h.2.2.1, h.2.2.2.keep hk⟩
theorem RB.below (h : RB w av A n c bs) (hk : Below w.heap.size w w') : RB w' av A n c bs := h.keep (Kept.of_below hk av)
theorem RB.drewN (h : RB w av A n c bs) (m : Nat) : RB (w.drewN m) av A n c bs := h.keep (Kept.drewN av w m)
theorem RB.alloc (h : RB w av A n c bs) (o : Obj) : RB (w.alloc o) av A n c bs := h.keep (Kept.alloc av w o)
theorem RB.free (h : RB w av A n c bs) : RB w no A n c bs := ⟨h.1, h.2.1, h.2.2.1, h.2.2.2.free⟩
theorem RB.fresh (h : RB w av A n c bs) {b : Nat} (hb : w.heap.size ≤ b) : RB w (just b) A n c bs := ⟨h.1, h.2.1, h.2.2.1, h.2.2.2.fresh hb⟩
theorem RB.sub (h : RB w av A n c bs) {av' : Nat → Prop} (hs : ∀ g, g < w.heap.size → av' g → av g) : RB w av' A n c bs := ⟨h.1, h.2.1, h.2.2.1, h.2.2.2.sub hs⟩
theorem RB.nil : RB w av none 0 0 [] := ⟨rfl, Nat.le_refl _, Nat.zero_le _, Rd.nil _⟩
theorem RB.at_ (h : RB w av A n c bs) (hk : k < n) : ∃ g o x, A = some ⟨g, o, none⟩ ∧ bs[k]? = some x ∧ w.cell? ⟨g, o + k, none⟩ = some (.int .u8 (x.toNat : Int)) := by
  obtain ⟨g, o, u, e, hu, hc⟩ := h.2.2.2.at_ hk
  rw [List.getElem?_map] at hu
  cases hx : bs[k]? with
  | none => rw [hx] at hu; cases hu
  | some x => rw [hx] at hu; injection hu with hu; subst hu; exact ⟨g, o, x, e, rfl, hc⟩
theorem RB.drop (h : RB w av A n c bs) {g o : Nat} (hA : A = some ⟨g, o, none⟩) (hk : k ≤ n) : RB w av (some ⟨g, o + k, none⟩) (n - k) (c - k) (bs.drop k) :=
  ⟨by rw [List.length_drop, h.1], by have := h.cap; omega, by have := h.max; omega, by rw [List.map_drop]; exact h.2.2.2.drop hA hk⟩
theorem RB.take (h : RB w av A n c bs) {m : Nat} (hm : m ≤ n) : RB w av A m c (bs.take m) :=
  ⟨by rw [List.length_take, h.1]; omega, by have := h.cap; omega, h.max, by rw [List.map_take]; exact h.2.2.2.take hm⟩
theorem RB.of_own {base : Nat} {e : TypeId} {v : Value} (h : w.ownsRow base e 1 v n (bs.map fun b => .int .u8 (b.toNat : Int))) : ∃ A c, v = .slice A n c ∧ RB w no A n c bs := by
  obtain ⟨A, c, e1, h1, h2, h3⟩ := Rd.of_own h
  exact ⟨A, c, e1, by have := h3.1; simpa using this, h1, h2, h3⟩
end

/-- A row of the call's own, made behind the block 'av'. -/
theorem RB.of_own_av {w : World} {av : Nat → Prop} {n : Nat} {bs : List UInt8} {base : Nat} {e : TypeId} {v : Value} (h : w.ownsRow base e 1 v n (bs.map fun b => .int .u8 (b.toNat : Int))) (hav : ∀ g, av g → g < base) : ∃ A c, v = .slice A n c ∧ RB w av A n c bs := by
  obtain ⟨A, c, e1, h1, h2, h3⟩ := Rd.of_own h
  refine ⟨A, c, e1, by have := h3.1; simpa using this, h1, h2, h3.1, fun hn => ?_⟩
  obtain ⟨g, o, e2, hg, _, hc⟩ := h3.2 hn
  refine ⟨g, o, e2, hg, fun hh => ?_, hc⟩
  have := (h.lt g (by rw [e1, e2]; rfl)).1
  have := hav g hh
  omega

/-! ### A slice of slices of bytes -/
/-- The values xs are slices that read as bss. -/
def Each (w : World) (av : Nat → Prop) (xs : List Value) (bss : List (List UInt8)) : Prop :=
  xs.length = bss.length ∧ ∀ (j : Nat) (bs : List UInt8), bss[j]? = some bs → ∃ A n c, xs[j]? = some (Value.slice A n c) ∧ RB w av A n c bs

def RBB (w : World) (av : Nat → Prop) (A : Option Addr) (n c : Nat) (bss : List (List UInt8)) : Prop :=
  bss.length = n ∧ n ≤ c ∧ c ≤ maxLen ∧ ∃ xs, Rd w av A n xs ∧ Each w av xs bss

section
variable {w w' : World} {av : Nat → Prop} {A : Option Addr} {n c k : Nat} {bss : List (List UInt8)} {xs : List Value}
theorem Each.nil : Each w av [] [] := ⟨rfl, fun j bs h => by simp at h⟩
theorem Each.keep (h : Each w av xs bss) (hk : Kept av w w') : Each w' av xs bss :=
  ⟨h.1, fun j bs hj => by obtain ⟨A, n, c, e, hr⟩ := h.2 j bs hj; exact ⟨A, n, c, e, hr.keep hk⟩⟩
theorem Each.free (h : Each w av xs bss) : Each w no xs bss :=
  ⟨h.1, fun j bs hj => by obtain ⟨A, n, c, e, hr⟩ := h.2 j bs hj; exact ⟨A, n, c, e, hr.free⟩⟩
theorem Each.sub (h : Each w av xs bss) {av' : Nat → Prop} (hs : ∀ g, g < w.heap.size → av' g → av g) : Each w av' xs bss :=
  ⟨h.1, fun j bs hj => by obtain ⟨A, n, c, e, hr⟩ := h.2 j bs hj; exact ⟨A, n, c, e, hr.sub hs⟩⟩
theorem Each.fresh (h : Each w av xs bss) {b : Nat} (hb : w.heap.size ≤ b) : Each w (just b) xs bss :=
  ⟨h.1, fun j bs hj => by obtain ⟨A, n, c, e, hr⟩ := h.2 j bs hj; exact ⟨A, n, c, e, hr.fresh hb⟩⟩
theorem Each.snoc (h : Each w av xs bss) {A : Option Addr} {n c : Nat} {bs : List UInt8} (hr : RB w av A n c bs) : Each w av (xs ++ [Value.slice A n c]) (bss ++ [bs]) := by
  refine ⟨by simp [h.1], fun j b hj => ?_⟩
  by_cases hlt : j < bss.length
  · rw [List.getElem?_append_left hlt] at hj
    rw [List.getElem?_append_left (by rw [h.1]; exact hlt)]
    exact h.2 j b hj
  · have hj' : j = bss.length := by
      have := (List.getElem?_eq_some_iff.1 hj).1
      simp at this; omega
    subst hj'
    simp at hj
    subst hj
    refine ⟨A, n, c, ?_, hr⟩
    rw [← h.1]; simp
theorem RBB.len (h : RBB w av A n c bss) : bss.length = n := h.1
theorem RBB.cap (h : RBB w av A n c bss) : n ≤ c := h.2.1
theorem RBB.max (h : RBB w av A n c bss) : c ≤ maxLen := h.2.2.1
theorem RBB.nil : RBB w av none 0 0 [] := ⟨rfl, Nat.le_refl _, Nat.zero_le _, [], Rd.nil _, Each.nil⟩
theorem RBB.keep (h : RBB w av A n c bss) (hk : Kept av w w') : RBB w' av A n c bss := by
  obtain ⟨h1, h2, h3, xs, h4, h5⟩ := h
  exact ⟨h1, h2, h3, xs, h4.keep hk, h5.keep hk⟩
theorem RBB.below (h : RBB w av A n c bss) (hk : Below w.heap.size w w') : RBB w' av A n c bss := h.keep (Kept.of_below hk av)
theorem RBB.drewN (h : RBB w av A n c bss) (m : Nat) : RBB (w.drewN m) av A n c bss := h.keep (Kept.drewN av w m)
theorem RBB.alloc (h : RBB w av A n c bss) (o : Obj) : RBB (w.alloc o) av A n c bss := h.keep (Kept.alloc av w o)
theorem RBB.free (h : RBB w av A n c bss) : RBB w no A n c bss := by
  obtain ⟨h1, h2, h3, xs, h4, h5⟩ := h
  exact ⟨h1, h2, h3, xs, h4.free, h5.free⟩
theorem RBB.sub (h : RBB w av A n c bss) {av' : Nat → Prop} (hs : ∀ g, g < w.heap.size → av' g → av g) : RBB w av' A n c bss := by
  obtain ⟨h1, h2, h3, xs, h4, h5⟩ := h
  exact ⟨h1, h2, h3, xs, h4.sub hs, h5.sub hs⟩
theorem RBB.at_ (h : RBB w av A n c bss) (hk : k < n) : ∃ g o B m d bs, A = some ⟨g, o, none⟩ ∧ bss[k]? = some bs ∧ w.cell? ⟨g, o + k, none⟩ = some (.slice B m d) ∧ RB w av B m d bs := by
  obtain ⟨h1, _, _, xs, h4, h5⟩ := h
  obtain ⟨g, o, u, e, hu, hc⟩ := h4.at_ hk
  have hl : k < bss.length := by omega
  obtain ⟨B, m, d, e2, hr⟩ := h5.2 k _ (List.getElem?_eq_getElem hl)
  rw [hu] at e2
  injection e2 with e2
  subst e2
  exact ⟨g, o, B, m, d, _, e, List.getElem?_eq_getElem hl, hc, hr⟩
theorem RBB.of_own {base : Nat} {e : TypeId} {v : Value} (h : w.ownsRow base e 1 v n xs) (he : Each w no xs bss) : ∃ A c, v = .slice A n c ∧ RBB w no A n c bss := by
  obtain ⟨A, c, e1, h1, h2, h3⟩ := Rd.of_own h
  exact ⟨A, c, e1, by rw [← he.1]; exact h3.1, h1, h2, xs, h3, he⟩
end

/-- One slice in a new cell, as '[][]byte{b}' lays it. -/
theorem RBB.one {w : World} {B : Option Addr} {m d : Nat} {bs : List UInt8} (t : TypeId) (h : RB w no B m d bs) : RBB (w.alloc (.cells #[.slice B m d] t)) no (some ⟨w.heap.size, 0, none⟩) 1 1 [bs] :=
  ⟨rfl, Nat.le_refl _, by unfold maxLen; omega, [.slice B m d], ⟨rfl, fun _ => ⟨w.heap.size, 0, rfl, by simp, fun h => h, fun j v hv => by
    rcases j with _ | j
    · simp at hv; subst hv; simp [World.cell?_alloc_new]
    · simp at hv⟩⟩, by simp, fun j b hj => by
    rcases j with _ | j
    · simp at hj; subst hj; exact ⟨B, m, d, rfl, h.alloc _⟩
    · simp at hj⟩

/-! ### A slice of bools, of ints -/
def RL (w : World) (av : Nat → Prop) (A : Option Addr) (n c : Nat) (ys : List Bool) : Prop :=
  ys.length = n ∧ n ≤ c ∧ c ≤ maxLen ∧ Rd w av A n (ys.map Value.bool)
def RI (w : World) (av : Nat → Prop) (A : Option Addr) (n c : Nat) (zs : List Int) : Prop :=
  zs.length = n ∧ n ≤ c ∧ c ≤ maxLen ∧ Rd w av A n (zs.map (Value.int .i64))

section
variable {w w' : World} {av : Nat → Prop} {A : Option Addr} {n c k : Nat} {ys : List Bool} {zs : List Int}
theorem RL.len (h : RL w av A n c ys) : ys.length = n := h.1
theorem RL.cap (h : RL w av A n c ys) : n ≤ c := h.2.1
theorem RL.max (h : RL w av A n c ys) : c ≤ maxLen := h.2.2.1
theorem RL.keep (h : RL w av A n c ys) (hk : Kept av w w') : RL w' av A n c ys := ⟨h.1, h.2.1, h.2.2.1, h.2.2.2.keep hk⟩
theorem RL.below (h : RL w av A n c ys) (hk : Below w.heap.size w w') : RL w' av A n c ys := h.keep (Kept.of_below hk av)
theorem RL.drewN (h : RL w av A n c ys) (m : Nat) : RL (w.drewN m) av A n c ys := h.keep (Kept.drewN av w m)
theorem RL.alloc (h : RL w av A n c ys) (o : Obj) : RL (w.alloc o) av A n c ys := h.keep (Kept.alloc av w o)
theorem RL.free (h : RL w av A n c ys) : RL w no A n c ys := ⟨h.1, h.2.1, h.2.2.1, h.2.2.2.free⟩
theorem RL.fresh (h : RL w av A n c ys) {b : Nat} (hb : w.heap.size ≤ b) : RL w (just b) A n c ys := ⟨h.1, h.2.1, h.2.2.1, h.2.2.2.fresh hb⟩
theorem RL.sub (h : RL w av A n c ys) {av' : Nat → Prop} (hs : ∀ g, g < w.heap.size → av' g → av g) : RL w av' A n c ys := ⟨h.1, h.2.1, h.2.2.1, h.2.2.2.sub hs⟩
theorem RL.at_ (h : RL w av A n c ys) (hk : k < n) : ∃ g o x, A = some ⟨g, o, none⟩ ∧ ys[k]? = some x ∧ w.cell? ⟨g, o + k, none⟩ = some (.bool x) := by
  obtain ⟨g, o, u, e, hu, hc⟩ := h.2.2.2.at_ hk
  rw [List.getElem?_map] at hu
  cases hx : ys[k]? with
  | none => rw [hx] at hu; cases hu
  | some x => rw [hx] at hu; injection hu with hu; subst hu; exact ⟨g, o, x, e, rfl, hc⟩
theorem RL.of_own {base : Nat} {e : TypeId} {v : Value} (h : w.ownsRow base e 1 v n (ys.map Value.bool)) : ∃ A c, v = .slice A n c ∧ RL w no A n c ys := by
  obtain ⟨A, c, e1, h1, h2, h3⟩ := Rd.of_own h
  exact ⟨A, c, e1, by have := h3.1; simpa using this, h1, h2, h3⟩
theorem RL.of_own_av {base : Nat} {e : TypeId} {v : Value} (h : w.ownsRow base e 1 v n (ys.map Value.bool)) (hav : ∀ g, av g → g < base) : ∃ A c, v = .slice A n c ∧ RL w av A n c ys := by
  obtain ⟨A, c, e1, h1, h2, h3⟩ := Rd.of_own h
  refine ⟨A, c, e1, by have := h3.1; simpa using this, h1, h2, h3.1, fun hn => ?_⟩
  obtain ⟨g, o, e2, hg, _, hc⟩ := h3.2 hn
  refine ⟨g, o, e2, hg, fun hh => ?_, hc⟩
  have := (h.lt g (by rw [e1, e2]; rfl)).1
  have := hav g hh
  omega
theorem RI.len (h : RI w av A n c zs) : zs.length = n := h.1
theorem RI.cap (h : RI w av A n c zs) : n ≤ c := h.2.1
theorem RI.max (h : RI w av A n c zs) : c ≤ maxLen := h.2.2.1
theorem RI.keep (h : RI w av A n c zs) (hk : Kept av w w') : RI w' av A n c zs := ⟨h.1, h.2.1, h.2.2.1, h.2.2.2.keep hk⟩
theorem RI.below (h : RI w av A n c zs) (hk : Below w.heap.size w w') : RI w' av A n c zs := h.keep (Kept.of_below hk av)
theorem RI.drewN (h : RI w av A n c zs) (m : Nat) : RI (w.drewN m) av A n c zs := h.keep (Kept.drewN av w m)
theorem RI.alloc (h : RI w av A n c zs) (o : Obj) : RI (w.alloc o) av A n c zs := h.keep (Kept.alloc av w o)
theorem RI.free (h : RI w av A n c zs) : RI w no A n c zs := ⟨h.1, h.2.1, h.2.2.1, h.2.2.2.free⟩
theorem RI.sub (h : RI w av A n c zs) {av' : Nat → Prop} (hs : ∀ g, g < w.heap.size → av' g → av g) : RI w av' A n c zs := ⟨h.1, h.2.1, h.2.2.1, h.2.2.2.sub hs⟩
theorem RI.at_ (h : RI w av A n c zs) (hk : k < n) : ∃ g o x, A = some ⟨g, o, none⟩ ∧ zs[k]? = some x ∧ w.cell? ⟨g, o + k, none⟩ = some (.int .i64 x) := by
  obtain ⟨g, o, u, e, hu, hc⟩ := h.2.2.2.at_ hk
  rw [List.getElem?_map] at hu
  cases hx : zs[k]? with
  | none => rw [hx] at hu; cases hu
  | some x => rw [hx] at hu; injection hu with hu; subst hu; exact ⟨g, o, x, e, rfl, hc⟩
theorem RI.of_own {base : Nat} {e : TypeId} {v : Value} (h : w.ownsRow base e 1 v n (zs.map (Value.int .i64))) : ∃ A c, v = .slice A n c ∧ RI w no A n c zs := by
  obtain ⟨A, c, e1, h1, h2, h3⟩ := Rd.of_own h
  exact ⟨A, c, e1, by have := h3.1; simpa using this, h1, h2, h3⟩
end
end Go.Proofs.YtmfcgglgolajnaaDoor
