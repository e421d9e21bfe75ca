/-
  Joined: Words, Append, Plain, DecL, Plain2, Blk, Ret, Strs, Open, Up.
-/
import Derived.WalkKit
import Derived.ProofKit
import Derived.Below
import Derived.Laws.OwnMore
import Derived.Deep.AppendLies
import Derived.Deep.Draws
import Derived.Maps.AppendAt
import Derived.RegionTactic
import Derived.OwnWalk
import Derived.Deep.Matrix
import Derived.Laws.BitsAllLaws
import Derived.Laws.MakeOwn
import Derived.Laws.IdiomStrings
import Derived.Laws.BytesArg
import Derived.OpenShut
import Derived.SizedLaws
import Derived.ShutString
import Derived.ChangeOld
import Derived.Deep.QuietTactic
import Derived.BigQuiet
/-
  Words for memory: a slice that reads as a list, kept from world to world. No program is named here.
-/
namespace Go.Proofs.YtmfcgglgolajnaaDoor
open Go.RowKit

theorem hide {p : Prop} (h : p) : Hid p := h

/-- No block. -/
def no : Nat → Prop := fun _ => False
/-- The block of a row of the call's own. -/
def rowOf (v : Value) : Nat → Prop := fun g => v.ownBlock = some g
/-- One block. -/
def just (b : Nat) : Nat → Prop := fun g => g = b

/-- The slice at A, of n elements of one cell, holds xs; it lies in no block of 'av'. -/
def Rd (w : World) (av : Nat → Prop) (A : Option Addr) (n : Nat) (xs : List Value) : Prop :=
  xs.length = n ∧ (0 < n → ∃ g o, A = some ⟨g, o, none⟩ ∧ g < w.heap.size ∧ ¬ av g ∧ ∀ j u, xs[j]? = some u → w.cell? ⟨g, o + j, none⟩ = some u)

/-- What stays where a world goes on: every block that is there, but those of 'av'. -/
def Kept (av : Nat → Prop) (w w' : World) : Prop := w.heap.size ≤ w'.heap.size ∧ ∀ k, k < w.heap.size → ¬ av k → w'.heap[k]? = w.heap[k]?

theorem Kept.of_below {w w' : World} (h : Below w.heap.size w w') (av : Nat → Prop) : Kept av w w' := ⟨h.size, fun k hk _ => h.block k hk⟩
theorem Kept.mono {av av' : Nat → Prop} {w w' : World} (h : Kept av w w') (hs : ∀ g, av g → av' g) : Kept av' w w' := ⟨h.1, fun k hk hn => h.2 k hk (fun e => hn (hs k e))⟩
theorem Kept.of_grown {w w' : World} {v : Value} (h : w.grownBy w' v.ownBlock) : Kept (rowOf v) w w' := ⟨h.size, fun k hk hn => h.block k hk (fun e => hn e.symm)⟩
theorem Kept.trans {av : Nat → Prop} {a b c : World} (h : Kept av a b) (k : Kept av b c) : Kept av a c :=
  ⟨Nat.le_trans h.1 k.1, fun i hi hn => (k.2 i (Nat.lt_of_lt_of_le hi h.1) hn).trans (h.2 i hi hn)⟩
theorem Kept.refl (av : Nat → Prop) (w : World) : Kept av w w := ⟨Nat.le_refl _, fun _ _ _ => rfl⟩
theorem Kept.drewN (av : Nat → Prop) (w : World) (n : Nat) : Kept av w (w.drewN n) := ⟨Nat.le_refl _, fun _ _ _ => rfl⟩
theorem Kept.alloc (av : Nat → Prop) (w : World) (o : Obj) : Kept av w (w.alloc o) := ⟨by simp, fun k hk _ => Below.heap_alloc w o k hk⟩
theorem Kept.setCell {w : World} {g : Nat} {i : Nat} {u : Value} : Kept (just g) w (w.setCell ⟨g, i, none⟩ u) :=
  ⟨by simp [World.setCell], fun k _ hn => Below.heap_setCell w _ u k (fun e => hn e)⟩

section
variable {w w' : World} {av : Nat → Prop} {A : Option Addr} {n c k : Nat} {xs : List Value}

theorem Rd.nil (A : Option Addr) : Rd w av A 0 [] := ⟨rfl, fun h => absurd h (by omega)⟩
theorem Rd.keep (h : Rd w av A n xs) (hk : Kept av w w') : Rd w' av A n xs :=
  ⟨h.1, fun hn => by
    obtain ⟨g, o, e, hg, ha, hc⟩ := h.2 hn
    exact ⟨g, o, e, Nat.lt_of_lt_of_le hg hk.1, ha, fun j u hu => (World.cell?_of_block (w := w) (hk.2 g hg ha)).trans (hc j u hu)⟩⟩
theorem Rd.free (h : Rd w av A n xs) : Rd w no A n xs :=
  ⟨h.1, fun hn => by obtain ⟨g, o, e, hg, _, hc⟩ := h.2 hn; exact ⟨g, o, e, hg, fun h => h, hc⟩⟩
theorem Rd.sub (h : Rd w av A n xs) {av' : Nat → Prop} (hs : ∀ g, g < w.heap.size → av' g → av g) : Rd w av' A n xs :=
  ⟨h.1, fun hn => by obtain ⟨g, o, e, hg, ha, hc⟩ := h.2 hn; exact ⟨g, o, e, hg, fun h => ha (hs g hg h), hc⟩⟩
theorem Rd.fresh (h : Rd w av A n xs) {b : Nat} (hb : w.heap.size ≤ b) : Rd w (just b) A n xs :=
  h.sub fun g hg e => by unfold just at e; omega
theorem Rd.at_ (h : Rd w av A n xs) (hk : k < n) : ∃ g o u, A = some ⟨g, o, none⟩ ∧ xs[k]? = some u ∧ w.cell? ⟨g, o + k, none⟩ = some u := by
  obtain ⟨g, o, e, _, _, hc⟩ := h.2 (by omega)
  have hl : k < xs.length := by have := h.1; omega
  exact ⟨g, o, xs[k], e, List.getElem?_eq_getElem hl, hc k _ (List.getElem?_eq_getElem hl)⟩
/-- A part of it, from k on. -/
theorem Rd.drop (h : Rd w av A n xs) {g o : Nat} (hA : A = some ⟨g, o, none⟩) (hk : k ≤ n) : Rd w av (some ⟨g, o + k, none⟩) (n - k) (xs.drop k) := by
  refine ⟨by rw [List.length_drop, h.1], fun hn => ?_⟩
  obtain ⟨g', o', e, hg, ha, hc⟩ := h.2 (by omega)
  rw [hA] at e
  injection e with e
  injection e with e1 e2
  subst e1 e2
  refine ⟨g, o + k, rfl, hg, ha, fun j u hu => ?_⟩
  rw [Nat.add_assoc]
  exact hc _ u (by rw [← hu, List.getElem?_drop])
theorem Rd.take (h : Rd w av A n xs) {m : Nat} (hm : m ≤ n) : Rd w av A m (xs.take m) := by
  refine ⟨by rw [List.length_take, h.1]; omega, fun hn => ?_⟩
  obtain ⟨g, o, e, hg, ha, hc⟩ := h.2 (by omega)
  refine ⟨g, o, e, hg, ha, fun j u hu => hc j u ?_⟩
  rw [List.getElem?_take] at hu
  split at hu
  · exact hu
  · cases hu
theorem Rd.of_own {base : Nat} {e : TypeId} {v : Value} (h : w.ownsRow base e 1 v n xs) : ∃ A c, v = .slice A n c ∧ n ≤ c ∧ c ≤ maxLen ∧ Rd w no A n xs := by
  have hl : xs.length = n := by have := h.1; omega
  rcases h.2 with ⟨rfl, rfl⟩ | ⟨g, cap, cur, rfl, _, hh, hnc, hcm, _, hx⟩
  · exact ⟨none, 0, rfl, Nat.le_refl _, Nat.zero_le _, hl, fun hn => absurd hn (by omega)⟩
  · refine ⟨_, cap, rfl, hnc, hcm, hl, fun _ => ⟨g, 0, rfl, ?_, fun h => h, fun j u hu => ?_⟩⟩
    · rcases Nat.lt_or_ge g w.heap.size with hlt | hge
      · exact hlt
      · rw [Array.getElem?_eq_none hge] at hh; cases hh
    · have := h.cells (g := g) rfl j u hu
      simpa [Addr.add] using (show w.cell? ⟨g, 0 + j, none⟩ = some u by
        have e : ((⟨g, 0, none⟩ : Addr).add j) = ⟨g, 0 + j, none⟩ := by
          unfold Addr.add; split
          · rename_i h0; subst h0; rfl
          · rfl
        rwa [e] at this)
end

/-! ### A slice of bytes -/
/-- The slice (A, n, c) reads as the bytes bs. -/
def RB (w : World) (av : Nat → Prop) (A : Option Addr) (n c : Nat) (bs : List UInt8) : Prop :=
  bs.length = n ∧ n ≤ c ∧ c ≤ maxLen ∧ Rd w av A n (bs.map fun b => .int .u8 (b.toNat : Int))

section
variable {w w' : World} {av : Nat → Prop} {A : Option Addr} {n c k : Nat} {bs : List UInt8}
theorem RB.len (h : RB w av A n c bs) : bs.length = n := h.1
theorem RB.cap (h : RB w av A n c bs) : n ≤ c := h.2.1
theorem RB.max (h : RB w av A n c bs) : c ≤ maxLen := h.2.2.1
theorem RB.keep (h : RB w av A n c bs) (hk : Kept av w w') : RB w' av A n c bs := ⟨h.1, h.2.1, h.2.2.1, h.2.2.2.keep hk⟩
theorem RB.below (h : RB w av A n c bs) (hk : Below w.heap.size w w') : RB w' av A n c bs := h.keep (Kept.of_below hk av)
theorem RB.drewN (h : RB w av A n c bs) (m : Nat) : RB (w.drewN m) av A n c bs := h.keep (Kept.drewN av w m)
theorem RB.alloc (h : RB w av A n c bs) (o : Obj) : RB (w.alloc o) av A n c bs := h.keep (Kept.alloc av w o)
theorem RB.free (h : RB w av A n c bs) : RB w no A n c bs := ⟨h.1, h.2.1, h.2.2.1, h.2.2.2.free⟩
theorem RB.fresh (h : RB w av A n c bs) {b : Nat} (hb : w.heap.size ≤ b) : RB w (just b) A n c bs := ⟨h.1, h.2.1, h.2.2.1, h.2.2.2.fresh hb⟩
theorem RB.sub (h : RB w av A n c bs) {av' : Nat → Prop} (hs : ∀ g, g < w.heap.size → av' g → av g) : RB w av' A n c bs := ⟨h.1, h.2.1, h.2.2.1, h.2.2.2.sub hs⟩
theorem RB.nil : RB w av none 0 0 [] := ⟨rfl, Nat.le_refl _, Nat.zero_le _, Rd.nil _⟩
theorem RB.at_ (h : RB w av A n c bs) (hk : k < n) : ∃ g o x, A = some ⟨g, o, none⟩ ∧ bs[k]? = some x ∧ w.cell? ⟨g, o + k, none⟩ = some (.int .u8 (x.toNat : Int)) := by
  obtain ⟨g, o, u, e, hu, hc⟩ := h.2.2.2.at_ hk
  rw [List.getElem?_map] at hu
  cases hx : bs[k]? with
  | none => rw [hx] at hu; cases hu
  | some x => rw [hx] at hu; injection hu with hu; subst hu; exact ⟨g, o, x, e, rfl, hc⟩
theorem RB.drop (h : RB w av A n c bs) {g o : Nat} (hA : A = some ⟨g, o, none⟩) (hk : k ≤ n) : RB w av (some ⟨g, o + k, none⟩) (n - k) (c - k) (bs.drop k) :=
  ⟨by rw [List.length_drop, h.1], by have := h.cap; omega, by have := h.max; omega, by rw [List.map_drop]; exact h.2.2.2.drop hA hk⟩
theorem RB.take (h : RB w av A n c bs) {m : Nat} (hm : m ≤ n) : RB w av A m c (bs.take m) :=
  ⟨by rw [List.length_take, h.1]; omega, by have := h.cap; omega, h.max, by rw [List.map_take]; exact h.2.2.2.take hm⟩
theorem RB.of_own {base : Nat} {e : TypeId} {v : Value} (h : w.ownsRow base e 1 v n (bs.map fun b => .int .u8 (b.toNat : Int))) : ∃ A c, v = .slice A n c ∧ RB w no A n c bs := by
  obtain ⟨A, c, e1, h1, h2, h3⟩ := Rd.of_own h
  exact ⟨A, c, e1, by have := h3.1; simpa using this, h1, h2, h3⟩
end

/-- A row of the call's own, made behind the block 'av'. -/
theorem RB.of_own_av {w : World} {av : Nat → Prop} {n : Nat} {bs : List UInt8} {base : Nat} {e : TypeId} {v : Value} (h : w.ownsRow base e 1 v n (bs.map fun b => .int .u8 (b.toNat : Int))) (hav : ∀ g, av g → g < base) : ∃ A c, v = .slice A n c ∧ RB w av A n c bs := by
  obtain ⟨A, c, e1, h1, h2, h3⟩ := Rd.of_own h
  refine ⟨A, c, e1, by have := h3.1; simpa using this, h1, h2, h3.1, fun hn => ?_⟩
  obtain ⟨g, o, e2, hg, _, hc⟩ := h3.2 hn
  refine ⟨g, o, e2, hg, fun hh => ?_, hc⟩
  have := (h.lt g (by rw [e1, e2]; rfl)).1
  have := hav g hh
  omega

/-! ### A slice of slices of bytes -/
/-- The values xs are slices that read as bss. -/
def Each (w : World) (av : Nat → Prop) (xs : List Value) (bss : List (List UInt8)) : Prop :=
  xs.length = bss.length ∧ ∀ (j : Nat) (bs : List UInt8), bss[j]? = some bs → ∃ A n c, xs[j]? = some (Value.slice A n c) ∧ RB w av A n c bs

def RBB (w : World) (av : Nat → Prop) (A : Option Addr) (n c : Nat) (bss : List (List UInt8)) : Prop :=
  bss.length = n ∧ n ≤ c ∧ c ≤ maxLen ∧ ∃ xs, Rd w av A n xs ∧ Each w av xs bss

section
variable {w w' : World} {av : Nat → Prop} {A : Option Addr} {n c k : Nat} {bss : List (List UInt8)} {xs : List Value}
theorem Each.nil : Each w av [] [] := ⟨rfl, fun j bs h => by simp at h⟩
theorem Each.keep (h : Each w av xs bss) (hk : Kept av w w') : Each w' av xs bss :=
  ⟨h.1, fun j bs hj => by obtain ⟨A, n, c, e, hr⟩ := h.2 j bs hj; exact ⟨A, n, c, e, hr.keep hk⟩⟩
theorem Each.free (h : Each w av xs bss) : Each w no xs bss :=
  ⟨h.1, fun j bs hj => by obtain ⟨A, n, c, e, hr⟩ := h.2 j bs hj; exact ⟨A, n, c, e, hr.free⟩⟩
theorem Each.sub (h : Each w av xs bss) {av' : Nat → Prop} (hs : ∀ g, g < w.heap.size → av' g → av g) : Each w av' xs bss :=
  ⟨h.1, fun j bs hj => by obtain ⟨A, n, c, e, hr⟩ := h.2 j bs hj; exact ⟨A, n, c, e, hr.sub hs⟩⟩
theorem Each.fresh (h : Each w av xs bss) {b : Nat} (hb : w.heap.size ≤ b) : Each w (just b) xs bss :=
  ⟨h.1, fun j bs hj => by obtain ⟨A, n, c, e, hr⟩ := h.2 j bs hj; exact ⟨A, n, c, e, hr.fresh hb⟩⟩
theorem Each.snoc (h : Each w av xs bss) {A : Option Addr} {n c : Nat} {bs : List UInt8} (hr : RB w av A n c bs) : Each w av (xs ++ [Value.slice A n c]) (bss ++ [bs]) := by
  refine ⟨by simp [h.1], fun j b hj => ?_⟩
  by_cases hlt : j < bss.length
  · rw [List.getElem?_append_left hlt] at hj
    rw [List.getElem?_append_left (by rw [h.1]; exact hlt)]
    exact h.2 j b hj
  · have hj' : j = bss.length := by
      have := (List.getElem?_eq_some_iff.1 hj).1
      simp at this; omega
    subst hj'
    simp at hj
    subst hj
    refine ⟨A, n, c, ?_, hr⟩
    rw [← h.1]; simp
theorem RBB.len (h : RBB w av A n c bss) : bss.length = n := h.1
theorem RBB.cap (h : RBB w av A n c bss) : n ≤ c := h.2.1
theorem RBB.max (h : RBB w av A n c bss) : c ≤ maxLen := h.2.2.1
theorem RBB.nil : RBB w av none 0 0 [] := ⟨rfl, Nat.le_refl _, Nat.zero_le _, [], Rd.nil _, Each.nil⟩
theorem RBB.keep (h : RBB w av A n c bss) (hk : Kept av w w') : RBB w' av A n c bss := by
  obtain ⟨h1, h2, h3, xs, h4, h5⟩ := h
  exact ⟨h1, h2, h3, xs, h4.keep hk, h5.keep hk⟩
theorem RBB.below (h : RBB w av A n c bss) (hk : Below w.heap.size w w') : RBB w' av A n c bss := h.keep (Kept.of_below hk av)
theorem RBB.drewN (h : RBB w av A n c bss) (m : Nat) : RBB (w.drewN m) av A n c bss := h.keep (Kept.drewN av w m)
theorem RBB.alloc (h : RBB w av A n c bss) (o : Obj) : RBB (w.alloc o) av A n c bss := h.keep (Kept.alloc av w o)
theorem RBB.free (h : RBB w av A n c bss) : RBB w no A n c bss := by
  obtain ⟨h1, h2, h3, xs, h4, h5⟩ := h
  exact ⟨h1, h2, h3, xs, h4.free, h5.free⟩
theorem RBB.sub (h : RBB w av A n c bss) {av' : Nat → Prop} (hs : ∀ g, g < w.heap.size → av' g → av g) : RBB w av' A n c bss := by
  obtain ⟨h1, h2, h3, xs, h4, h5⟩ := h
  exact ⟨h1, h2, h3, xs, h4.sub hs, h5.sub hs⟩
theorem RBB.at_ (h : RBB w av A n c bss) (hk : k < n) : ∃ g o B m d bs, A = some ⟨g, o, none⟩ ∧ bss[k]? = some bs ∧ w.cell? ⟨g, o + k, none⟩ = some (.slice B m d) ∧ RB w av B m d bs := by
  obtain ⟨h1, _, _, xs, h4, h5⟩ := h
  obtain ⟨g, o, u, e, hu, hc⟩ := h4.at_ hk
  have hl : k < bss.length := by omega
  obtain ⟨B, m, d, e2, hr⟩ := h5.2 k _ (List.getElem?_eq_getElem hl)
  rw [hu] at e2
  injection e2 with e2
  subst e2
  exact ⟨g, o, B, m, d, _, e, List.getElem?_eq_getElem hl, hc, hr⟩
theorem RBB.of_own {base : Nat} {e : TypeId} {v : Value} (h : w.ownsRow base e 1 v n xs) (he : Each w no xs bss) : ∃ A c, v = .slice A n c ∧ RBB w no A n c bss := by
  obtain ⟨A, c, e1, h1, h2, h3⟩ := Rd.of_own h
  exact ⟨A, c, e1, by rw [← he.1]; exact h3.1, h1, h2, xs, h3, he⟩
end

/-- One slice in a new cell, as '[][]byte{b}' lays it. -/
theorem RBB.one {w : World} {B : Option Addr} {m d : Nat} {bs : List UInt8} (t : TypeId) (h : RB w no B m d bs) : RBB (w.alloc (.cells #[.slice B m d] t)) no (some ⟨w.heap.size, 0, none⟩) 1 1 [bs] :=
  ⟨rfl, Nat.le_refl _, by unfold maxLen; omega, [.slice B m d], ⟨rfl, fun _ => ⟨w.heap.size, 0, rfl, by simp, fun h => h, fun j v hv => by
    rcases j with _ | j
    · simp at hv; subst hv; simp [World.cell?_alloc_new]
    · simp at hv⟩⟩, by simp, fun j b hj => by
    rcases j with _ | j
    · simp at hj; subst hj; exact ⟨B, m, d, rfl, h.alloc _⟩
    · simp at hj⟩

/-! ### A slice of bools, of ints -/
def RL (w : World) (av : Nat → Prop) (A : Option Addr) (n c : Nat) (ys : List Bool) : Prop :=
  ys.length = n ∧ n ≤ c ∧ c ≤ maxLen ∧ Rd w av A n (ys.map Value.bool)
def RI (w : World) (av : Nat → Prop) (A : Option Addr) (n c : Nat) (zs : List Int) : Prop :=
  zs.length = n ∧ n ≤ c ∧ c ≤ maxLen ∧ Rd w av A n (zs.map (Value.int .i64))

section
variable {w w' : World} {av : Nat → Prop} {A : Option Addr} {n c k : Nat} {ys : List Bool} {zs : List Int}
theorem RL.len (h : RL w av A n c ys) : ys.length = n := h.1
theorem RL.cap (h : RL w av A n c ys) : n ≤ c := h.2.1
theorem RL.max (h : RL w av A n c ys) : c ≤ maxLen := h.2.2.1
theorem RL.keep (h : RL w av A n c ys) (hk : Kept av w w') : RL w' av A n c ys := ⟨h.1, h.2.1, h.2.2.1, h.2.2.2.keep hk⟩
theorem RL.below (h : RL w av A n c ys) (hk : Below w.heap.size w w') : RL w' av A n c ys := h.keep (Kept.of_below hk av)
theorem RL.drewN (h : RL w av A n c ys) (m : Nat) : RL (w.drewN m) av A n c ys := h.keep (Kept.drewN av w m)
theorem RL.alloc (h : RL w av A n c ys) (o : Obj) : RL (w.alloc o) av A n c ys := h.keep (Kept.alloc av w o)
theorem RL.free (h : RL w av A n c ys) : RL w no A n c ys := ⟨h.1, h.2.1, h.2.2.1, h.2.2.2.free⟩
theorem RL.fresh (h : RL w av A n c ys) {b : Nat} (hb : w.heap.size ≤ b) : RL w (just b) A n c ys := ⟨h.1, h.2.1, h.2.2.1, h.2.2.2.fresh hb⟩
theorem RL.sub (h : RL w av A n c ys) {av' : Nat → Prop} (hs : ∀ g, g < w.heap.size → av' g → av g) : RL w av' A n c ys := ⟨h.1, h.2.1, h.2.2.1, h.2.2.2.sub hs⟩
theorem RL.at_ (h : RL w av A n c ys) (hk : k < n) : ∃ g o x, A = some ⟨g, o, none⟩ ∧ ys[k]? = some x ∧ w.cell? ⟨g, o + k, none⟩ = some (.bool x) := by
  obtain ⟨g, o, u, e, hu, hc⟩ := h.2.2.2.at_ hk
  rw [List.getElem?_map] at hu
  cases hx : ys[k]? with
  | none => rw [hx] at hu; cases hu
  | some x => rw [hx] at hu; injection hu with hu; subst hu; exact ⟨g, o, x, e, rfl, hc⟩
theorem RL.of_own {base : Nat} {e : TypeId} {v : Value} (h : w.ownsRow base e 1 v n (ys.map Value.bool)) : ∃ A c, v = .slice A n c ∧ RL w no A n c ys := by
  obtain ⟨A, c, e1, h1, h2, h3⟩ := Rd.of_own h
  exact ⟨A, c, e1, by have := h3.1; simpa using this, h1, h2, h3⟩
theorem RL.of_own_av {base : Nat} {e : TypeId} {v : Value} (h : w.ownsRow base e 1 v n (ys.map Value.bool)) (hav : ∀ g, av g → g < base) : ∃ A c, v = .slice A n c ∧ RL w av A n c ys := by
  obtain ⟨A, c, e1, h1, h2, h3⟩ := Rd.of_own h
  refine ⟨A, c, e1, by have := h3.1; simpa using this, h1, h2, h3.1, fun hn => ?_⟩
  obtain ⟨g, o, e2, hg, _, hc⟩ := h3.2 hn
  refine ⟨g, o, e2, hg, fun hh => ?_, hc⟩
  have := (h.lt g (by rw [e1, e2]; rfl)).1
  have := hav g hh
  omega
theorem RI.len (h : RI w av A n c zs) : zs.length = n := h.1
theorem RI.cap (h : RI w av A n c zs) : n ≤ c := h.2.1
theorem RI.max (h : RI w av A n c zs) : c ≤ maxLen := h.2.2.1
theorem RI.keep (h : RI w av A n c zs) (hk : Kept av w w') : RI w' av A n c zs := ⟨h.1, h.2.1, h.2.2.1, h.2.2.2.keep hk⟩
theorem RI.below (h : RI w av A n c zs) (hk : Below w.heap.size w w') : RI w' av A n c zs := h.keep (Kept.of_below hk av)
theorem RI.drewN (h : RI w av A n c zs) (m : Nat) : RI (w.drewN m) av A n c zs := h.keep (Kept.drewN av w m)
theorem RI.alloc (h : RI w av A n c zs) (o : Obj) : RI (w.alloc o) av A n c zs := h.keep (Kept.alloc av w o)
theorem RI.free (h : RI w av A n c zs) : RI w no A n c zs := ⟨h.1, h.2.1, h.2.2.1, h.2.2.2.free⟩
theorem RI.sub (h : RI w av A n c zs) {av' : Nat → Prop} (hs : ∀ g, g < w.heap.size → av' g → av g) : RI w av' A n c zs := ⟨h.1, h.2.1, h.2.2.1, h.2.2.2.sub hs⟩
theorem RI.at_ (h : RI w av A n c zs) (hk : k < n) : ∃ g o x, A = some ⟨g, o, none⟩ ∧ zs[k]? = some x ∧ w.cell? ⟨g, o + k, none⟩ = some (.int .i64 x) := by
  obtain ⟨g, o, u, e, hu, hc⟩ := h.2.2.2.at_ hk
  rw [List.getElem?_map] at hu
  cases hx : zs[k]? with
  | none => rw [hx] at hu; cases hu
  | some x => rw [hx] at hu; injection hu with hu; subst hu; exact ⟨g, o, x, e, rfl, hc⟩
theorem RI.of_own {base : Nat} {e : TypeId} {v : Value} (h : w.ownsRow base e 1 v n (zs.map (Value.int .i64))) : ∃ A c, v = .slice A n c ∧ RI w no A n c zs := by
  obtain ⟨A, c, e1, h1, h2, h3⟩ := Rd.of_own h
  exact ⟨A, c, e1, by have := h3.1; simpa using this, h1, h2, h3⟩
end
end Go.Proofs.YtmfcgglgolajnaaDoor
/-
  The built-in append onto a row of the call's own, its source a slice that reads as a list (nil let in). No program is named here.
-/
namespace Go.Proofs.YtmfcgglgolajnaaDoor
open Go.RowKit

theorem add_at (g o j : Nat) : ((⟨g, o, none⟩ : Addr).add j) = ⟨g, o + j, none⟩ := by
  unfold Addr.add
  split
  · rename_i h0; subst h0; rfl
  · rfl

section
variable {P : Program} (w : World)

theorem run_append_of_nil (base : Nat) (t ty e : TypeId) (i : TypeInfo) (size : Nat) (ht : P.underlying t = some (.slice e)) (hi : P.info? e = some i)
    (v : Value) (n : Nat) (xs : List Value) (hown : w.ownsRow base e size v n xs) (c : Nat) : (Builtin.append_ #[t, t] ty #[v, .slice none 0 c]).run P w = .ok v w := by
  rcases hown.2 with ⟨rfl, rfl⟩ | ⟨g, cap, cur, rfl, _, _, hnc, _⟩
  · simp [Builtin.append_, run_underlying ht, sizeOf, typeInfo, hi, Builtin.lenOf, Builtin.firstCells]
  · simp [Builtin.append_, run_underlying ht, sizeOf, typeInfo, hi, Builtin.lenOf, Builtin.firstCells, hnc, storeCells]

theorem run_append_rd (base : Nat) (t ty e : TypeId) (i : TypeInfo) (z : Value) (bytes : Nat) (ht : P.underlying t = some (.slice e)) (hi : P.info? e = some i) (hz : i.zero = some z)
    (hsize : i.size = 1) (hby : i.bytes = bytes) (hzs : z.cells.size = 1)
    (v : Value) (n : Nat) (xs : List Value) (hown : w.ownsRow base e 1 v n xs)
    (av : Nat → Prop) (A : Option Addr) (m c : Nat) (news : List Value) (hr : Rd w av A m news) (h1 : ∀ u ∈ news, u.oneCell' = true)
    (h63 : n + m ≤ maxLen) (hbytes : (n + m) * bytes ≤ 140737488355328) (hbase : base ≤ w.heap.size) :
    ∃ v' w', (Builtin.append_ #[t, t] ty #[v, .slice A m c]).run P w = .ok v' w' ∧ w'.ownsRow base e 1 v' (n + m) (xs ++ news) ∧ w.grownBy w' v.ownBlock ∧
      (v'.ownBlock = v.ownBlock ∨ v'.ownBlock = some w.heap.size) := by
  rcases A with _ | ad
  · have hm : m = 0 := by
      rcases Nat.eq_zero_or_pos m with h0 | h0
      · exact h0
      · obtain ⟨g, o, h, _⟩ := hr.2 h0
        cases h
    subst hm
    have hn : news = [] := List.eq_nil_of_length_eq_zero hr.1
    subst hn
    exact ⟨v, w, run_append_of_nil w base t ty e i 1 ht hi v n xs hown c, by simpa using hown, World.grownBy.refl w _, .inl rfl⟩
  · have hcells : ∀ j u, news[j]? = some u → w.cell? (ad.add j) = some u := by
      intro j u hu
      rcases Nat.eq_zero_or_pos m with h0 | h0
      · subst h0
        have hn : news = [] := List.eq_nil_of_length_eq_zero hr.1
        subst hn
        simp at hu
      · obtain ⟨g, o, h, _, _, hc⟩ := hr.2 h0
        injection h with h
        subst h
        rw [add_at]
        exact hc j u hu
    obtain ⟨v', w', hrun, h2, h3, _, h5⟩ := run_append_own_at (P := P) w base t ty e i z 1 bytes ht hi hz hsize hby hzs (by omega) v n xs hown ad m c news (by rw [hr.1]; omega) hcells h1 h63 hbytes hbase
    exact ⟨v', w', hrun, h2, h3, h5⟩

theorem wp_append_rd {o : Oper} {a : Act} {K : Act → World → Prop} {Q : Exit → Act → World → Prop} (s x : Operand) (t : TypeId)
    (ho : o.op = .call { callee := .builtin .append, args := #[s, x], argTypes := #[t, t] })
    (base : Nat) (e : TypeId) (i : TypeInfo) (z : Value) (bytes : Nat) (ht : P.underlying t = some (.slice e)) (hi : P.info? e = some i) (hz : i.zero = some z)
    (hsize : i.size = 1) (hby : i.bytes = bytes) (hzs : z.cells.size = 1)
    (v : Value) (n : Nat) (xs : List Value) (hs : a.eval s = v) (hown : w.ownsRow base e 1 v n xs)
    (av : Nat → Prop) (A : Option Addr) (m c : Nat) (news : List Value) (hx : a.eval x = .slice A m c) (hr : Rd w av A m news) (h1 : ∀ u ∈ news, u.oneCell' = true)
    (h63 : n + m ≤ maxLen) (hbytes : (n + m) * bytes ≤ 140737488355328) (hbase : base ≤ w.heap.size)
    (h : ∀ v' w', w'.ownsRow base e 1 v' (n + m) (xs ++ news) → w.grownBy w' v.ownBlock → (v'.ownBlock = v.ownBlock ∨ v'.ownBlock = some w.heap.size) → K (a.put o.dst v') w') : o.wp P a w K Q := by
  obtain ⟨v', w', hrun, h2, h3, h4⟩ := run_append_rd (P := P) w base t o.type e i z bytes ht hi hz hsize hby hzs v n xs hown av A m c news hr h1 h63 hbytes hbase
  unfold Oper.wp execOp
  simp only [ho, resolve, invoke, builtin, Sem.run_bind, Sem.run_pure, Result.andThen_ok, List.map_toArray, List.map_cons, List.map_nil, hs, hx, hrun]
  exact h v' w' h2 h3 h4

theorem wpList_append_rd {ops : Array Oper} {rest : List Oper} {o : Oper} {a : Act} {Q : Exit → Act → World → Prop} (hgd : o.guard = none) (s x : Operand) (t : TypeId)
    (ho : o.op = .call { callee := .builtin .append, args := #[s, x], argTypes := #[t, t] })
    (base : Nat) (e : TypeId) (i : TypeInfo) (z : Value) (bytes : Nat) (ht : P.underlying t = some (.slice e)) (hi : P.info? e = some i) (hz : i.zero = some z)
    (hsize : i.size = 1) (hby : i.bytes = bytes) (hzs : z.cells.size = 1)
    (v : Value) (n : Nat) (xs : List Value) (hs : a.eval s = v) (hown : w.ownsRow base e 1 v n xs)
    (av : Nat → Prop) (A : Option Addr) (m c : Nat) (news : List Value) (hx : a.eval x = .slice A m c) (hr : Rd w av A m news) (h1 : ∀ u ∈ news, u.oneCell' = true)
    (h63 : n + m ≤ maxLen) (hbytes : (n + m) * bytes ≤ 140737488355328) (hbase : base ≤ w.heap.size)
    (h : ∀ v' w', w'.ownsRow base e 1 v' (n + m) (xs ++ news) → w.grownBy w' v.ownBlock → (v'.ownBlock = v.ownBlock ∨ v'.ownBlock = some w.heap.size) → wpList P ops Q rest (a.put o.dst v') w') : wpList P ops Q (o :: rest) a w :=
  wpList_plain hgd fun _ hK => wp_append_rd w s x t ho base e i z bytes ht hi hz hsize hby hzs v n xs hs hown av A m c news hx hr h1 h63 hbytes hbase fun v' w' h2 h3 h4 => hK _ _ (h v' w' h2 h3 h4)
end

/-- One new cell, as 'append(out, x)' lays it. -/
theorem Rd.one (w : World) (u : Value) (t : TypeId) (av : Nat → Prop) (ha : ¬ av w.heap.size) : Rd (w.alloc (.cells #[u] t)) av (some ⟨w.heap.size, 0, none⟩) 1 [u] :=
  ⟨rfl, fun _ => ⟨w.heap.size, 0, rfl, by simp, ha, fun j v hv => by
    rcases j with _ | j
    · simp at hv; subst hv; simp [World.cell?_alloc_new]
    · simp at hv⟩⟩

/-- An empty row of the call's own, as '[]T{}' lays it. -/
theorem own_empty (w : World) (base : Nat) (e : TypeId) (hb : base ≤ w.heap.size) : (w.alloc (.cells #[] e)).ownsRow base e 1 (.slice (some ⟨w.heap.size, 0, none⟩) 0 0) 0 [] :=
  World.ownsRow_made w #[] 0 hb (Nat.zero_le _) rfl

theorem own_drewN {w : World} {base : Nat} {e : TypeId} {v : Value} {n : Nat} {xs : List Value} (h : w.ownsRow base e 1 v n xs) (m : Nat) : (w.drewN m).ownsRow base e 1 v n xs := h
theorem below_drewN {B : Nat} {a w : World} (h : Below B a w) (n : Nat) : Below B a (w.drewN n) := ⟨h.os, h.tape, h.output, h.size, h.block⟩
theorem own_below {w w' : World} {base : Nat} {e : TypeId} {v : Value} {n : Nat} {xs : List Value} (h : w.ownsRow base e 1 v n xs) (hb : Below w.heap.size w w') : w'.ownsRow base e 1 v n xs := by
  obtain ⟨h1, h2⟩ := h
  refine ⟨h1, ?_⟩
  rcases h2 with h2 | ⟨g, cap, cur, hv, hg, hh, r⟩
  · exact Or.inl h2
  · refine Or.inr ⟨g, cap, cur, hv, hg, (hb.block g ?_).trans hh, r⟩
    rcases Nat.lt_or_ge g w.heap.size with hlt | hge
    · exact hlt
    · rw [Array.getElem?_eq_none hge] at hh; cases hh
/-- An append onto a row of the call's own leaves what lay below the call's first block. -/
theorem below_append {B : Nat} {a w w' : World} {e : TypeId} {v : Value} {n : Nat} {xs : List Value} (h : Below B a w) (hg : w.grownBy w' v.ownBlock) (ho : w.ownsRow B e 1 v n xs) (hB : B ≤ w.heap.size) : Below B a w' :=
  h.grown hg hB (fun k hk => (ho.lt k hk).1)
/-- A block that is no part of the row stays where the row grows. -/
theorem block_append {w w' : World} {row : Option Nat} {g : Nat} {o : Obj} (h : w.heap[g]? = some o) (hg : w.grownBy w' row) (hne : row ≠ some g) : w'.heap[g]? = some o := by
  have hlt : g < w.heap.size := by
    rcases Nat.lt_or_ge g w.heap.size with hlt | hge
    · exact hlt
    · rw [Array.getElem?_eq_none hge] at h; cases h
  exact (hg.block g hlt (fun e => hne e.symm)).trans h
theorem block_alloc {w : World} {g : Nat} {o : Obj} (h : w.heap[g]? = some o) (o' : Obj) : (w.alloc o').heap[g]? = some o := by
  have hlt : g < w.heap.size := by
    rcases Nat.lt_or_ge g w.heap.size with hlt | hge
    · exact hlt
    · rw [Array.getElem?_eq_none hge] at h; cases h
  exact (Below.heap_alloc w o' g hlt).trans h
theorem block_lt {w : World} {g : Nat} {o : Obj} (h : w.heap[g]? = some o) : g < w.heap.size := by
  rcases Nat.lt_or_ge g w.heap.size with hlt | hge
  · exact hlt
  · rw [Array.getElem?_eq_none hge] at h; cases h
end Go.Proofs.YtmfcgglgolajnaaDoor
/-
  Plain lemmas on lists. No program is named here.
-/
namespace Go.Proofs.YtmfcgglgolajnaaDoor
open Go.RowKit

def eqL {α : Type} [DecidableEq α] (a b : List α) : Bool := decide (a = b)

theorem take_snoc {α : Type} {xs : List α} {k : Nat} {x : α} (h : xs[k]? = some x) : xs.take (k + 1) = xs.take k ++ [x] := by
  rw [List.take_add_one, h]; rfl
theorem take_step {α : Type} {xs ys : List α} {k : Nat} {x : α} (ht : xs.take k = ys.take k) (hx : xs[k]? = some x) (hy : ys[k]? = some x) : xs.take (k + 1) = ys.take (k + 1) := by
  rw [take_snoc hx, take_snoc hy, ht]
theorem eqL_ne {α : Type} [DecidableEq α] {xs ys : List α} {k : Nat} {x y : α} (hx : xs[k]? = some x) (hy : ys[k]? = some y) (h : x ≠ y) : eqL xs ys = false := by
  unfold eqL
  simp only [decide_eq_false_iff_not]
  rintro rfl
  rw [hx] at hy
  exact h (by injection hy)
theorem eqL_len {α : Type} [DecidableEq α] {xs ys : List α} (h : xs.length ≠ ys.length) : eqL xs ys = false := by
  unfold eqL
  simp only [decide_eq_false_iff_not]
  rintro rfl
  exact h rfl
theorem eqL_take {α : Type} [DecidableEq α] {xs ys : List α} {k : Nat} (h : xs.take k = ys.take k) (hx : xs.length ≤ k) (hy : ys.length ≤ k) : eqL xs ys = true := by
  rw [List.take_of_length_le hx, List.take_of_length_le hy] at h
  unfold eqL
  simpa using h
theorem eqL_iff {α : Type} [DecidableEq α] {xs ys : List α} : eqL xs ys = true ↔ xs = ys := by unfold eqL; simp
theorem byte_ne {x y : UInt8} (h : ((x.toNat : Int) != (y.toNat : Int)) = true) : x ≠ y := by
  rintro rfl; simp at h
theorem byte_eq {x y : UInt8} (h : ((x.toNat : Int) != (y.toNat : Int)) = false) : x = y := by
  apply UInt8.toNat_inj.1
  have h' : (x.toNat : Int) = (y.toNat : Int) := by simpa using h
  omega
theorem byte_is {x : UInt8} {n : Nat} (hn : n < 256) : ((x.toNat : Int) == (n : Int)) = decide (x = UInt8.ofNat n) := by
  rw [Bool.eq_iff_iff, beq_iff_eq, decide_eq_true_iff]
  constructor
  · intro h
    apply UInt8.toNat_inj.1
    rw [UInt8.toNat_ofNat']
    omega
  · rintro rfl
    rw [UInt8.toNat_ofNat']
    omega
theorem ret_bool {a b : Bool} (h : a = b) : Ending.returned (.bool a) = .returned (.bool b) := by rw [h]
theorem ret_int {k : IntKind} {a b : Int} (h : a = b) : Ending.returned (.int k a) = .returned (.int k b) := by rw [h]
theorem lt_256 (x : UInt8) : (x.toNat : Int) < 256 := by have := x.toNat_lt; omega

/-! ### Addresses -/
def zerosB (bs : List UInt8) : Bool := bs.all fun b => decide (b = 0)
theorem zerosB_ne {bs : List UInt8} {k : Nat} {x : UInt8} (hx : bs[k]? = some x) (h : x ≠ 0) : zerosB bs = false := by
  unfold zerosB
  rw [List.all_eq_false]
  exact ⟨x, List.mem_of_getElem? hx, by simpa using h⟩
theorem zerosB_step {bs : List UInt8} {k : Nat} {x : UInt8} (h : zerosB (bs.take k) = true) (hx : bs[k]? = some x) (h0 : x = 0) : zerosB (bs.take (k + 1)) = true := by
  rw [take_snoc hx]
  unfold zerosB at *
  simp [h0] at h ⊢
  exact h
theorem zerosB_take {bs : List UInt8} {k : Nat} (h : zerosB (bs.take k) = true) (hk : bs.length ≤ k) : zerosB bs = true := by
  rwa [List.take_of_length_le hk] at h
/-- Sixteen bytes of an IPv4-mapped address. -/
def mapd (bs : List UInt8) : Bool := decide (bs.length = 16) && (zerosB (bs.take 10) && (decide (bs[10]? = some 255) && decide (bs[11]? = some 255)))
theorem mapd_zeros {bs : List UInt8} (h : zerosB (bs.take 10) = false) : mapd bs = false := by unfold mapd; rw [h]; simp
theorem mapd_len {bs : List UInt8} (h : bs.length ≠ 16) : mapd bs = false := by unfold mapd; rw [decide_eq_false h]; rfl
theorem mapd_of {bs : List UInt8} {x y : UInt8} (hl : bs.length = 16) (h : zerosB (bs.take 10) = true) (hx : bs[10]? = some x) (hy : bs[11]? = some y) : mapd bs = (decide (x = 255) && decide (y = 255)) := by
  unfold mapd
  rw [h, hx, hy, decide_eq_true hl]
  simp
theorem byte_ff {x : UInt8} : ((x.toNat : Int) == 255) = decide (x = 255) := byte_is (n := 255) (by omega)

/-! ### Bits of bytes -/
theorem and_u8 (x y : UInt8) : bits .and .u8 (x.toNat : Int) (y.toNat : Int) = ((x &&& y).toNat : Int) := by
  rw [u8_and_nat _ _ x.toNat_lt y.toNat_lt, UInt8.toNat_and]
theorem or_u8 (x y : UInt8) : bits .or .u8 (x.toNat : Int) (y.toNat : Int) = ((x ||| y).toNat : Int) := by
  rw [u8_or_nat _ _ x.toNat_lt y.toNat_lt, UInt8.toNat_or]
theorem xor_u8 (x y : UInt8) : bits .xor .u8 (x.toNat : Int) (y.toNat : Int) = ((x ^^^ y).toNat : Int) := by
  rw [u8_xor_nat _ _ x.toNat_lt y.toNat_lt, UInt8.toNat_xor]

/-- The network with this number and mask contains the address: the same bits under the mask. -/
def inNet (num mask ip : List UInt8) : Bool := eqL (List.zipWith (· &&& ·) num mask) (List.zipWith (· &&& ·) ip mask)
theorem zip_at {f : UInt8 → UInt8 → UInt8} {xs ms : List UInt8} {k : Nat} {x m : UInt8} (hx : xs[k]? = some x) (hm : ms[k]? = some m) : (List.zipWith f xs ms)[k]? = some (f x m) := by
  rw [List.getElem?_zipWith, hx, hm]

/-- What 'alike' keeps. -/
def goodA (m : Nat) (b : List UInt8) : Bool := decide (b.length = m ∧ (m = 4 ∨ m = 16)) && !mapd b
def alikeL (bss : List (List UInt8)) (m : Nat) : List (List UInt8) := bss.filter (goodA m)
theorem alikeL_keep {bss : List (List UInt8)} {m k : Nat} {b : List UInt8} (hb : bss[k]? = some b) (h : goodA m b = true) : alikeL (bss.take (k + 1)) m = alikeL (bss.take k) m ++ [b] := by
  unfold alikeL; rw [take_snoc hb, List.filter_append]; simp [h]
theorem alikeL_drop {bss : List (List UInt8)} {m k : Nat} {b : List UInt8} (hb : bss[k]? = some b) (h : goodA m b = false) : alikeL (bss.take (k + 1)) m = alikeL (bss.take k) m := by
  unfold alikeL; rw [take_snoc hb, List.filter_append]; simp [h]
theorem alikeL_le (bss : List (List UInt8)) (m k : Nat) : (alikeL (bss.take k) m).length ≤ k :=
  Nat.le_trans (List.length_filter_le _ _) (by rw [List.length_take]; omega)
theorem alikeL_mem {bss : List (List UInt8)} {m : Nat} {b : List UInt8} (h : b ∈ alikeL bss m) : b.length = m ∧ (m = 4 ∨ m = 16) ∧ mapd b = false := by
  unfold alikeL goodA at h
  simp at h
  exact ⟨h.2.1.1, h.2.1.2, h.2.2⟩
theorem goodA_no1 {m : Nat} {b : List UInt8} (h : b.length ≠ m) : goodA m b = false := by unfold goodA; simp [h]
theorem goodA_no2 {m : Nat} {b : List UInt8} (h : ¬ (m = 4 ∨ m = 16)) : goodA m b = false := by unfold goodA; simp [h]
theorem goodA_no3 {m : Nat} {b : List UInt8} (h : mapd b = true) : goodA m b = false := by unfold goodA; simp [h]
theorem goodA_yes {m : Nat} {b : List UInt8} (h1 : b.length = m) (h2 : m = 4 ∨ m = 16) (h3 : mapd b = false) : goodA m b = true := by unfold goodA; simp [h1, h2, h3]

theorem inNet_same {xs ms b : List UInt8} (h : inNet xs ms b = true) : inNet b ms = inNet xs ms := by
  funext y
  unfold inNet at *
  rw [eqL_iff.1 h]
theorem inNet_refl (xs ms : List UInt8) : inNet xs ms xs = true := by unfold inNet; exact eqL_iff.2 rfl
theorem inNet_symm (xs ms b : List UInt8) : inNet xs ms b = inNet b ms xs := by
  unfold inNet eqL
  rw [Bool.eq_iff_iff, decide_eq_true_iff, decide_eq_true_iff]
  exact eq_comm
theorem alikeL_one (b : List UInt8) (m : Nat) : alikeL [b] m = if goodA m b then [b] else [] := by
  unfold alikeL; simp [List.filter_cons]

theorem inNet_rows {al : List (List UInt8)} {ms a b : List UInt8} (hb : b ∈ al) : eqL (al.map (inNet a ms)) (al.map (inNet b ms)) = inNet a ms b := by
  cases h : inNet a ms b with
  | true => rw [inNet_same h]; exact eqL_iff.2 rfl
  | false =>
    unfold eqL
    rw [decide_eq_false_iff_not]
    intro e
    have := List.map_inj_left.1 e b hb
    rw [h, inNet_refl] at this
    cases this
end Go.Proofs.YtmfcgglgolajnaaDoor
/-
  Numbers in decimal digits; dotted decimal and how it is read. No program is named here.
-/
namespace Go.Proofs.YtmfcgglgolajnaaDoor

/-- A digit. -/
def isDig (c : UInt8) : Bool := decide (48 ≤ c.toNat) && decide (c.toNat ≤ 57)
/-- A number in decimal digits. -/
def decL (n : Nat) : List UInt8 := if h : n < 10 then [UInt8.ofNat (48 + n)] else decL (n / 10) ++ [UInt8.ofNat (48 + n % 10)]
termination_by n
decreasing_by omega
theorem decL_small {n : Nat} (h : n < 10) : decL n = [UInt8.ofNat (48 + n)] := by rw [decL, dif_pos h]
theorem decL_big {n : Nat} (h : ¬ n < 10) : decL n = decL (n / 10) ++ [UInt8.ofNat (48 + n % 10)] := by rw [decL, dif_neg h]
theorem decL_ne (n : Nat) : decL n ≠ [] := by
  by_cases h : n < 10
  · rw [decL_small h]; simp
  · rw [decL_big h]; simp
theorem dig_toNat {d : Nat} (h : d < 10) : (UInt8.ofNat (48 + d)).toNat = 48 + d := by rw [UInt8.toNat_ofNat']; omega
theorem dig_is {d : Nat} (h : d < 10) : isDig (UInt8.ofNat (48 + d)) = true := by unfold isDig; rw [dig_toNat h]; simp; omega
theorem decL_digs (n : Nat) : ∀ c ∈ decL n, isDig c = true := by
  induction n using Nat.strongRecOn with
  | ind n ih =>
    intro c hc
    by_cases h : n < 10
    · rw [decL_small h, List.mem_singleton] at hc; subst hc; exact dig_is h
    · rw [decL_big h] at hc
      rcases List.mem_append.1 hc with hc | hc
      · exact ih (n / 10) (by omega) c hc
      · rw [List.mem_singleton] at hc; subst hc; exact dig_is (Nat.mod_lt _ (by omega))
theorem decL_length_le {n k : Nat} (h : n < 10 ^ (k + 1)) : (decL n).length ≤ k + 1 := by
  induction k generalizing n with
  | zero => rw [decL_small (by simpa using h)]; simp
  | succ k ih =>
    by_cases h1 : n < 10
    · rw [decL_small h1]; simp
    · rw [decL_big h1, List.length_append]
      have := ih (n := n / 10) (by rw [Nat.div_lt_iff_lt_mul (by omega)]; rw [Nat.pow_succ] at h; exact h)
      simp; omega

/-- Dotted decimal: the value and the digits of the number at hand, the numbers before. -/
def v4go : List UInt8 → Nat → Nat → List UInt8 → Option (List UInt8)
  | [], val, _, done => if done.length < 3 then none else some (done ++ [UInt8.ofNat val])
  | c :: cs, val, dl, done =>
    if isDig c then (if dl = 1 ∧ val = 0 then none else if 255 < val * 10 + (c.toNat - 48) then none else v4go cs (val * 10 + (c.toNat - 48)) (dl + 1) done)
    else if c = 46 then (if dl = 0 ∨ cs = [] then none else if done.length = 3 then none else v4go cs 0 0 (done ++ [UInt8.ofNat val]))
    else none

theorem v4go_dec (n : Nat) : ∀ (r done : List UInt8), v4go (decL n ++ r) 0 0 done = if n ≤ 255 then v4go r n (decL n).length done else none := by
  induction n using Nat.strongRecOn with
  | ind n ih =>
    intro r done
    by_cases h : n < 10
    · rw [decL_small h, if_pos (by omega)]
      simp only [List.cons_append, List.nil_append, List.length_cons, List.length_nil, v4go]
      rw [if_pos (dig_is h), if_neg (by omega), dig_toNat h, if_neg (by omega)]
      rw [show 0 * 10 + (48 + n - 48) = n by omega]
    · rw [decL_big h, List.append_assoc, ih (n / 10) (by omega)]
      by_cases h2 : n / 10 ≤ 255
      · have hd : n % 10 < 10 := Nat.mod_lt _ (by omega)
        rw [if_pos h2]
        simp only [List.cons_append, List.nil_append, v4go]
        rw [if_pos (dig_is hd), if_neg (by omega), dig_toNat hd, show n / 10 * 10 + (48 + n % 10 - 48) = n by omega]
        by_cases h3 : n ≤ 255
        · rw [if_neg (by omega), if_pos h3, List.length_append]; rfl
        · rw [if_pos (by omega), if_neg h3]
      · rw [if_neg h2, if_neg (by omega)]

/-- Texts with a full stop between them. -/
def joinL (b : List UInt8) : List (List UInt8) → List UInt8
  | [] => []
  | [s] => s
  | s :: t :: l => s ++ b ++ joinL b (t :: l)
theorem joinL_snoc (b : List UInt8) : ∀ (l : List (List UInt8)) (s : List UInt8), joinL b (l ++ [s]) = if l = [] then s else joinL b l ++ b ++ s
  | [], s => rfl
  | [x], s => rfl
  | x :: y :: l, s => by
    have := joinL_snoc b (y :: l) s
    rw [if_neg (by simp)] at this
    simp only [List.cons_append] at this ⊢
    rw [joinL, this, if_neg (by simp), joinL]
    simp [List.append_assoc]
def dotsL (ns : List UInt8) : List UInt8 := joinL [46] (ns.map fun n => decL n.toNat)
theorem dotsL_ne {ns : List UInt8} (h : ns ≠ []) : dotsL ns ≠ [] := by
  match ns, h with
  | [n], _ => exact decL_ne _
  | n :: m :: ns, _ => unfold dotsL; simp [joinL]
theorem dot_notdig : isDig 46 = false := by decide
theorem v4go_dots : ∀ (ns done : List UInt8), ns ≠ [] → done.length ≤ 3 → v4go (dotsL ns) 0 0 done = if done.length + ns.length = 4 then some (done ++ ns) else none
  | [], _, h, _ => absurd rfl h
  | [n], done, _, hd => by
    have hlt := n.toNat_lt
    have := v4go_dec n.toNat [] done
    rw [List.append_nil, if_pos (by omega)] at this
    show v4go (decL n.toNat) 0 0 done = _
    rw [this, v4go]
    by_cases h : done.length < 3
    · rw [if_pos h, if_neg (by simp; omega)]
    · rw [if_neg h, if_pos (by simp; omega), UInt8.ofNat_toNat]
  | n :: m :: ns, done, _, hd => by
    have hlt := n.toNat_lt
    have e : dotsL (n :: m :: ns) = decL n.toNat ++ (46 :: dotsL (m :: ns)) := by unfold dotsL; simp [joinL]
    have hl : (decL n.toNat).length ≠ 0 := fun h => decL_ne n.toNat (List.eq_nil_of_length_eq_zero h)
    rw [e, v4go_dec, if_pos (by omega), v4go, if_neg (by rw [dot_notdig]; simp), if_pos rfl, if_neg (by
      intro h
      rcases h with h | h
      · exact hl h
      · exact dotsL_ne (by simp) h)]
    by_cases h3 : done.length = 3
    · rw [if_pos h3, if_neg (by simp; omega)]
    · rw [if_neg h3, v4go_dots (m :: ns) _ (by simp) (by simp; omega), UInt8.ofNat_toNat]
      simp only [List.length_append, List.length_cons, List.length_nil, List.append_assoc, List.cons_append, List.nil_append]
      by_cases h4 : done.length + 1 + (ns.length + 1) = 4
      · rw [if_pos (by omega), if_pos (by omega)]
      · rw [if_neg (by omega), if_neg (by omega)]

/-- Zeros ahead of a number. -/
def zerosAhead (m n : Nat) : List UInt8 := List.replicate m 48 ++ decL n
theorem dec_head (n : Nat) : ∃ c l, decL n = c :: l ∧ isDig c = true := by
  cases h : decL n with
  | nil => exact absurd h (decL_ne n)
  | cons c l => exact ⟨c, l, rfl, decL_digs n c (by rw [h]; simp)⟩
theorem v4go_zeros {m : Nat} (hm : 0 < m) (n : Nat) (r done : List UInt8) : v4go (zerosAhead m n ++ r) 0 0 done = none := by
  obtain ⟨c, l, hc, hd⟩ := dec_head n
  have h0 : isDig 48 = true := by decide
  have key : ∀ (x : UInt8) (l : List UInt8), isDig x = true → v4go (48 :: x :: l) 0 0 done = none := by
    intro x l hx
    simp only [v4go]
    rw [if_pos h0, if_neg (by omega), if_neg (by decide), if_pos hx, if_pos (by decide)]
  unfold zerosAhead
  match m, hm with
  | 1, _ => rw [hc]; exact key c _ hd
  | k + 2, _ => exact key 48 _ h0

/-- The first full stop, colon or percent sign. -/
def isSpec (c : UInt8) : Bool := decide (c = 46) || (decide (c = 58) || decide (c = 37))
def scanL (s : List UInt8) : Option UInt8 := s.find? isSpec
theorem dig_notspec {c : UInt8} (h : isDig c = true) : isSpec c = false := by
  have key : ∀ x : Fin 256, isDig (UInt8.ofNat x.val) = true → isSpec (UInt8.ofNat x.val) = false := by decide +kernel
  have := key ⟨c.toNat, c.toNat_lt⟩
  simp only [UInt8.ofNat_toNat] at this
  exact this h
theorem scan_digs {s : List UInt8} (h : ∀ c ∈ s, isDig c = true) (r : List UInt8) : scanL (s ++ r) = scanL r := by
  unfold scanL
  rw [List.find?_append, List.find?_eq_none.2 (fun c hc => by rw [dig_notspec (h c hc)]; simp)]
  rfl
theorem scan_dot (r : List UInt8) : scanL (46 :: r) = some 46 := rfl
theorem scan_nil : scanL [] = none := rfl
end Go.Proofs.YtmfcgglgolajnaaDoor
/-
  Plain lemmas, more: networks with joined masks; loops that write into a row. No program is named here.
-/
namespace Go.Proofs.YtmfcgglgolajnaaDoor
open Go.RowKit

theorem u8_ext {x y : UInt8} (h : ∀ i, i < 8 → x.toBitVec.getLsbD i = y.toBitVec.getLsbD i) : x = y := by
  apply UInt8.toBitVec_inj.1
  exact BitVec.eq_of_getLsbD_eq fun i hi => h i hi

theorem and_or_iff (x y m r : UInt8) : x &&& (m ||| r) = y &&& (m ||| r) ↔ x &&& m = y &&& m ∧ x &&& r = y &&& r := by
  constructor
  · intro h
    have hb : ∀ i, (x.toBitVec.getLsbD i && (m.toBitVec.getLsbD i || r.toBitVec.getLsbD i)) = (y.toBitVec.getLsbD i && (m.toBitVec.getLsbD i || r.toBitVec.getLsbD i)) := by
      intro i
      have := congrArg (fun z : UInt8 => z.toBitVec.getLsbD i) h
      simpa using this
    constructor
    all_goals
      apply u8_ext
      intro i _
      have h1 := hb i
      simp only [UInt8.toBitVec_and, BitVec.getLsbD_and]
      cases hx : x.toBitVec.getLsbD i <;> cases hy : y.toBitVec.getLsbD i <;> cases hm : m.toBitVec.getLsbD i <;> cases hr : r.toBitVec.getLsbD i <;> simp_all
  · rintro ⟨h1, h2⟩
    apply u8_ext
    intro i _
    have e1 := congrArg (fun z : UInt8 => z.toBitVec.getLsbD i) h1
    have e2 := congrArg (fun z : UInt8 => z.toBitVec.getLsbD i) h2
    simp only [UInt8.toBitVec_and, BitVec.getLsbD_and] at e1 e2
    simp only [UInt8.toBitVec_and, UInt8.toBitVec_or, BitVec.getLsbD_and, BitVec.getLsbD_or]
    cases hx : x.toBitVec.getLsbD i <;> cases hy : y.toBitVec.getLsbD i <;> cases hm : m.toBitVec.getLsbD i <;> cases hr : r.toBitVec.getLsbD i <;> simp_all

theorem inNet_iff {a m b : List UInt8} (ha : a.length = m.length) (hb : b.length = m.length) : inNet a m b = true ↔ ∀ (i : Nat) (x y z : UInt8), a[i]? = some x → m[i]? = some y → b[i]? = some z → x &&& y = z &&& y := by
  unfold inNet
  rw [eqL_iff]
  constructor
  · intro h i x y z hx hy hz
    have := congrArg (fun l => l[i]?) h
    simp only [List.getElem?_zipWith, hx, hy, hz] at this
    simpa using this
  · intro h
    apply List.ext_getElem?
    intro i
    simp only [List.getElem?_zipWith]
    by_cases hi : i < m.length
    · rw [List.getElem?_eq_getElem hi, List.getElem?_eq_getElem (show i < a.length by omega), List.getElem?_eq_getElem (show i < b.length by omega)]
      simp only [Option.some.injEq]
      exact h i _ _ _ (List.getElem?_eq_getElem (by omega)) (List.getElem?_eq_getElem hi) (List.getElem?_eq_getElem (by omega))
    · rw [List.getElem?_eq_none (show m.length ≤ i by omega), List.getElem?_eq_none (show a.length ≤ i by omega), List.getElem?_eq_none (show b.length ≤ i by omega)]

theorem inNet_or {a m r b : List UInt8} (ha : a.length = m.length) (hb : b.length = m.length) (hr : r.length = m.length) : inNet a (List.zipWith (· ||| ·) m r) b = (inNet a m b && inNet a r b) := by
  rw [Bool.eq_iff_iff, Bool.and_eq_true, inNet_iff (by simp; omega) (by simp; omega), inNet_iff ha hb, inNet_iff (by omega) (by omega)]
  constructor
  · intro h
    constructor
    · intro i x y z hx hy hz
      have hi : i < m.length := (List.getElem?_eq_some_iff.1 hy).1
      exact ((and_or_iff x z y _).1 (h i x _ z hx (zip_at hy (List.getElem?_eq_getElem (show i < r.length by omega))) hz)).1
    · intro i x y z hx hy hz
      have hi : i < r.length := (List.getElem?_eq_some_iff.1 hy).1
      exact ((and_or_iff x z _ y).1 (h i x _ z hx (zip_at (List.getElem?_eq_getElem (show i < m.length by omega)) hy) hz)).2
  · rintro ⟨h1, h2⟩ i x y z hx hy hz
    have hi : i < m.length := by
      have := (List.getElem?_eq_some_iff.1 hx).1; omega
    rw [zip_at (List.getElem?_eq_getElem hi) (List.getElem?_eq_getElem (show i < r.length by omega))] at hy
    injection hy with hy
    rw [← hy]
    exact (and_or_iff x z _ _).2 ⟨h1 i x _ z hx (List.getElem?_eq_getElem hi) hz, h2 i x _ z hx (List.getElem?_eq_getElem (by omega)) hz⟩

theorem inNet_zeros {a b : List UInt8} {n : Nat} (ha : a.length = n) (hb : b.length = n) : inNet a (List.replicate n 0) b = true := by
  rw [inNet_iff (by simp [ha]) (by simp [hb])]
  intro i x y z _ hy _
  have : y = 0 := by
    rw [List.getElem?_replicate] at hy
    split at hy
    · injection hy with hy; exact hy.symm
    · cases hy
  subst this
  simp

/-! ### A row that is written place by place -/
/-- The first k places done. -/
def joinTo {α β : Type} (f : α → β → α) (xs : List α) (ys : List β) (k : Nat) : List α := (List.zipWith f xs ys).take k ++ xs.drop k
theorem joinTo_zero {α β : Type} (f : α → β → α) (xs : List α) (ys : List β) : joinTo f xs ys 0 = xs := by simp [joinTo]
theorem joinTo_end {α β : Type} {f : α → β → α} {xs : List α} {ys : List β} (h : xs.length = ys.length) : joinTo f xs ys xs.length = List.zipWith f xs ys := by
  unfold joinTo
  rw [List.drop_length, List.append_nil, List.take_of_length_le (by rw [List.length_zipWith]; omega)]
theorem joinTo_length {α β : Type} {f : α → β → α} {xs : List α} {ys : List β} {k : Nat} (h : xs.length = ys.length) (hk : k ≤ xs.length) : (joinTo f xs ys k).length = xs.length := by
  unfold joinTo; simp; omega
theorem joinTo_at {α β : Type} {f : α → β → α} {xs : List α} {ys : List β} {k : Nat} (h : xs.length = ys.length) (hk : k < xs.length) : (joinTo f xs ys k)[k]? = xs[k]? := by
  unfold joinTo
  have hl : ((List.zipWith f xs ys).take k).length = k := by simp; omega
  rw [List.getElem?_append_right (by omega), hl, List.getElem?_drop]
  congr 1; omega
theorem joinTo_set {α β : Type} {f : α → β → α} {xs : List α} {ys : List β} {k : Nat} {x : α} {y : β} (h : xs.length = ys.length) (hx : xs[k]? = some x) (hy : ys[k]? = some y) : (joinTo f xs ys k).set k (f x y) = joinTo f xs ys (k + 1) := by
  have hk : k < xs.length := (List.getElem?_eq_some_iff.1 hx).1
  unfold joinTo
  have hl : ((List.zipWith f xs ys).take k).length = k := by simp; omega
  have hz : (List.zipWith f xs ys)[k]? = some (f x y) := by rw [List.getElem?_zipWith, hx, hy]
  rw [List.set_append, if_neg (by omega), hl, Nat.sub_self, take_snoc hz, List.append_assoc]
  congr 1
  have : xs.drop k = x :: xs.drop (k + 1) := by
    rw [List.drop_eq_getElem_cons hk]
    congr 1
    rw [List.getElem?_eq_getElem hk] at hx
    injection hx
  rw [this]
  rfl
end Go.Proofs.YtmfcgglgolajnaaDoor
/-
  A block of the call's own that is known whole; 'make'. No program is named here.
-/
namespace Go.Proofs.YtmfcgglgolajnaaDoor
open Go.RowKit

/-- Block g is just the cells xs, none of them frozen. -/
def Blk (w : World) (g : Nat) (t : TypeId) (xs : List Value) : Prop := w.heap[g]? = some (.cells xs.toArray t (0, 0))

section
variable {w w' : World} {g : Nat} {t : TypeId} {xs : List Value} {av : Nat → Prop}
theorem Blk.lt (h : Blk w g t xs) : g < w.heap.size := block_lt h
theorem Blk.cell (h : Blk w g t xs) (i : Nat) : w.cell? ⟨g, i, none⟩ = xs[i]? := by rw [cell_of_row w g i _ t (0, 0) h]; simp
theorem Blk.frozen (h : Blk w g t xs) (i : Nat) : w.frozen? ⟨g, i, none⟩ = false := by
  unfold Blk at h
  simp [World.frozen?, h]
theorem Blk.new (w : World) (t : TypeId) (xs : List Value) : Blk (w.alloc (.cells xs.toArray t)) w.heap.size t xs := heap_alloc_new w _
theorem Blk.drew (h : Blk w g t xs) : Blk w.drew g t xs := h
theorem Blk.drewN (h : Blk w g t xs) (n : Nat) : Blk (w.drewN n) g t xs := h
theorem Blk.alloc (h : Blk w g t xs) (o : Obj) : Blk (w.alloc o) g t xs := (Below.heap_alloc w o g h.lt).trans h
theorem Blk.set_ (h : Blk w g t xs) (i : Nat) (u : Value) : Blk (w.setCell ⟨g, i, none⟩ u) g t (xs.set i u) := by
  unfold Blk at h ⊢
  simp [World.setCell, Array.getElem?_modify, h]
theorem Blk.far (h : Blk w g t xs) {p : Addr} (hp : g ≠ p.block) (u : Value) : Blk (w.setCell p u) g t xs := (Below.heap_setCell w p u g hp).trans h
theorem Blk.below (h : Blk w g t xs) (hb : Below w.heap.size w w') : Blk w' g t xs := (hb.block g h.lt).trans h
theorem Blk.keep (h : Blk w g t xs) (hk : Kept av w w') (hg : ¬ av g) : Blk w' g t xs := (hk.2 g h.lt hg).trans h
theorem Blk.rd (h : Blk w g t xs) (hg : ¬ av g) : Rd w av (some ⟨g, 0, none⟩) xs.length xs :=
  ⟨rfl, fun _ => ⟨g, 0, rfl, h.lt, hg, fun j u hu => by rw [Nat.zero_add, h.cell, hu]⟩⟩
end

theorem Blk.rb {w : World} {g n c : Nat} {t : TypeId} {bs : List UInt8} {av : Nat → Prop} (h : Blk w g t (bs.map fun b => .int .u8 (b.toNat : Int))) (hg : ¬ av g) (hn : bs.length = n) (hc : n ≤ c) (hm : c ≤ maxLen) : RB w av (some ⟨g, 0, none⟩) n c bs :=
  ⟨hn, hc, hm, by have := h.rd (av := av) hg; rw [List.length_map, hn] at this; exact this⟩
theorem Blk.rl {w : World} {g n c : Nat} {t : TypeId} {ys : List Bool} {av : Nat → Prop} (h : Blk w g t (ys.map Value.bool)) (hg : ¬ av g) (hn : ys.length = n) (hc : n ≤ c) (hm : c ≤ maxLen) : RL w av (some ⟨g, 0, none⟩) n c ys :=
  ⟨hn, hc, hm, by have := h.rd (av := av) hg; rw [List.length_map, hn] at this; exact this⟩
theorem Blk.ri {w : World} {g n c : Nat} {t : TypeId} {zs : List Int} {av : Nat → Prop} (h : Blk w g t (zs.map (Value.int .i64))) (hg : ¬ av g) (hn : zs.length = n) (hc : n ≤ c) (hm : c ≤ maxLen) : RI w av (some ⟨g, 0, none⟩) n c zs :=
  ⟨hn, hc, hm, by have := h.rd (av := av) hg; rw [List.length_map, hn] at this; exact this⟩

/-- n times the same. -/
def timesOf (n : Nat) (z : Value) : List Value := List.replicate n z

theorem run_make1 {P : Program} (t e : TypeId) (i : TypeInfo) (z : Value) (ht : P.underlying t = some (.slice e)) (hi : P.info? e = some i) (hz : i.zero = some z) (hs : i.size = 1) (hzc : z.cells = #[z])
    (n : Nat) (hbytes : i.bytes * n ≤ 281474976710656) (h63 : n ≤ 9223372036854775807) (w : World) :
    (Instr.makeSlice t (.int .i64 (n : Int)) (.int .i64 (n : Int))).run P w = .ok (.slice (some ⟨w.heap.size, 0, none⟩) n n) (w.alloc (.cells (timesOf n z).toArray e)) := by
  have hb : (i.bytes : Int) * (n : Int) ≤ 281474976710656 := by
    have h : ((i.bytes * n : Nat) : Int) ≤ 281474976710656 := by omega
    rwa [Int.natCast_mul] at h
  have hr := run_make (P := P) w t e i z ht hi hz .i64 .i64 n n (by omega) (by omega) hb (by omega)
  simp only [Int.toNat_natCast, hs, Nat.mul_one, hzc] at hr
  have e1 : madeCells #[z] n = (timesOf n z).toArray := by
    apply Array.toList_inj.1
    rw [toList_madeCells_one]
    rfl
  rw [e1] at hr
  exact hr
end Go.Proofs.YtmfcgglgolajnaaDoor
/-
  What calls give back: slices of bytes in new memory.
-/
namespace Go.Proofs.YtmfcgglgolajnaaDoor
open Go.RowKit

/-- A slice of bytes comes back, in new memory; nothing that was there has turned. -/
def RetBF (w : World) (bs : List UInt8) (e : Ending) (w' : World) : Prop := ∃ A c, e = .returned (.slice A bs.length c) ∧ RB w' (fun g => g < w.heap.size) A bs.length c bs ∧ Below w.heap.size w w'
end Go.Proofs.YtmfcgglgolajnaaDoor
/-
  Words for slices of strings; 'string(b)'. No program is named here.
-/
namespace Go.Proofs.YtmfcgglgolajnaaDoor
open Go.RowKit

/-- A string of these bytes. -/
def sv (s : List UInt8) : Value := .string ⟨s.toArray⟩

/-- The slice (A, n, c) reads as the strings ss. -/
def RS (w : World) (av : Nat → Prop) (A : Option Addr) (n c : Nat) (ss : List (List UInt8)) : Prop :=
  ss.length = n ∧ n ≤ c ∧ c ≤ maxLen ∧ Rd w av A n (ss.map sv)

section
variable {w w' : World} {av : Nat → Prop} {A : Option Addr} {n c k : Nat} {ss : List (List UInt8)}
theorem RS.len (h : RS w av A n c ss) : ss.length = n := h.1
theorem RS.cap (h : RS w av A n c ss) : n ≤ c := h.2.1
theorem RS.max (h : RS w av A n c ss) : c ≤ maxLen := h.2.2.1
theorem RS.keep (h : RS w av A n c ss) (hk : Kept av w w') : RS w' av A n c ss := ⟨h.1, h.2.1, h.2.2.1, h.2.2.2.keep hk⟩
theorem RS.below (h : RS w av A n c ss) (hk : Below w.heap.size w w') : RS w' av A n c ss := h.keep (Kept.of_below hk av)
theorem RS.drewN (h : RS w av A n c ss) (m : Nat) : RS (w.drewN m) av A n c ss := h.keep (Kept.drewN av w m)
theorem RS.alloc (h : RS w av A n c ss) (o : Obj) : RS (w.alloc o) av A n c ss := h.keep (Kept.alloc av w o)
theorem RS.sub (h : RS w av A n c ss) {av' : Nat → Prop} (hs : ∀ g, g < w.heap.size → av' g → av g) : RS w av' A n c ss := ⟨h.1, h.2.1, h.2.2.1, h.2.2.2.sub hs⟩
theorem RS.free (h : RS w av A n c ss) : RS w no A n c ss := ⟨h.1, h.2.1, h.2.2.1, h.2.2.2.free⟩
theorem RS.nil : RS w av none 0 0 [] := ⟨rfl, Nat.le_refl _, Nat.zero_le _, Rd.nil _⟩
theorem RS.at_ (h : RS w av A n c ss) (hk : k < n) : ∃ g o s, A = some ⟨g, o, none⟩ ∧ ss[k]? = some s ∧ w.cell? ⟨g, o + k, none⟩ = some (.string ⟨s.toArray⟩) := by
  obtain ⟨g, o, u, e, hu, hc⟩ := h.2.2.2.at_ hk
  rw [List.getElem?_map] at hu
  cases hx : ss[k]? with
  | none => rw [hx] at hu; cases hu
  | some x => rw [hx] at hu; injection hu with hu; subst hu; exact ⟨g, o, x, e, rfl, hc⟩
theorem RS.of_own_av {base : Nat} {e : TypeId} {v : Value} (h : w.ownsRow base e 1 v n (ss.map sv)) (hav : ∀ g, av g → g < base) : ∃ A c, v = .slice A n c ∧ RS w av A n c ss := by
  obtain ⟨A, c, e1, h1, h2, h3⟩ := Rd.of_own h
  refine ⟨A, c, e1, by have := h3.1; simpa using this, h1, h2, h3.1, fun hn => ?_⟩
  obtain ⟨g, o, e2, hg, _, hc⟩ := h3.2 hn
  refine ⟨g, o, e2, hg, fun hh => ?_, hc⟩
  have := (h.lt g (by rw [e1, e2]; rfl)).1
  have := hav g hh
  omega
end

/-- A slice of strings comes back, in new memory. -/
def RetSF (w : World) (ss : List (List UInt8)) (e : Ending) (w' : World) : Prop := ∃ A c, e = .returned (.slice A ss.length c) ∧ RS w' (fun g => g < w.heap.size) A ss.length c ss ∧ Below w.heap.size w w'

/-- 'string(b)'. -/
theorem run_string_rb {P : Program} {w : World} {av : Nat → Prop} {A : Option Addr} {n c : Nat} {bs : List UInt8} (src dst e : TypeId) (hs : P.underlying src = some (.slice e)) (he : P.underlying e = some (.int .u8)) (hd : P.underlying dst = some .string) (h : RB w av A n c bs) :
    (convert src dst (.slice A n c)).run P w = .ok (.string ⟨bs.toArray⟩) w := by
  have hl := h.len
  subst hl
  cases A with
  | none =>
    have h0 : bs = [] := by
      cases bs with
      | nil => rfl
      | cons x r => obtain ⟨g, o, e, _⟩ := h.2.2.2.2 (by simp); cases e
    subst h0
    exact run_convert_bytes_nil w src e hs he 0 c dst hd
  | some a =>
    refine run_convert_bytes_back w src dst e a c bs hs he hd (fun j hj => ?_)
    obtain ⟨g, o, x, hA, hx, hc⟩ := h.at_ (k := j) hj
    injection hA with hA
    subst hA
    rw [add_at, hc]
    rw [List.getElem?_eq_getElem hj] at hx
    injection hx with hx
    rw [hx]
end Go.Proofs.YtmfcgglgolajnaaDoor
/-
  Arguments that came in, opened: slices of bytes, slices of slices of bytes. No program is named here.
-/
namespace Go.Proofs.YtmfcgglgolajnaaDoor
open Go.ChangeShapes Go.WideShapes Go.ChangeAt Go.RowKit Go.Deep

section
variable {H : Type} {enc : TypeId × Value → H} {P : Program} {w : World}

theorem weights_of {ts : List TypeId} {ds : List (DataW H)} (h : (DataW.weightsEach P ts ds).all (· ≤ reachBytes) = true) {j : Nat} {t : TypeId} {d : DataW H} (ht : ts[j]? = some t) (hd : ds[j]? = some d) : ∀ n ∈ d.weights P t, n ≤ reachBytes := by
  intro n hn
  have := List.all_eq_true.1 h _ (DataW.weights_mem_each ht hd n hn)
  simpa using this

/-- A row of numbers that fit a byte. -/
theorem bytes_row {a : Addr} {len cap : Nat} {zs : List Int} (hl : len ≤ cap) (hm : cap ≤ maxLen) (hz : zs.length = cap) (hc : ∀ i, i < zs.length → w.cell? (a.add i) = some (.int .u8 (zs.getD i 0))) (hw : ∀ n ∈ zs, (Lit.int .u8 n).wf = true) :
    RB w no (some a) len cap ((zs.take len).map fun z => UInt8.ofNat z.toNat) := by
  refine ⟨by rw [List.length_map, List.length_take]; omega, hl, hm, by rw [List.length_map, List.length_map, List.length_take]; omega, fun h0 => ?_⟩
  obtain ⟨b, off, spot⟩ := a
  have h1 := hc 0 (by omega)
  have hs : spot = none := by simpa [Addr.add] using World.cell?_spot h1
  subst hs
  have hlt : b < w.heap.size := by simpa [Addr.add] using World.block_lt_of_cell? w _ h1
  refine ⟨b, off, rfl, hlt, fun h => h, fun j u hu => ?_⟩
  have hj : j < len := by
    have := (List.getElem?_eq_some_iff.1 hu).1
    simp at this; omega
  have hjz : j < zs.length := by omega
  have h2 := hc j hjz
  have e : ((⟨b, off, none⟩ : Addr).add j) = ⟨b, off + j, none⟩ := by
    unfold Addr.add; split
    · rename_i h; subst h; rfl
    · rfl
  rw [e] at h2
  rw [h2]
  simp only [List.getElem?_map, List.getElem?_take, if_pos hj, List.getElem?_eq_getElem hjz, Option.map_some, Option.some.injEq] at hu
  rw [← hu]
  have hb := bounds_u8 (hw zs[j] (List.getElem_mem hjz))
  simp only [List.getD, List.getElem?_eq_getElem hjz, Option.getD_some, UInt8.toNat_ofNat']
  congr 2
  omega

theorem open_bytes {T E : TypeId} (hT : P.underlying T = some (.slice E)) (hE : P.underlying E = some (.int .u8)) (hc : P.cellsOf E = 1) (hby : P.bytesOf E = 1) {a : Option Addr} {len cap : Nat} {d : DataW H} {p : List MemPlace}
    (h : DataW.Trod enc P w 0 (fun _ => true) true T (.slice a len cap) d p) (hwt : ∀ n ∈ d.weights P T, n ≤ reachBytes) : ∃ bs : List UInt8, RB w no a len cap bs ∧ cap ≤ 140737488351232 := by
  obtain ⟨fuel, hf⟩ := h
  rcases open_ints hT hE hc hf with ⟨hcs, _⟩ | ⟨x, l, c, zs, hcs, _, hl, hm, hz, hx, hcell, hwz⟩
  · simp [Value.cells] at hcs
    obtain ⟨rfl, rfl, rfl⟩ := hcs
    exact ⟨[], RB.nil, Nat.zero_le _⟩
  · simp [Value.cells] at hcs
    obtain ⟨rfl, rfl, rfl⟩ := hcs
    simp only [if_true] at hz
    refine ⟨_, bytes_row hl hm hz hcell hwz, ?_⟩
    have hd : d = .slice (lits .u8 (zs.take len)) (lits .u8 (zs.drop len)) := by injection hx
    subst hd
    have := hwt ((lits (H := H) .u8 (zs.take len)).length + (lits (H := H) .u8 (zs.drop len)).length |> (· * P.bytesOf E)) (by simp [DataW.weights, hT])
    rw [hby] at this
    simp only [lits, List.length_map, List.length_take, List.length_drop, reachBytes] at this
    omega

theorem mem_weightsAll {e : TypeId} {d : DataW H} {n : Nat} : ∀ {l : List (DataW H)}, d ∈ l → n ∈ d.weights P e → n ∈ DataW.weightsAll P e l
  | x :: r, hd, hn => by
    simp only [DataW.weightsAll, List.mem_append]
    rcases List.mem_cons.1 hd with rfl | hd
    · exact Or.inl hn
    · exact Or.inr (mem_weightsAll hd hn)

/-- The rows that 'open_int_rows' gives, as slices of bytes. -/
theorem rows_of {x : Addr} {len cap : Nat} {A : Nat → Option Addr} {L C : Nat → Nat} {Z : Nat → List Int} (hl : len ≤ cap) (hm : cap ≤ maxLen)
    (hrow : ∀ r, r < cap → w.cell? (x.add r) = some (.slice (A r) (L r) (C r)) ∧ L r ≤ C r ∧ C r ≤ maxLen ∧ (Z r).length = C r ∧ (∀ n ∈ Z r, (Lit.int .u8 n).wf = true) ∧ (A r = none → C r = 0) ∧
        ∀ a', A r = some a' → 0 ≤ a'.block ∧ ∀ c, c < C r → w.cell? (a'.add c) = some (.int .u8 ((Z r).getD c 0))) :
    RBB w no (some x) len cap ((List.range len).map fun r => ((Z r).take (L r)).map fun z => UInt8.ofNat z.toNat) := by
  have each : ∀ r, r < cap → RB w no (A r) (L r) (C r) (((Z r).take (L r)).map fun z => UInt8.ofNat z.toNat) := by
    intro r hr
    obtain ⟨_, h1, h2, h3, h4, h5, h6⟩ := hrow r hr
    cases hA : A r with
    | none =>
      have hC := h5 hA
      have hL : L r = 0 := by omega
      rw [hL, hC]
      exact RB.nil
    | some a' => exact bytes_row h1 h2 h3 (fun i hi => (h6 a' hA).2 i (by omega)) h4
  refine ⟨by simp, hl, hm, (List.range len).map fun r => .slice (A r) (L r) (C r), ⟨by simp, fun h0 => ?_⟩, by simp, fun j bs hj => ?_⟩
  · obtain ⟨b, off, spot⟩ := x
    have h1 := (hrow 0 (by omega)).1
    have hs : spot = none := by simpa [Addr.add] using World.cell?_spot h1
    subst hs
    have hlt : b < w.heap.size := by simpa [Addr.add] using World.block_lt_of_cell? w _ h1
    refine ⟨b, off, rfl, hlt, fun h => h, fun j u hu => ?_⟩
    have hj : j < len := by
      have := (List.getElem?_eq_some_iff.1 hu).1
      simpa using this
    have h2 := (hrow j (by omega)).1
    have e : ((⟨b, off, none⟩ : Addr).add j) = ⟨b, off + j, none⟩ := by
      unfold Addr.add; split
      · rename_i h; subst h; rfl
      · rfl
    rw [e] at h2
    rw [h2]
    simpa [List.getElem?_map, List.getElem?_range hj] using hu
  · have hj' : j < len := by
      have := (List.getElem?_eq_some_iff.1 hj).1
      simpa using this
    simp only [List.getElem?_map, List.getElem?_range hj', Option.map_some, Option.some.injEq] at hj ⊢
    subst hj
    exact ⟨_, _, _, rfl, each j (by omega)⟩

theorem open_rows {T E Q : TypeId} (hT : P.underlying T = some (.slice E)) (hE : P.underlying E = some (.slice Q)) (hQ : P.underlying Q = some (.int .u8)) (ce : P.cellsOf E = 1) (cq : P.cellsOf Q = 1) (hby : P.bytesOf E = 24) (hbq : P.bytesOf Q = 1) {a : Option Addr} {len cap : Nat} {d : DataW H} {p : List MemPlace}
    (h : DataW.Trod enc P w 0 (fun _ => true) true T (.slice a len cap) d p) (hwt : ∀ n ∈ d.weights P T, n ≤ reachBytes) :
    ∃ bss : List (List UInt8), RBB w no a len cap bss ∧ cap * 24 ≤ 140737488351232 ∧ ∀ b ∈ bss, b.length ≤ 140737488351232 := by
  obtain ⟨fuel, hf⟩ := h
  rcases open_int_rows hT hE hQ ce cq hf with ⟨hcs, _⟩ | ⟨x, l, c, A, L, C, Z, hcs, _, hl, hm, hx, hrow⟩
  · simp [Value.cells] at hcs
    obtain ⟨rfl, rfl, rfl⟩ := hcs
    exact ⟨[], RBB.nil, Nat.zero_le _, fun b hb => by simp at hb⟩
  · simp [Value.cells] at hcs
    obtain ⟨rfl, rfl, rfl⟩ := hcs
    have hd : d = .slice ((List.range len).map fun r => intRow .u8 (A r) (L r) (Z r)) ((List.range (cap - len)).map fun j => intRow .u8 (A (len + j)) (L (len + j)) (Z (len + j))) := by injection hx
    subst hd
    refine ⟨_, rows_of hl hm hrow, ?_, fun b hb => ?_⟩
    · have := hwt _ (by simp only [DataW.weights, hT]; exact List.mem_cons_self)
      rw [hby] at this
      simp only [List.length_map, List.length_range, reachBytes] at this
      omega
    · obtain ⟨r, hr, rfl⟩ := List.mem_map.1 hb
      have hr' : r < len := by simpa using hr
      obtain ⟨_, h1, h2, h3, h4, h5, h6⟩ := hrow r (by omega)
      cases hA : A r with
      | none =>
        have hC := h5 hA
        simp only [List.length_map, List.length_take]
        omega
      | some a' =>
        have := hwt (((lits (H := H) .u8 ((Z r).take (L r))).length + (lits (H := H) .u8 ((Z r).drop (L r))).length) * P.bytesOf Q) (by
          simp only [DataW.weights, hT]
          refine List.mem_cons_of_mem _ (List.mem_append_left _ (mem_weightsAll (List.mem_map.2 ⟨r, hr, rfl⟩) ?_))
          simp [intRow, hA, DataW.weights, hE])
        rw [hbq] at this
        simp only [lits, List.length_map, List.length_take, List.length_drop, reachBytes] at this
        simp only [List.length_map, List.length_take]
        omega
end
end Go.Proofs.YtmfcgglgolajnaaDoor
/-
  A region that draws its order, whose calls may make memory but hand back one value whatever lies above: one walk, in the order of the text. No program is named here.
-/
namespace Go.Proofs.YtmfcgglgolajnaaDoor
open Go.RowKit

/-- A world that has grown out of u. -/
structure UpW (u : World) where
  w : World
  h : Below u.heap.size u w

instance (u : World) : Nonempty (UpW u) := ⟨⟨u, Below.refl _ _⟩⟩

theorem wp_region_up {P : Program} {id : Nat} {Q : Exit → Act → World → Prop} {a : Act} {u : World} {l : List Oper} (hm : P.follows .mixedOrders = true) (hB : Region.lexB .any l.toArray = true)
    (h : wpQuiet P l.toArray (fun w' => ∃ x : UpW u, w' = x.w) (fun a' => ∀ w', (∃ x : UpW u, w' = x.w) → Q .normal a' w') l a) : (Code.region id l.toArray true).wp P Q a u :=
  wp_region_quiet (C := fun w' => ∃ x : UpW u, w' = x.w) hm hB ⟨⟨u.drew, (Below.refl _ _).drew⟩, rfl⟩ (by simpa using h)
theorem Calls.up {P : Program} {f : FuncId} {args : Array Value} {u W : World} {v : Value} (h : Calls P f args W fun e w' => e = .returned v ∧ Below u.heap.size u w') : Calls P f args W fun e w'' => e = .returned v ∧ ∃ x : UpW u, w'' = x.w :=
  h.mono fun _ w' ⟨he, hb⟩ => ⟨he, ⟨w', hb⟩, rfl⟩
theorem UpW.cell {u : World} {a : Addr} {v : Value} (h : u.cell? a = some v) (x : UpW u) : x.w.cell? a = some v := (World.cell?_of_block (x.h.block a.block (World.block_lt_of_cell? _ _ h))).trans h
end Go.Proofs.YtmfcgglgolajnaaDoor
