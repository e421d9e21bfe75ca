/-
  Words for slices of strings; 'string(b)'. No program is named here.
-/
import Derived.Test.YtmfcgglgolajnaaDoorBlk
import Derived.Laws.IdiomStrings
import Derived.Laws.BytesArg
namespace Go.Proofs.YtmfcgglgolajnaaDoor
open Go.RowKit

/-- A string of these bytes. -/
def sv (s : List UInt8) : Value := .string ⟨s.toArray⟩

/-- The slice (A, n, c) reads as the strings ss. -/
def RS (w : World) (av : Nat → Prop) (A : Option Addr) (n c : Nat) (ss : List (List UInt8)) : Prop :=
  ss.length = n ∧ n ≤ c ∧ c ≤ maxLen ∧ Rd w av A n (ss.map sv)

section
variable {w w' : World} {av : Nat → Prop} {A : Option Addr} {n c k : Nat} {ss : List (List UInt8)}
theorem RS.len (h : RS w av A n c ss) : ss.length = n := h.1
theorem RS.cap (h : RS w av A n c ss) : n ≤ c := h.2.1
theorem RS.max (h : RS w av A n c ss) : c ≤ maxLen := h.2.2.1
theorem RS.keep (h : RS w av A n c ss) (hk : Kept av w w') : RS w' av A n c ss := ⟨h.1, h.2.1, h.2.2.1, h.2.2.2.keep hk⟩
theorem RS.below (h : RS w av A n c ss) (hk : Below w.heap.size w w') : RS w' av A n c ss := h.keep (Kept.of_below hk av)
theorem RS.drewN (h : RS w av A n c ss) (m : Nat) : RS (w.drewN m) av A n c ss := h.keep (Kept.drewN av w m)
theorem RS.alloc (h : RS w av A n c ss) (o : Obj) : RS (w.alloc o) av A n c ss := h.keep (Kept.alloc av w o)
theorem RS.sub (h : RS w av A n c ss) {av' : Nat → Prop} (hs : ∀ g, g < w.heap.size → av' g → av g) : RS w av' A n c ss := ⟨h.1, h.2.1, h.2.2.1, h.2.2.2.sub hs⟩
theorem RS.free (h : RS w av A n c ss) : RS w no A n c ss := ⟨h.1, h.2.1, h.2.2.1, h.2.2.2.free⟩
theorem RS.nil : RS w av none 0 0 [] := ⟨rfl, Nat.le_refl _, Nat.zero_le _, Rd.nil _⟩
theorem RS.at_ (h : RS w av A n c ss) (hk : k < n) : ∃ g o s, A = some ⟨g, o, none⟩ ∧ ss[k]? = some s ∧ w.cell? ⟨g, o + k, none⟩ = some (.string ⟨s.toArray⟩) := by
  obtain ⟨g, o, u, e, hu, hc⟩ := h.2.2.2.at_ hk
  rw [List.getElem?_map] at hu
  cases hx : ss[k]? with
  | none => rw [hx] at hu; cases hu
  | some x => rw [hx] at hu; injection hu with hu; subst hu; exact ⟨g, o, x, e, rfl, hc⟩
theorem RS.of_own_av {base : Nat} {e : TypeId} {v : Value} (h : w.ownsRow base e 1 v n (ss.map sv)) (hav : ∀ g, av g → g < base) : ∃ A c, v = .slice A n c ∧ RS w av A n c ss := by
  obtain ⟨A, c, e1, h1, h2, h3⟩ := Rd.of_own h
  refine ⟨A, c, e1, by have := h3.1; simpa using this, h1, h2, h3.1, fun hn => ?_⟩
  obtain ⟨g, o, e2, hg, _, hc⟩ := h3.2 hn
  refine ⟨g, o, e2, hg, fun hh => ?_, hc⟩
  have := (h.lt g (by rw [e1, e2]; rfl)).1
  have := hav g hh
  omega
end

/-- A slice of strings comes back, in new memory. -/
def RetSF (w : World) (ss : List (List UInt8)) (e : Ending) (w' : World) : Prop := ∃ A c, e = .returned (.slice A ss.length c) ∧ RS w' (fun g => g < w.heap.size) A ss.length c ss ∧ Below w.heap.size w w'

/-- 'string(b)'. -/
theorem run_string_rb {P : Program} {w : World} {av : Nat → Prop} {A : Option Addr} {n c : Nat} {bs : List UInt8} (src dst e : TypeId) (hs : P.underlying src = some (.slice e)) (he : P.underlying e = some (.int .u8)) (hd : P.underlying dst = some .string) (h : RB w av A n c bs) :
    (convert src dst (.slice A n c)).run P w = .ok (.string ⟨bs.toArray⟩) w := by
  have hl := h.len
  subst hl
  cases A with
  | none =>
    have h0 : bs = [] := by
      cases bs with
      | nil => rfl
      | cons x r => obtain ⟨g, o, e, _⟩ := h.2.2.2.2 (by simp); cases e
    subst h0
    exact run_convert_bytes_nil w src e hs he 0 c dst hd
  | some a =>
    refine run_convert_bytes_back w src dst e a c bs hs he hd (fun j hj => ?_)
    obtain ⟨g, o, x, hA, hx, hc⟩ := h.at_ (k := j) hj
    injection hA with hA
    subst hA
    rw [add_at, hc]
    rw [List.getElem?_eq_getElem hj] at hx
    injection hx with hx
    rw [hx]
end Go.Proofs.YtmfcgglgolajnaaDoor
