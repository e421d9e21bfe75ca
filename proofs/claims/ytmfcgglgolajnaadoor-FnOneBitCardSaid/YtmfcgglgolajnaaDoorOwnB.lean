/-
  A row of bytes of the call's own, written in.
-/
import Derived.Test.YtmfcgglgolajnaaDoorMB
namespace Go.Proofs.YtmfcgglgolajnaaDoor
open Go.RowKit
set_option linter.unusedVariables false

def byL (bs : List UInt8) : List Value := bs.map fun b => .int .u8 (b.toNat : Int)
theorem byL_set (bs : List UInt8) (i : Nat) (x : UInt8) : (byL bs).set i (.int .u8 (x.toNat : Int)) = byL (bs.set i x) := by unfold byL; rw [List.map_set]

/-- A row of bytes of the call's own, laid behind w. -/
def OwnB (w : World) (v : Value) (n : Nat) (bs : List UInt8) (wr : World) : Prop := wr.ownsRow w.heap.size 5 1 v n (byL bs) ∧ Below w.heap.size w wr
theorem OwnB.rb {w wr : World} {A : Option Addr} {n c : Nat} {bs : List UInt8} (h : OwnB w (.slice A n c) n bs wr) : RB wr no A n c bs := by
  obtain ⟨A', c', e, hr⟩ := RB.of_own h.1
  injection e with e1 _ e3
  subst e1 e3
  exact hr
theorem OwnB.form {w wr : World} {v : Value} {n : Nat} {bs : List UInt8} (h : OwnB w v n bs wr) : ∃ A c, v = .slice A n c ∧ n ≤ c ∧ c ≤ maxLen := by
  obtain ⟨A', c', e, hr⟩ := RB.of_own h.1
  exact ⟨A', c', e, hr.cap, hr.max⟩
theorem OwnB.some_ {w wr : World} {A : Option Addr} {n c : Nat} {bs : List UInt8} (h : OwnB w (.slice A n c) n bs wr) (hn : 0 < n) : ∃ g, A = some ⟨g, 0, none⟩ ∧ w.heap.size ≤ g := by
  rcases h.1.2 with ⟨_, h2⟩ | ⟨g, cap, cur, h2, h3, _⟩
  · omega
  · injection h2 with h2 _ _; exact ⟨g, h2, h3⟩
theorem OwnB.set_ {w wr : World} {g n c : Nat} {bs : List UInt8} (h : OwnB w (.slice (some ⟨g, 0, none⟩) n c) n bs wr) (hg : w.heap.size ≤ g) (i : Nat) (x : UInt8) :
    OwnB w (.slice (some ⟨g, 0, none⟩) n c) n (bs.set i x) (wr.setCell ⟨g, i, none⟩ (.int .u8 (x.toNat : Int))) := by
  have hs := h.1.stored i (.int .u8 (x.toNat : Int))
  rw [byL_set] at hs
  exact ⟨hs.1, h.2.setCell hg _⟩

theorem OwnB.drew {w wr : World} {v : Value} {n : Nat} {bs : List UInt8} (h : OwnB w v n bs wr) : OwnB w v n bs wr.drew := ⟨h.1, h.2.drew⟩
theorem OwnB.drewN {w wr : World} {v : Value} {n : Nat} {bs : List UInt8} (h : OwnB w v n bs wr) (q : Nat) : OwnB w v n bs (wr.drewN q) := ⟨h.1, below_drewN h.2 q⟩
theorem xor_bit (c : UInt8) (s : Nat) (hs : s < 8) : bits .xor .u8 (c.toNat : Int) ((2 : Int) ^ s % 256) = ((c ^^^ UInt8.ofNat (2 ^ s)).toNat : Int) := by
  have e : (2 : Int) ^ s % 256 = (((UInt8.ofNat (2 ^ s)).toNat : Nat) : Int) := by
    have : ∀ t : Fin 8, (2 : Int) ^ t.val % 256 = (((UInt8.ofNat (2 ^ t.val)).toNat : Nat) : Int) := by decide
    exact this ⟨s, hs⟩
  rw [e, xor_u8]

end Go.Proofs.YtmfcgglgolajnaaDoor
