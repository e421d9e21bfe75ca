/-
  Equal of a long and a short one; To16 and To4 of any slice of bytes.
-/
import Derived.Test.YtmfcgglgolajnaaDoorPre2
namespace Go.Proofs.YtmfcgglgolajnaaDoor
open Go.RowKit
set_option linter.unusedVariables false

set_option maxRecDepth 100000 in
set_option maxHeartbeats 1600000 in
theorem equal_six (A B : Option Addr) (c d : Nat) (xs ys : List UInt8) (w : World) (av bv : Nat → Prop) (ha : RB w av A 16 c xs) (hb : RB w bv B 4 d ys) (hp : PreIs w) :
    Calls Tryd.prog 34 #[.slice A 16 c, .slice B 4 d] w fun e w' => e = .returned (.bool (eqIP xs ys)) ∧ ∃ q, w' = w.drewN q := by
  obtain ⟨ga, oa, _, rfl, _, _⟩ := ha.at_ (k := 0) (by omega)
  obtain ⟨P, pc, hpc, hP⟩ := hp
  have k1 := ha.cap
  have k2 := ha.max
  unfold maxLen at k2
  rw [eqIP_six ha.len hb.len]
  have H1 := hide (fun q => bytesEq_any (some ⟨ga, oa, none⟩) P 12 c 12 pc (xs.take 12) pre12 (w.drewN q) av no ((ha.take (m := 12) (by omega)).drewN q) (hP.drewN q))
  have H2 := hide (fun q => bytesEq_any (some ⟨ga, oa + 12, none⟩) B 4 (c - 12) 4 d (xs.drop 12) ys (w.drewN q) av bv ((ha.drop (k := 12) rfl (by omega)).drewN q) (hb.drewN q))
  clear ha hb hP
  cases h12 : eqL (xs.take 12) pre12 with
  | true =>
    rw [h12] at H1
    clear h12
    generalize eqL (xs.drop 12) ys = r at *
    go_enter Tryd.func34, Tryd.ntmps34
    go_wp2_with fail
    go_quiet ((first | (go_at_call 44; exact Calls.quiet_of (H1.out _)) | (go_at_call 44; exact Calls.quiet_of (H2.out _))))
    go_wp2_with fail
    go_ret
    exact ⟨rfl, _, rfl⟩
  | false =>
    rw [h12] at H1
    clear h12 H2
    rw [Bool.false_and]
    go_enter Tryd.func34, Tryd.ntmps34
    go_wp2_with fail
    go_quiet ((go_at_call 44; exact Calls.quiet_of (H1.out _)))
    go_wp2_with fail
    go_ret
    exact ⟨rfl, _, rfl⟩

theorem equal_any (A B : Option Addr) (n m c d : Nat) (xs ys : List UInt8) (w : World) (av bv : Nat → Prop) (ha : RB w av A n c xs) (hb : RB w bv B m d ys) (hn : n = 4 ∨ n = 16) (hm : m = 4 ∨ m = 16) (hp : PreIs w) :
    Calls Tryd.prog 34 #[.slice A n c, .slice B m d] w fun e w' => e = .returned (.bool (eqIP xs ys)) ∧ ∃ q, w' = w.drewN q := by
  rcases hn with rfl | rfl <;> rcases hm with rfl | rfl
  · exact equal_even A B _ c d xs ys w av bv ha hb
  · exact equal_four A B c d xs ys w av bv ha hb hp
  · exact equal_six A B c d xs ys w av bv ha hb hp
  · exact equal_even A B _ c d xs ys w av bv ha hb

/-- A slice of bytes comes back; nothing that was there has turned. -/
def RetN (w : World) (bs : List UInt8) (e : Ending) (w' : World) : Prop := ∃ A c, e = .returned (.slice A bs.length c) ∧ RB w' no A bs.length c bs ∧ Below w.heap.size w w'

def to16L (xs : List UInt8) : List UInt8 := if xs.length = 4 then pre12 ++ xs else if xs.length = 16 then xs else []
def to4L (xs : List UInt8) : List UInt8 := if xs.length = 4 then xs else if xs.length = 16 ∧ mapd xs = true then xs.drop 12 else []
theorem to16L_le (xs : List UInt8) : (to16L xs).length ≤ 16 := by
  unfold to16L; split
  · rw [List.length_append]; simp [pre12]; omega
  · split <;> simp_all
theorem to4L_le (xs : List UInt8) : (to4L xs).length ≤ 16 := by
  unfold to4L; split
  · omega
  · split <;> simp_all

theorem to16_any (A : Option Addr) (n c : Nat) (xs : List UInt8) (w : World) (av : Nat → Prop) (ha : RB w av A n c xs) (hp : PreIs w) :
    Calls Tryd.prog 38 #[.slice A n c] w (RetN w (to16L xs)) := by
  have hl := ha.len
  unfold to16L
  by_cases h4 : n = 4
  · subst h4
    rw [if_pos hl]
    exact (to16_four A c xs w av ha hp).mono fun e w' ⟨A', c', he, h1, h2⟩ => ⟨A', c', he, h1.free, h2⟩
  · rw [if_neg (by omega)]
    by_cases h16 : n = 16
    · subst h16
      rw [if_pos hl]
      refine (to16_six A c w).mono ?_
      rintro e w' ⟨rfl, rfl⟩
      exact ⟨A, c, by rw [hl], by rw [hl]; exact ha.free, Below.refl _ _⟩
    · rw [if_neg (by omega)]
      refine (to16_odd A n c w h4 h16).mono ?_
      rintro e w' ⟨rfl, rfl⟩
      exact ⟨none, 0, rfl, RB.nil, Below.refl _ _⟩
theorem to4_any (A : Option Addr) (n c : Nat) (xs : List UInt8) (w : World) (av : Nat → Prop) (ha : RB w av A n c xs) (hp : PreIs w) :
    Calls Tryd.prog 42 #[.slice A n c] w (RetN w (to4L xs)) := by
  have hl := ha.len
  unfold to4L
  by_cases h4 : n = 4
  · subst h4
    rw [if_pos hl]
    refine (to4_four A c w).mono ?_
    rintro e w' ⟨rfl, rfl⟩
    exact ⟨A, c, by rw [hl], by rw [hl]; exact ha.free, Below.refl _ _⟩
  · rw [if_neg (by omega)]
    by_cases h16 : n = 16
    · subst h16
      cases hm : mapd xs with
      | true =>
        rw [if_pos ⟨hl, rfl⟩]
        obtain ⟨g, o, _, rfl, _, _⟩ := ha.at_ (k := 0) (by omega)
        have hd := ha.free.drop (k := 12) rfl (by omega)
        have hdl : (xs.drop 12).length = 4 := by rw [List.length_drop]; omega
        refine (to4_mapped g o c xs w av ha hm).mono ?_
        rintro e w' ⟨rfl, rfl⟩
        exact ⟨some ⟨g, o + 12, none⟩, c - 12, by rw [hdl], by rw [hdl]; exact hd, Below.refl _ _⟩
      | false =>
        rw [if_neg (by simp)]
        refine (to4_six A c xs w av ha hm).mono ?_
        rintro e w' ⟨rfl, rfl⟩
        exact ⟨none, 0, rfl, RB.nil, Below.refl _ _⟩
    · rw [if_neg (by omega)]
      refine (to4_odd A n c w h4 h16).mono ?_
      rintro e w' ⟨rfl, rfl⟩
      exact ⟨none, 0, rfl, RB.nil, Below.refl _ _⟩
end Go.Proofs.YtmfcgglgolajnaaDoor
