/-
  The walk of FnHowManyGroups.
-/
import Derived.Test.YtekmlhkoibgmlaaDoorGroupsL
import Derived.Test.YtekmlhkoibgmlaaDoorMB
namespace Go.Proofs.YtekmlhkoibgmlaaDoor
open Go.RowKit
set_option linter.unusedVariables false

theorem RB.takeG {w : World} {av : Nat → Prop} {A : Option Addr} {n c m : Nat} {xs : List UInt8} (h : RB w av A n c xs) (hm : m ≤ n) : RB w av A m c (xs.take m) := by
  obtain ⟨h1, h2, h3, h4, h5⟩ := h
  refine ⟨by rw [List.length_take, h1]; omega, by omega, h3, by simp [h1]; omega, fun h0 => ?_⟩
  obtain ⟨g, o, e, hg, hav, hc⟩ := h5 (by omega)
  refine ⟨g, o, e, hg, hav, fun j u hu => hc j u ?_⟩
  rw [List.getElem?_map] at hu ⊢
  rw [List.getElem?_take] at hu
  split at hu
  · exact hu
  · cases hu
theorem readG_parts {xs : List UInt8} (h : xs.length % 2 = 0) : readG (joinL [58] (partsL xs)) = if xs.length = 16 then xs else [] := by
  unfold readG
  by_cases h0 : partsL xs = []
  · have hl := partsL_len xs
    rw [h0] at hl
    simp at hl
    rw [h0, show joinL [58] [] = [] from rfl, readAny_nil, if_neg (by omega)]
    rfl
  · rw [read_groups (gs_parts xs) h0, partsL_len, flat_vals xs h]
    by_cases h16 : xs.length = 16
    · rw [if_pos (by omega), if_pos h16]; rfl
    · rw [if_neg (by omega), if_neg h16]; rfl
theorem parts_small (xs : List UInt8) : ∀ s ∈ partsL xs, s.length ≤ 20 ∧ (37 : UInt8) ∉ s := fun s hs => by
  obtain ⟨v, hv⟩ := (gs_parts xs).mem s hs
  exact ⟨by have := hv.2.1; omega, hv.no37⟩

set_option maxRecDepth 100000 in
set_option maxHeartbeats 3200000 in
theorem howManyG_core (A : Option Addr) (n c m : Nat) (b0 : List UInt8) (w : World) (g4 o4 g6 o6 : Nat) (hz : ZX w g4 o4 g6 o6) (w0 : RB w no A n c b0) (r0 : c ≤ 1048576) (hm : m = n - n % 2)
    (hsl : (Instr.sliceAt 22 (.slice A n c) none (some (.int .i64 (m : Int))) none).run Tryd.prog w = .ok (.slice A m c) w) :
    Calls Tryd.prog 5 #[.slice A n c] w fun e w' => e = .returned (.bool true) ∧ Below w.heap.size w w' := by
  have k0 := w0.cap
  have hev := w0.takeG (m := m) (by omega)
  have hl := hev.len
  have hmod : m % 2 = 0 := by omega
  have Hc := hide (copied_own A m c _ w no hev (by omega))
  generalize b0.take m = ev at *
  have Hz := hide hz
  have Hl := hide hl
  have hmi : (n : Int) - (n : Int) % 2 = (m : Int) := by omega
  have hm1 : (m : Int) ≤ n := by omega
  have hm2 : (n : Int) % 2 ≤ n := by omega
  have Hmod := hide hmod
  clear hz w0 hev hl hm hmod
  go_enter Tryd.func5, Tryd.ntmps5
  go_wp2_with fail
  with_reducible refine Hc.out.mono ?_
  rintro e w1 ⟨v, rfl, hv, hb1⟩
  obtain ⟨A1, c1, rfl, hr1⟩ := RB.of_own hv
  have Hf := hide (fParts_any A1 m c1 ev w1 hr1 (by omega))
  have Hr1 := hide hr1
  have Hb1 := hide hb1
  clear hv hb1 hr1 Hc hsl
  go_wp2_with fail
  with_reducible refine Hf.out.mono ?_
  rintro e w2 ⟨A2, c2, rfl, hr2, hb2⟩
  have hpl : (partsL ev).length = m / 2 := by rw [partsL_len, Hl.out]
  rw [hpl] at hr2 ⊢
  have hbw2 := Hb1.out.trans (hb2.mono Hb1.out.size)
  have Hj := hide (fJoined_any A2 (m / 2) c2 (partsL ev) [58] w2 hr2.free (by omega) (fun s hs => by have := (parts_small ev s hs).1; omega) (by simp))
  have hjl := join_len (fun s hs => (parts_small ev s hs).1)
  rw [hpl] at hjl
  have Hfr := hide (fReadG_any (joinL [58] (partsL ev)) w2 g4 o4 g6 o6 (Hz.out.below hbw2) (by omega) (join_no37 fun s hs => (parts_small ev s hs).2))
  rw [readG_parts (by rw [Hl.out]; exact Hmod.out), Hl.out] at Hfr
  have Hr12 := hide (Hr1.out.below hb2)
  have Hbw2 := hide hbw2
  generalize joinL [58] (partsL ev) = tx at *
  clear hr2 hb2 hpl hbw2 hjl Hf Hr1
  go_wp2_with fail
  with_reducible refine Hj.out.mono ?_
  rintro e w3 ⟨rfl, rfl⟩
  go_wp2_with fail
  by_cases h16 : m = 16
  · subst h16
    rw [if_pos rfl] at Hfr
    with_reducible refine Hfr.out.mono ?_
    rintro e w4 ⟨A4, c4, rfl, hr4, hb4⟩
    rw [Hl.out] at hr4 ⊢
    have Hs := hide (same_any A4 A1 16 c4 16 c1 ev ev w4 no no hr4 (Hr12.out.below hb4))
    rw [show eqL ev ev = true from eqL_iff.2 rfl] at Hs
    have Hbw4 := hide (Hbw2.out.trans (hb4.mono Hbw2.out.size))
    clear hr4 hb4 Hfr
    go_wp2_with fail
    with_reducible refine Hs.out.mono ?_
    rintro e w5 ⟨rfl, q, rfl⟩
    go_wp2_with fail
    go_ret
    exact ⟨rfl, below_drewN Hbw4.out q⟩
  · rw [if_neg h16] at Hfr
    have h16' : ((m : Int) == 16) = false := by rw [beq_eq_false_iff_ne]; omega
    with_reducible refine Hfr.out.mono ?_
    rintro e w4 ⟨A4, c4, rfl, hr4, hb4⟩
    rw [List.length_nil] at hr4 ⊢
    have Hbw4 := hide (Hbw2.out.trans (hb4.mono Hbw2.out.size))
    clear hr4 hb4 Hfr
    go_wp2_with fail
    go_ret
    exact ⟨rfl, Hbw4.out⟩

set_option maxRecDepth 100000 in
theorem fnHowManyGroups_walk (w : World) (g4 o4 g6 o6 : Nat) (hz : ZX w g4 o4 g6 o6) (a0 : Option Addr) (n0 c0 : Nat) (b0 : List UInt8) (w0 : RB w no a0 n0 c0 b0) (r0 : c0 ≤ 1048576) :
    Calls Tryd.prog 5 #[.slice a0 n0 c0] w fun e w' => e = .returned (.bool true) ∧ Below w.heap.size w w' := by
  have k0 := w0.cap
  refine howManyG_core a0 n0 c0 (n0 - n0 % 2) b0 w g4 o4 g6 o6 hz w0 r0 rfl ?_
  obtain ⟨m, hm⟩ : ∃ m, m = n0 - n0 % 2 := ⟨_, rfl⟩
  rw [← hm]
  have h1 : (0 : Int) ≤ (m : Int) := by omega
  have h2 : (m : Int) ≤ (c0 : Int) := by omega
  have h3 : m ≤ c0 := by omega
  have h4 : m ≤ n0 := by omega
  cases a0 with
  | none =>
    obtain rfl : n0 = 0 := by
      rcases Nat.eq_zero_or_pos n0 with h | h
      · exact h
      · obtain ⟨g, o, x, e, _⟩ := w0.at_ (k := 0) h; cases e
    obtain rfl : m = 0 := by omega
    clear hm w0 hz k0 h1 h2 h3 h4
    simp [go_sem, Tryd.underlying22]
  | some a =>
    have h5 : ¬ (c0 < m) := by omega
    clear hm w0 hz k0 h4
    generalize n0 = nn at *
    simp [go_sem, Tryd.underlying22, h1, h2]
end Go.Proofs.YtekmlhkoibgmlaaDoor
