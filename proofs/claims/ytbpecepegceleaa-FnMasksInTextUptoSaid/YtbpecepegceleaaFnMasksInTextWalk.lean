/-
  The walk of FnMasksInText.
-/
import Derived.Test.YtbpecepegceleaaMaskStrings
import Derived.Test.YtbpecepegceleaaCopied
import Derived.Test.YtbpecepegceleaaSame
namespace Go.Proofs.Ytbpecepegceleaa
open Go.RowKit
set_option linter.unusedVariables false

theorem RBB.three {w : World} {A B C : Option Addr} {n c m d l f : Nat} {ps qs rs : List UInt8} (t : TypeId) (ha : RB w no A n c ps) (hb : RB w no B m d qs) (hc : RB w no C l f rs) : RBB (w.alloc (.cells #[.slice A n c, .slice B m d, .slice C l f] t)) no (some ⟨w.heap.size, 0, none⟩) 3 3 [ps, qs, rs] :=
  ⟨rfl, Nat.le_refl _, by unfold maxLen; omega, [.slice A n c, .slice B m d, .slice C l f], ⟨rfl, fun _ => ⟨w.heap.size, 0, rfl, by simp, fun h => h, fun j v hv => by
    rcases j with _ | _ | _ | j
    · simp at hv; subst hv; simp [World.cell?_alloc_new]
    · simp at hv; subst hv; simp [World.cell?_alloc_new]
    · simp at hv; subst hv; simp [World.cell?_alloc_new]
    · simp at hv⟩⟩, by simp, fun j b hj => by
    rcases j with _ | _ | _ | j
    · simp at hj; subst hj; exact ⟨A, n, c, rfl, ha.alloc _⟩
    · simp at hj; subst hj; exact ⟨B, m, d, rfl, hb.alloc _⟩
    · simp at hj; subst hj; exact ⟨C, l, f, rfl, hc.alloc _⟩
    · simp at hj⟩

set_option maxRecDepth 100000 in
set_option maxHeartbeats 6400000 in
theorem fnMasksInText_walk (w : World) (a0 : Option Addr) (n0 c0 : Nat) (b0 : List UInt8) (w0 : RB w no a0 n0 c0 b0) (r0 : c0 ≤ 1048576)
    (a1 : Option Addr) (n1 c1 : Nat) (b1 : List UInt8) (w1 : RB w no a1 n1 c1 b1) (r1 : c1 ≤ 1048576) :
    Calls Try.prog 3 #[.slice a0 n0 c0, .slice a1 n1 c1] w fun e w' => e = .returned (.bool true) ∧ Below w.heap.size w w' := by
  obtain ⟨i0, hi, hz0, hz1, hz2⟩ := info_parts byte_info
  have k0 := w0.cap
  have k1 := w1.cap
  by_cases h0 : n0 = 0
  · subst h0
    go_enter Try.func3, Try.ntmps3
    go_wp2_with fail
    go_ret
    exact ⟨rfl, Below.refl _ _⟩
  have t0 : ((n0 : Int) == 0) = false := by simp; omega
  by_cases h1 : n1 = 0
  · subst h1
    go_enter Try.func3, Try.ntmps3
    go_wp2_with fail
    go_ret
    exact ⟨rfl, Below.refl _ _⟩
  have t1 : ((n1 : Int) == 0) = false := by simp; omega
  have W0 := hide w0
  have W1 := hide w1
  have H0 := hide h0
  have H1 := hide h1
  have Hc1 := hide (copied_own a0 n0 c0 b0 w no w0 (by omega))
  clear w0 w1 h0 h1
  go_enter Try.func3, Try.ntmps3
  go_wp2_with fail
  with_reducible refine Hc1.out.mono ?_
  rintro e v1 ⟨vc, rfl, hcv, hb1⟩
  obtain ⟨A1, d1, rfl, h1⟩ := RB.of_own hcv
  have HR1 := hide h1
  have Hb1 := hide hb1
  have Hc2 := hide (copied_own a1 n1 c1 b1 v1 no (W1.out.below hb1) (by omega))
  clear hcv h1 hb1
  go_wp2_with fail
  with_reducible refine Hc2.out.mono ?_
  rintro e v2 ⟨vc, rfl, hcv, hb2⟩
  obtain ⟨A2, d2, rfl, h2⟩ := RB.of_own hcv
  have HR1' := hide (HR1.out.below hb2)
  have HR2 := hide h2
  have Hb2 := hide (Hb1.out.trans (hb2.mono Hb1.out.size))
  have Hc3 := hide (copied_own a0 n0 c0 b0 v2 no (W0.out.below Hb2.out) (by omega))
  clear hcv h2 hb2 HR1 Hb1
  go_wp2_with fail
  with_reducible refine Hc3.out.mono ?_
  rintro e v3 ⟨vc, rfl, hcv, hb3⟩
  have Hb3 := hide (Hb2.out.trans (hb3.mono Hb2.out.size))
  have Hown := hide hcv
  have Hrd := hide ((W1.out.below Hb3.out).2.2.2)
  have hsz3 := hb3.size
  have Hb3' := hide hb3
  obtain ⟨x0, hx0⟩ : ∃ x, x = b0.map (fun b => Value.int .u8 (b.toNat : Int)) := ⟨_, rfl⟩
  obtain ⟨x1, hx1⟩ : ∃ x, x = b1.map (fun b => Value.int .u8 (b.toNat : Int)) := ⟨_, rfl⟩
  rw [← hx0] at Hown
  rw [← hx1] at Hrd
  have Hx0 := hide hx0
  have Hx1 := hide hx1
  clear hcv hb3 hx0 hx1
  go_wp2_with (at_builtin; refine wpList_append_rd _ rfl (.tmp 19) (.tmp 20) _ rfl v2.heap.size 5 i0 _ 1 Try.underlying22 hi hz0 hz1 hz2 rfl _ n0 _ rfl Hown.out no a1 n1 c1 x1 rfl Hrd.out ?_ ?_ ?_ ?_ ?_)
  · intro u hu
    rw [Hx1.out] at hu
    simp at hu
    obtain ⟨x, _, rfl⟩ := hu
    rfl
  · unfold maxLen; omega
  · omega
  · omega
  intro v' v4 h1 h2 h3
  have hb4 : Below v2.heap.size v2 v4 := below_append Hb3'.out h2 Hown.out (by omega)
  have h1' : v4.ownsRow v2.heap.size 5 1 v' (n0 + n1) ((b0 ++ b1).map fun b => .int .u8 (b.toNat : Int)) := by rw [List.map_append, ← Hx0.out, ← Hx1.out]; exact h1
  obtain ⟨A4, d4, rfl, h4⟩ := RB.of_own h1'
  have Hb4 := hide (Hb2.out.trans (hb4.mono Hb2.out.size))
  have hl0 := W0.out.len
  have hl1 := W1.out.len
  have Hms := hide (maskStrings_any _ 3 3 [b0, b1, b0 ++ b1] _ no (RBB.three 22 (HR1'.out.below hb4) (HR2.out.below hb4) h4) (by omega) (by
    intro b hb
    simp at hb
    rcases hb with rfl | rfl | rfl
    · omega
    · omega
    · rw [List.length_append]; omega))
  have hm0 : maskText b0 = hexL b0 := by unfold maskText; rw [if_neg (by rw [hl0]; exact H0.out)]
  have hm1 : maskText b1 = hexL b1 := by unfold maskText; rw [if_neg (by rw [hl1]; exact H1.out)]
  have hm2 : maskText (b0 ++ b1) = hexL b0 ++ hexL b1 := by
    unfold maskText
    rw [if_neg (by rw [List.length_append, hl0]; have := H0.out; omega), hexL_append]
  rw [show [b0, b1, b0 ++ b1].map maskText = [hexL b0, hexL b1, hexL b0 ++ hexL b1] by simp only [List.map_cons, List.map_nil, hm0, hm1, hm2]] at Hms
  have hq1 : (hexL b0).length = 2 * n0 := by rw [hexL_length, hl0]
  have heq : decide (hexL b0 = hexL b1) = eqL b0 b1 := by
    unfold eqL
    rw [decide_eq_decide]
    exact ⟨hexL_inj, fun h => by rw [h]⟩
  have Hq1 := hide hq1
  have hq2 : (hexL b1).length = 2 * n1 := by rw [hexL_length, hl1]
  have Hq2 := hide hq2
  have Heq := hide heq
  generalize hexL b0 = t0 at *
  generalize hexL b1 = t1 at *
  clear h1 h2 h3 h1' h4 hb4 hl0 hl1 hm0 hm1 hm2 hq1 hq2 heq
  go_wp2_with fail
  with_reducible refine Hms.out.mono ?_
  rintro e v5 ⟨A5, d5, rfl, h5, hb5⟩
  rw [show [t0, t1, t0 ++ t1].length = 3 from rfl] at h5 ⊢
  obtain ⟨g, o, s0, rfl, hs0, hc0⟩ := h5.at_ (k := 0) (by omega)
  obtain ⟨g', o', s1, hA, hs1, hc1⟩ := h5.at_ (k := 1) (by omega)
  injection hA with hA; injection hA with e1 e2; subst e1 e2
  obtain ⟨g', o', s2, hA, hs2, hc2⟩ := h5.at_ (k := 2) (by omega)
  injection hA with hA; injection hA with e1 e2; subst e1 e2
  simp at hs0 hs1 hs2
  subst hs0 hs1 hs2
  have Hb5 := hide ((Hb4.out.alloc Hb4.out.size _).trans (hb5.mono (by simp; have := Hb4.out.size; omega)))
  have hsame := fun n => same_any a0 a1 n0 c0 n1 c1 b0 b1 (v5.drewN n) no no ((W0.out.below Hb5.out).drewN n) ((W1.out.below Hb5.out).drewN n)
  rw [← Heq.out] at hsame
  have Hsame := hide hsame
  clear hb5 Hms h5 hsame
  have hc0' : v5.cell? ⟨g, o, none⟩ = some (.string ⟨t0.toArray⟩) := hc0
  have hlen : t0.length ≤ 2097152 := by rw [Hq1.out]; omega
  clear hc0
  have hlen1 : t1.length ≤ 2097152 := by have := Hq2.out; omega
  by_cases h01 : t0 = t1
  · subst h01
    rw [decide_eq_true rfl] at Hsame
    have hadd := fun W : World => run_string_add_lists (P := Try.prog) W t0 t0 (by omega) (by omega)
    have hl2 : ((t0.length : Int) == 2 * (n0 : Int)) = true := by simp; have := Hq1.out; omega
    go_wp2_with fail
    go_quiet ((go_at_call 7; exact Calls.quiet_of (Hsame.out _)))
    go_wp2_with fail
    go_ret
    exact ⟨rfl, below_drewN Hb5.out _⟩
  · rw [decide_eq_false h01] at Hsame
    have hadd := fun W : World => run_string_add_lists (P := Try.prog) W t0 t1 (by omega) (by omega)
    have hl2 : ((t0.length : Int) == 2 * (n0 : Int)) = true := by simp; have := Hq1.out; omega
    have hne : (t0 == t1) = false := by simpa using h01
    clear h01
    go_wp2_with fail
    go_quiet ((go_at_call 7; exact Calls.quiet_of (Hsame.out _)))
    go_wp2_with fail
    go_ret
    exact ⟨rfl, below_drewN Hb5.out _⟩
end Go.Proofs.Ytbpecepegceleaa
