/-
  The contracts of MaskEach and MasksInARow.
-/
import Derived.Test.YtknajppjgdhbfaaDoorMask
import Derived.Test.YtknajppjgdhbfaaDoorMade
namespace Go.Proofs.YtknajppjgdhbfaaDoor
open Go.RowKit
set_option linter.unusedVariables false

def maskedL (bss : List (List UInt8)) (ms : List UInt8) : List (List UInt8) := bss.map fun b => masked b ms
theorem maskedL_snoc {bss : List (List UInt8)} {ms b : List UInt8} {k : Nat} (h : bss[k]? = some b) : maskedL (bss.take (k + 1)) ms = maskedL (bss.take k) ms ++ [masked b ms] := by
  unfold maskedL; rw [take_snoc h]; simp

set_option maxHeartbeats 1600000 in
theorem maskEach_any (L M : Option Addr) (N e n d : Nat) (bss : List (List UInt8)) (ms : List UInt8) (w : World) (av bv : Nat → Prop) (hL : RBB w av L N e bss) (hM : RB w bv M n d ms) (hn : n = 4 ∨ n = 16) (hall : ∀ b ∈ bss, b.length = n) (hN : N * 24 ≤ 140737488351232) :
    Calls Tryd.prog 6 #[.slice L N e, .slice M n d] w (RetBBF (fun g => g < w.heap.size) w (maskedL bss ms)) := by
  obtain ⟨i0, hi, hz0, hz1, hz2⟩ := info_parts bytes_info
  have HL := hide hL.free
  have HM := hide hM.free
  have Hall := hide hall
  have Hn := hide hn
  have Hst := hide (Made.start (fun g => g < w.heap.size) w)
  clear hL hM hall hn
  go_enter Tryd.func6, Tryd.ntmps6
  go_wp2_with fail
  go_loopw [5, 11] (fun v i wr => ∃ k : Nat, k ≤ N ∧ i = .int .i64 k ∧ Made (fun g => g < w.heap.size) w (maskedL (bss.take k) ms) v wr) (fun _ i _ => N - (intOf i).toNat)
  case atStart => exact ⟨0, Nat.zero_le _, rfl, Hst.out⟩
  case round =>
    obtain ⟨k, hk, rfl, hr⟩ := hrel
    have Hr := hide hr
    by_cases hlt : k < N
    · obtain ⟨xs, h1, h2, h3⟩ := hr
      obtain ⟨g, o, B, mb, f, b, rfl, hbk, hc, hb⟩ := (HL.out.below h3).at_ hlt
      obtain rfl : mb = n := by rw [← hb.len]; exact Hall.out b (List.mem_of_getElem? hbk)
      have Hcall := hide (mask_any B M mb f d b ms wr no no hb (HM.out.below h3) Hn.out)
      have Hsn := hide (maskedL_snoc (ms := ms) hbk)
      have hlen : (maskedL (bss.take k) ms).length = k := by unfold maskedL; rw [List.length_map, List.length_take, HL.out.len]; omega
      have hcl := masked_length hb.len HM.out.len
      rw [hlen] at h1
      have Hlen := hide hlen
      have H1 := hide h1
      have H2 := hide h2
      have H3 := hide h3
      have hsz := h3.size
      have Hown : Hid (∀ g, rowOf u5 g → g < wr.heap.size) := hide fun g h => (h1.lt g h).2
      generalize maskedL (bss.take k) ms = al at *
      generalize masked b ms = cm at *
      have Hcl := hide hcl
      clear hb hbk h1 h2 h3 hlen hcl
      go_wp2_with fail
      with_reducible refine Hcall.out.mono ?_
      rintro e w1 ⟨Ac, cc, rfl, hrb0, hcb⟩
      rw [Hcl.out] at hrb0 ⊢
      have hrb : RB w1 (fun g => g < w.heap.size ∨ rowOf u5 g) Ac mb cc cm := hrb0.sub fun g _ h => h.elim (fun h => by omega) (fun h => Hown.out g h)
      have h1' := own_below H1.out hcb
      rw [← Hlen.out] at h1'
      have h2' := H2.out.keep (Kept.of_below hcb _)
      have h3' := H3.out.trans (hcb.mono H3.out.size)
      have hsz1 := hcb.size
      have Ho := hide (h1'.alloc (.cells #[.slice Ac mb cc] 22))
      have Hf := hide (fun v' w' => Made.step (v' := v') (w' := w') h1' h2' h3' hrb)
      rw [Hlen.out] at Ho Hf
      clear h1' h2' h3' hrb hrb0 hcb
      go_wp2_with (at_builtin; refine wpList_append_rd _ rfl (.tmp 15) (.tmp 19) _ rfl w.heap.size 22 i0 _ 24 Tryd.underlying23 hi hz0 hz1 hz2 rfl _ k _ rfl Ho.out no (some ⟨w1.heap.size, 0, none⟩) 1 1 [.slice Ac mb cc] rfl ?_ ?_ ?_ ?_ ?_ ?_)
      · exact Rd.one w1 _ _ no (fun h => h)
      · intro u hu; simp at hu; subst hu; rfl
      · unfold maxLen; omega
      · omega
      · simp; omega
      intro v' w2 h1 h2 h3
      have Hs := hide (Hf.out v' w2 h1 h2 h3)
      clear h1 h2 h3
      go_wp2_with fail
      go_roundw
      case rel => exact ⟨k + 1, by omega, by go_num, by rw [Hsn.out]; exact Hs.out⟩
      case measure => simp [intOf]; omega
    · obtain rfl : k = N := by omega
      clear hr
      go_wp2_with fail
      go_ret
      have h1 := Hr.out
      rw [List.take_of_length_le (by rw [HL.out.len]; omega)] at h1
      exact h1.retF (fun _ h => h)
end Go.Proofs.YtknajppjgdhbfaaDoor
