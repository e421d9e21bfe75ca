/-
  The contract of MaskStrings.
-/
import Derived.Test.YtbpecepegceleaaFormBytes
import Derived.Test.YtbpecepegceleaaHex
namespace Go.Proofs.Ytbpecepegceleaa
open Go.RowKit
set_option linter.unusedVariables false

theorem string_info : (Try.prog.info? 9).map (fun i => (i.zero, i.size, i.bytes)) = some (some (.string .empty), 1, 16) := by kernel_rfl

def textsTo (bss : List (List UInt8)) (k : Nat) : List Value := ((bss.take k).map maskText).map sv
theorem textsTo_snoc {bss : List (List UInt8)} {k : Nat} {b : List UInt8} (h : bss[k]? = some b) : textsTo bss (k + 1) = textsTo bss k ++ [sv (maskText b)] := by
  unfold textsTo; rw [take_snoc h]; simp

set_option maxHeartbeats 1600000 in
theorem maskStrings_any (L : Option Addr) (N e : Nat) (bss : List (List UInt8)) (w : World) (av : Nat → Prop) (hL : RBB w av L N e bss) (hN : N * 24 ≤ 140737488351232) (hlen : ∀ b ∈ bss, b.length ≤ 70368744177664) :
    Calls Try.prog 5 #[.slice L N e] w (RetSF w (bss.map maskText)) := by
  obtain ⟨i0, hi, hz0, hz1, hz2⟩ := info_parts string_info
  have HL := hide hL.free
  have Hlen := hide hlen
  have Hst : Hid ((w.alloc (.cells #[] 9)).ownsRow w.heap.size 9 1 (.slice (some ⟨w.heap.size, 0, none⟩) 0 0) 0 (textsTo bss 0) ∧ Below w.heap.size w (w.alloc (.cells #[] 9))) :=
    hide ⟨own_empty w w.heap.size _ (Nat.le_refl _), (Below.refl _ _).alloc (Nat.le_refl _) _⟩
  clear hL hlen
  go_enter Try.func5, Try.ntmps5
  go_wp2_with fail
  go_loopw [3, 9] (fun v i wr => ∃ k : Nat, k ≤ N ∧ i = .int .i64 k ∧ wr.ownsRow w.heap.size 9 1 v k (textsTo bss k) ∧ Below w.heap.size w wr) (fun _ i _ => N - (intOf i).toNat)
  case atStart => exact ⟨0, Nat.zero_le _, rfl, Hst.out⟩
  case round =>
    obtain ⟨k, hk, rfl, h1, h2⟩ := hrel
    have H1 := hide h1
    have H2 := hide h2
    by_cases hlt : k < N
    · obtain ⟨g, o, B, mb, f, b, rfl, hbk, hc, hb⟩ := (HL.out.below h2).at_ hlt
      have hmb : mb ≤ 70368744177664 := by rw [← hb.len]; exact Hlen.out b (List.mem_of_getElem? hbk)
      have Hfb := hide (formBytes_own B mb f b wr no hb (by omega))
      have Hsn := hide (textsTo_snoc hbk)
      have hsz := h2.size
      clear hb hbk h1 h2
      go_wp2_with fail
      with_reducible refine Hfb.out.mono ?_
      rintro e w1 ⟨vc, rfl, hcv, hcb⟩
      obtain ⟨Ac, cc, rfl, hrb⟩ := RB.of_own hcv
      have Hms := hide (maskString_any Ac mb cc b w1 no hrb (by omega))
      have Hcb := hide hcb
      generalize maskText b = mt at *
      generalize textsTo bss k = tk at *
      clear hrb hcv hcb
      go_wp2_with fail
      with_reducible refine Hms.out.mono ?_
      rintro e w2 ⟨rfl, hb2⟩
      have hbb : Below wr.heap.size wr w2 := Hcb.out.trans (hb2.mono Hcb.out.size)
      have hsz2 := hbb.size
      have Ho := hide ((own_below H1.out hbb).alloc (.cells #[.string ⟨mt.toArray⟩] 9))
      have Hbb := hide (H2.out.trans (hbb.mono H2.out.size))
      clear hb2 hbb
      unfold sv
      go_wp2_with (at_builtin; refine wpList_append_rd _ rfl (.tmp 13) (.tmp 17) _ rfl w.heap.size 9 i0 _ 16 Try.underlying23 hi hz0 hz1 hz2 rfl _ k _ rfl Ho.out no (some ⟨w2.heap.size, 0, none⟩) 1 1 [.string ⟨mt.toArray⟩] rfl ?_ ?_ ?_ ?_ ?_ ?_)
      · exact Rd.one w2 _ _ no (fun h => h)
      · intro u hu; simp at hu; subst hu; rfl
      · unfold maxLen; omega
      · omega
      · simp; omega
      intro v' w3 h1 h2 h3
      have Hs := hide h1
      rw [show tk ++ [Value.string ⟨mt.toArray⟩] = textsTo bss (k + 1) from Hsn.out.symm] at Hs
      have Hb := hide (below_append (Hbb.out.alloc Hbb.out.size _) h2 Ho.out (by simp; omega))
      clear h1 h2 h3
      go_wp2_with fail
      go_roundw
      case rel => exact ⟨k + 1, by omega, by go_num, Hs.out, Hb.out⟩
      case measure => simp [intOf]; omega
    · obtain rfl : k = N := by omega
      clear h1 h2
      go_wp2_with fail
      go_ret
      have h1 := H1.out
      unfold textsTo at h1
      rw [List.take_of_length_le (by rw [HL.out.len]; omega)] at h1
      obtain ⟨A', c', rfl, hRS⟩ := RS.of_own_av (av := fun g => g < w.heap.size) h1 (fun _ h => h)
      refine ⟨A', c', ?_, by rw [List.length_map, HL.out.len]; exact hRS, H2.out⟩
      show Ending.returned (.slice A' k c') = _
      rw [List.length_map, HL.out.len]
end Go.Proofs.Ytbpecepegceleaa
