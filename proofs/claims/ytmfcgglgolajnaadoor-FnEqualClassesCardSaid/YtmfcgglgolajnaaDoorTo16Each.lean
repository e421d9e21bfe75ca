/-
  The contract of To16Each.
-/
import Derived.Test.YtmfcgglgolajnaaDoorForms
import Derived.Test.YtmfcgglgolajnaaDoorFormBytes
import Derived.Test.YtmfcgglgolajnaaDoorMade
namespace Go.Proofs.YtmfcgglgolajnaaDoor
open Go.RowKit
set_option linter.unusedVariables false

theorem to16L_snoc {bss : List (List UInt8)} {b : List UInt8} {k : Nat} (h : bss[k]? = some b) : (bss.take (k + 1)).map to16L = (bss.take k).map to16L ++ [to16L b] := by
  rw [take_snoc h, List.map_append]; rfl
def to16Ls (bss : List (List UInt8)) : List (List UInt8) := bss.map to16L

set_option maxHeartbeats 3200000 in
theorem to16Each_any (L : Option Addr) (N e : Nat) (bss : List (List UInt8)) (w : World) (av : Nat → Prop) (hL : RBB w av L N e bss) (hall : ∀ b ∈ bss, b.length ≤ 140737488351232) (hN : N * 24 ≤ 140737488351232) (hp : PreIs w) :
    Calls Tryd.prog 22 #[.slice L N e] w (RetBBF (fun g => g < w.heap.size) w (to16Ls bss)) := by
  obtain ⟨i0, hi, hz0, hz1, hz2⟩ := info_parts bytes_info
  have HL := hide hL.free
  have Hall := hide hall
  have Hp := hide hp
  have Hst := hide (Made.start (fun g => g < w.heap.size) w)
  clear hL hall hp
  go_enter Tryd.func22, Tryd.ntmps22
  go_wp2_with fail
  go_loopw [3, 9] (fun v i wr => ∃ k : Nat, k ≤ N ∧ i = .int .i64 k ∧ Made (fun g => g < w.heap.size) w (to16Ls (bss.take k)) v wr) (fun _ i _ => N - (intOf i).toNat)
  case atStart => exact ⟨0, Nat.zero_le _, rfl, Hst.out⟩
  case round =>
    obtain ⟨k, hk, rfl, hr⟩ := hrel
    have Hr := hide hr
    by_cases hlt : k < N
    · obtain ⟨xs, h1, h2, h3⟩ := hr
      obtain ⟨g, o, B, mb, f, b, rfl, hbk, hc, hb⟩ := (HL.out.below h3).at_ hlt
      have hbl : mb ≤ 140737488351232 := by rw [← hb.len]; exact Hall.out b (List.mem_of_getElem? hbk)
      have Hcall := hide (formBytes_own B mb f b wr no hb (by omega))
      have Hsn : Hid (to16Ls (bss.take (k + 1)) = to16Ls (bss.take k) ++ [to16L b]) := hide (to16L_snoc hbk)
      have hlen : (to16Ls (bss.take k)).length = k := by unfold to16Ls; rw [List.length_map, List.length_take, HL.out.len]; omega
      rw [hlen] at h1
      have Hlen := hide hlen
      have H1 := hide h1
      have H2 := hide h2
      have H3 := hide h3
      have hsz := h3.size
      have Hown : Hid (∀ g, rowOf u3 g → g < wr.heap.size) := hide fun g h => (h1.lt g h).2
      generalize to16Ls (bss.take k) = al at *
      clear hb hbk h1 h2 h3 hlen
      go_wp2_with fail
      with_reducible refine Hcall.out.mono ?_
      rintro e v1 ⟨v, rfl, h1, hb1⟩
      obtain ⟨A1, d1, rfl, h1'⟩ := RB.of_own h1
      have Hcall2 := hide (to16_any A1 mb d1 b v1 no h1' (Hp.out.below (H3.out.trans (hb1.mono H3.out.size))))
      have H3' := hide hb1
      clear h1 h1' hb1 Hcall
      go_wp2_with fail
      with_reducible refine Hcall2.out.mono ?_
      rintro e v2 ⟨A2, d2, rfl, h2, hb2⟩
      have hcl := to16L_le b
      have Hcall3 := hide (formBytes_own A2 (to16L b).length d2 (to16L b) v2 no h2 (by omega))
      have H4' := hide (H3'.out.trans (hb2.mono H3'.out.size))
      generalize hcm : to16L b = cm at *
      clear h2 hb2 Hcall2 H3' hcm
      go_wp2_with fail
      with_reducible refine Hcall3.out.mono ?_
      rintro e w1 ⟨v, rfl, h5, hb5⟩
      have hs2 := H4'.out.size
      obtain ⟨Ac, cc, rfl, hrb⟩ := RB.of_own_av (av := fun g => g < w.heap.size ∨ rowOf u3 g) h5 (fun g h => h.elim (fun h => by omega) (fun h => by have := Hown.out g h; omega))
      have hcb := H4'.out.trans (hb5.mono H4'.out.size)
      have h1' := own_below H1.out hcb
      rw [← Hlen.out] at h1'
      have h2' := H2.out.keep (Kept.of_below hcb _)
      have h3' := H3.out.trans (hcb.mono H3.out.size)
      have hsz1 := hcb.size
      have Ho := hide (h1'.alloc (.cells #[.slice Ac cm.length cc] 22))
      have Hf := hide (fun v' w' => Made.step (v' := v') (w' := w') h1' h2' h3' hrb)
      rw [Hlen.out] at Ho Hf
      clear h1' h2' h3' hrb hcb h5 hb5 Hcall3 H4'
      go_wp2_with (at_builtin; refine wpList_append_rd _ rfl (.tmp 13) (.tmp 18) _ rfl w.heap.size 22 i0 _ 24 Tryd.underlying27 hi hz0 hz1 hz2 rfl _ k _ rfl Ho.out no (some ⟨w1.heap.size, 0, none⟩) 1 1 [.slice Ac cm.length cc] rfl ?_ ?_ ?_ ?_ ?_ ?_)
      · exact Rd.one w1 _ _ no (fun h => h)
      · intro u hu; simp at hu; subst hu; rfl
      · unfold maxLen; omega
      · omega
      · simp; omega
      intro v' w2 h1 h2 h3
      have Hs := hide (Hf.out v' w2 h1 h2 h3)
      clear h1 h2 h3
      go_wp2_with fail
      go_roundw
      case rel => exact ⟨k + 1, by omega, by go_num, by rw [Hsn.out]; exact Hs.out⟩
      case measure => simp [intOf]; omega
    · obtain rfl : k = N := by omega
      clear hr
      go_wp2_with fail
      go_ret
      have h := Hr.out
      rw [List.take_of_length_le (by rw [HL.out.len]; omega)] at h
      exact h.retF (fun g h => h)
end Go.Proofs.YtmfcgglgolajnaaDoor
