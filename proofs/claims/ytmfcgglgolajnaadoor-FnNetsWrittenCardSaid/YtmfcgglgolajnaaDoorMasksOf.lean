/-
  The contract of MasksOf.
-/
import Derived.Test.YtmfcgglgolajnaaDoorMaskOf
import Derived.Test.YtmfcgglgolajnaaDoorMB
namespace Go.Proofs.YtmfcgglgolajnaaDoor
open Go.RowKit
set_option linter.unusedVariables false

def masksL (n : Nat) (zs : List Int) : List (List UInt8) := zs.map fun z => cidr n z.toNat
theorem masksL_snoc {n : Nat} {zs : List Int} {k : Nat} {z : Int} (h : zs[k]? = some z) : masksL n (zs.take (k + 1)) = masksL n (zs.take k) ++ [cidr n z.toNat] := by
  unfold masksL; rw [take_snoc h]; simp
theorem masksL_length (n : Nat) (zs : List Int) : (masksL n zs).length = zs.length := by unfold masksL; simp

set_option maxHeartbeats 1600000 in
theorem masksOf_any (L : Option Addr) (N e n : Nat) (b : Int) (zs : List Int) (w : World) (av : Nat → Prop) (hL : RI w av L N e zs) (hn : n = 4 ∨ n = 16) (hb : b = 8 * (n : Int)) (hz : ∀ z ∈ zs, 0 ≤ z ∧ z ≤ 8 * (n : Int)) (hN : N * 24 ≤ 140737488351232) :
    Calls Tryd.prog 39 #[.slice L N e, .int .i64 b] w (RetBBF (fun g => g < w.heap.size) w (masksL n zs)) := by
  obtain ⟨i0, hi, hz0, hz1, hz2⟩ := info_parts bytes_info
  have HL := hide hL.free
  have Hz := hide hz
  have Hb := hide hb
  have Hn := hide hn
  have Hst := hide (Made.start (fun g => g < w.heap.size) w)
  clear hL hz hb hn
  go_enter Tryd.func39, Tryd.ntmps39
  go_wp2_with fail
  go_loopw [5, 11] (fun v i wr => ∃ k : Nat, k ≤ N ∧ i = .int .i64 k ∧ Made (fun g => g < w.heap.size) w (masksL n (zs.take k)) v wr) (fun _ i _ => N - (intOf i).toNat)
  case atStart => exact ⟨0, Nat.zero_le _, rfl, Hst.out⟩
  case round =>
    obtain ⟨k, hk, rfl, hr⟩ := hrel
    have Hr := hide hr
    by_cases hlt : k < N
    · obtain ⟨xs, h1, h2, h3⟩ := hr
      obtain ⟨g, o, z, rfl, hzk, hc⟩ := (HL.out.below h3).at_ hlt
      have hzz := Hz.out z (List.mem_of_getElem? hzk)
      have Hcall := hide (cidrMask_own z b n wr Hn.out Hb.out hzz.1 hzz.2)
      have Hsn := hide (masksL_snoc (n := n) hzk)
      have hlen : (masksL n (zs.take k)).length = k := by rw [masksL_length, List.length_take, HL.out.len]; omega
      rw [hlen] at h1
      have Hlen := hide hlen
      have H1 := hide h1
      have H2 := hide h2
      have H3 := hide h3
      have hsz := h3.size
      have hcl := cidr_length n z.toNat
      have Hown : Hid (∀ g, rowOf u5 g → g < wr.heap.size) := hide fun g h => (h1.lt g h).2
      generalize masksL n (zs.take k) = al at *
      generalize cidr n z.toNat = cm at *
      have Hcl := hide hcl
      clear hzk h1 h2 h3 hzz hlen hcl
      go_wp2_with fail
      with_reducible refine Hcall.out.mono ?_
      rintro e w1 ⟨Ac, cc, rfl, hrb0, hcb⟩
      rw [Hcl.out] at hrb0 ⊢
      have hrb : RB w1 (fun g => g < w.heap.size ∨ rowOf u5 g) Ac n cc cm := hrb0.sub fun g _ h => h.elim (fun h => by omega) (fun h => Hown.out g h)
      have h1' := own_below H1.out hcb
      rw [← Hlen.out] at h1'
      have h2' := H2.out.keep (Kept.of_below hcb _)
      have h3' := H3.out.trans (hcb.mono H3.out.size)
      have hsz1 := hcb.size
      have Ho := hide (h1'.alloc (.cells #[.slice Ac n cc] 22))
      have Hf := hide (fun v' w' => Made.step (v' := v') (w' := w') h1' h2' h3' hrb)
      rw [Hlen.out] at Ho Hf
      clear h1' h2' h3' hrb hrb0 hcb
      go_wp2_with (at_builtin; refine wpList_append_rd _ rfl (.tmp 15) (.tmp 19) _ rfl w.heap.size 22 i0 _ 24 Tryd.underlying27 hi hz0 hz1 hz2 rfl _ k _ rfl Ho.out no (some ⟨w1.heap.size, 0, none⟩) 1 1 [.slice Ac n cc] rfl ?_ ?_ ?_ ?_ ?_ ?_)
      · exact Rd.one w1 _ _ no (fun h => h)
      · intro u hu; simp at hu; subst hu; rfl
      · unfold maxLen; omega
      · omega
      · simp; omega
      intro v' w2 h1 h2 h3
      have Hs := hide (Hf.out v' w2 h1 h2 h3)
      clear h1 h2 h3
      go_wp2_with fail
      go_roundw
      case rel => exact ⟨k + 1, by omega, by go_num, by rw [Hsn.out]; exact Hs.out⟩
      case measure => simp [intOf]; omega
    · obtain rfl : k = N := by omega
      clear hr
      go_wp2_with fail
      go_ret
      have h1 := Hr.out
      rw [List.take_of_length_le (by rw [HL.out.len]; omega)] at h1
      exact h1.retF (fun _ h => h)
end Go.Proofs.YtmfcgglgolajnaaDoor
