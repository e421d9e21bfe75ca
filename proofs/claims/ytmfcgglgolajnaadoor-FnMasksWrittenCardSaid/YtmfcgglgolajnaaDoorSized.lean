/-
  The contract of sized: the masks of a list that have m bytes, copied.
-/
import Derived.Test.YtmfcgglgolajnaaDoorMB
namespace Go.Proofs.YtmfcgglgolajnaaDoor
open Go.RowKit

def sizedL (bss : List (List UInt8)) (m : Nat) : List (List UInt8) := bss.filter fun b => decide (b.length = m)
theorem sizedL_keep {bss : List (List UInt8)} {m k : Nat} {b : List UInt8} (hb : bss[k]? = some b) (h : b.length = m) : sizedL (bss.take (k + 1)) m = sizedL (bss.take k) m ++ [b] := by
  unfold sizedL; rw [take_snoc hb, List.filter_append]; simp [h]
theorem sizedL_drop {bss : List (List UInt8)} {m k : Nat} {b : List UInt8} (hb : bss[k]? = some b) (h : b.length ≠ m) : sizedL (bss.take (k + 1)) m = sizedL (bss.take k) m := by
  unfold sizedL; rw [take_snoc hb, List.filter_append]; simp [h]
theorem sizedL_le (bss : List (List UInt8)) (m k : Nat) : (sizedL (bss.take k) m).length ≤ k :=
  Nat.le_trans (List.length_filter_le _ _) (by rw [List.length_take]; omega)
theorem sizedL_mem {bss : List (List UInt8)} {m : Nat} {b : List UInt8} (h : b ∈ sizedL bss m) : b.length = m := by
  unfold sizedL at h
  simp at h
  exact h.2

set_option maxHeartbeats 1600000 in
theorem sized_any (L : Option Addr) (N e m : Nat) (bss : List (List UInt8)) (w : World) (hL : RBB w no L N e bss) (hN : N * 24 ≤ 140737488351232) (hlen : ∀ b ∈ bss, b.length ≤ 140737488351232) :
    Calls Tryd.prog 31 #[.slice L N e, .int .i64 (m : Int)] w (RetBBF (fun g => g < w.heap.size) w (sizedL bss m)) := by
  obtain ⟨i0, hi, hz0, hz1, hz2⟩ := info_parts bytes_info
  have HL := hide hL
  have Hlen := hide hlen
  clear hL hlen
  have hst := Made.start (fun g => g < w.heap.size) w
  have Hst := hide hst
  clear hst
  go_enter Tryd.func31, Tryd.ntmps31
  go_wp2
  go_loopw [5, 11] (fun v i wr => ∃ k : Nat, k ≤ N ∧ i = .int .i64 k ∧ Made (fun g => g < w.heap.size) w (sizedL (bss.take k) m) v wr) (fun _ i _ => N - (intOf i).toNat)
  case atStart => exact ⟨0, Nat.zero_le _, rfl, Hst.out⟩
  case round =>
    obtain ⟨k, hk, rfl, hr⟩ := hrel
    have Hr := hide hr
    by_cases hlt : k < N
    · obtain ⟨xs, h1, h2, h3⟩ := hr
      obtain ⟨g, o, B, mb, f, b, rfl, hbk, hc, hb⟩ := (HL.out.below h3).at_ hlt
      have Hbk := hide hbk
      have Hb := hide hb
      have hmb := Hlen.out b (List.mem_of_getElem? hbk)
      have hbl := Hb.out.len
      rw [hbl] at hmb
      have Hbl := hide hbl
      have H1 := hide h1
      have H2 := hide h2
      have H3 := hide h3
      clear hbk hb h1 h2 h3 hbl
      by_cases hlm : mb = m
      · subst hlm
        have t1 : ((mb : Int) == (mb : Int)) = true := by simp
        have hsz := H3.out.size
        have hal := sizedL_le bss mb k
        have Hg := hide (sizedL_keep Hbk.out Hbl.out)
        generalize sizedL (bss.take k) mb = al at *
        have Hcop := hide (copied_own B mb f b wr no Hb.out (by omega))
        have hown : ∀ g, (g < w.heap.size ∨ rowOf u5 g) → g < wr.heap.size := fun g hg => hg.elim (fun h => by omega) (fun h => (H1.out.lt g h).2)
        have Hown := hide hown
        clear hown
        go_wp2_with fail
        with_reducible refine Hcop.out.mono ?_
        rintro e w1 ⟨vc, rfl, hcv, hcb⟩
        obtain ⟨Ac, cc, rfl, hrb⟩ := RB.of_own_av (av := fun g => g < w.heap.size ∨ rowOf u5 g) hcv Hown.out
        have h1' := own_below H1.out hcb
        have h2' := H2.out.keep (Kept.of_below hcb _)
        have h3' := H3.out.trans (hcb.mono H3.out.size)
        have hsz1 := hcb.size
        have Ho := hide (h1'.alloc (.cells #[.slice Ac mb cc] 22))
        have Hf := hide (fun v' w' => Made.step (v' := v') (w' := w') h1' h2' h3' hrb)
        clear h1' h2' h3' hrb hcv hcb
        go_wp2_with (at_builtin; refine wpList_append_rd _ rfl (.tmp 19) (.tmp 22) _ rfl w.heap.size 22 i0 _ 24 Tryd.underlying27 hi hz0 hz1 hz2 rfl _ al.length _ rfl Ho.out no (some ⟨w1.heap.size, 0, none⟩) 1 1 [.slice Ac mb cc] rfl ?_ ?_ ?_ ?_ ?_ ?_)
        · exact Rd.one w1 _ _ no (fun h => h)
        · intro u hu; simp at hu; subst hu; rfl
        · unfold maxLen; omega
        · omega
        · simp; omega
        intro v' w2 h1 h2 h3
        have Hs := hide (Hf.out v' w2 h1 h2 h3)
        clear h1 h2 h3
        go_wp2_with fail
        go_roundw
        case rel => exact ⟨k + 1, by omega, by go_num, by rw [Hg.out]; exact Hs.out⟩
        case measure => simp [intOf]; omega
      · have t1 : ((mb : Int) == (m : Int)) = false := by simp; omega
        have Hg := hide (sizedL_drop (m := m) Hbk.out (by rw [Hbl.out]; exact hlm))
        clear hlm
        go_wp2
        go_roundw
        case rel => exact ⟨k + 1, by omega, by go_num, by rw [Hg.out]; exact Hr.out⟩
        case measure => simp [intOf]; omega
    · obtain rfl : k = N := by omega
      clear hr
      go_wp2
      go_ret
      have h1 := Hr.out
      rw [List.take_of_length_le (by rw [HL.out.len]; omega)] at h1
      exact h1.retF (fun _ h => h)
end Go.Proofs.YtmfcgglgolajnaaDoor
