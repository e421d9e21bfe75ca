/-
  The contract of alike: the addresses of a list that have m bytes, 4 or 16, and are not IPv4-mapped, copied.
-/
import Derived.Test.YtmfcgglgolajnaaDoorMapped
import Derived.Test.YtmfcgglgolajnaaDoorMB
namespace Go.Proofs.YtmfcgglgolajnaaDoor
open Go.RowKit

set_option maxHeartbeats 1600000 in
theorem alike_new (L : Option Addr) (N e m : Nat) (bss : List (List UInt8)) (w : World) (hL : RBB w no L N e bss) (hN : N * 24 ≤ 140737488351232) (hlen : ∀ b ∈ bss, b.length ≤ 140737488351232) :
    Calls Tryd.prog 23 #[.slice L N e, .int .i64 (m : Int)] w (RetBBF (fun g => g < w.heap.size) w (alikeL bss m)) := by
  obtain ⟨i0, hi, hz0, hz1, hz2⟩ := info_parts bytes_info
  have HL := hide hL
  have Hlen := hide hlen
  clear hL hlen
  have hst := Made.start (fun g => g < w.heap.size) w
  have Hst := hide hst
  clear hst
  go_enter Tryd.func23, Tryd.ntmps23
  go_wp2
  go_loopw [5, 11] (fun v i wr => ∃ k : Nat, k ≤ N ∧ i = .int .i64 k ∧ Made (fun g => g < w.heap.size) w (alikeL (bss.take k) m) v wr) (fun _ i _ => N - (intOf i).toNat)
  case atStart => exact ⟨0, Nat.zero_le _, rfl, Hst.out⟩
  case round =>
    obtain ⟨k, hk, rfl, hr⟩ := hrel
    have Hr := hide hr
    by_cases hlt : k < N
    · obtain ⟨xs, h1, h2, h3⟩ := hr
      obtain ⟨g, o, B, mb, f, b, rfl, hbk, hc, hb⟩ := (HL.out.below h3).at_ hlt
      have Hbk := hide hbk
      have Hb := hide hb
      have hmb := Hlen.out b (List.mem_of_getElem? hbk)
      have hbl := Hb.out.len
      rw [hbl] at hmb
      have Hbl := hide hbl
      have H1 := hide h1
      have H2 := hide h2
      have H3 := hide h3
      clear hbk hb h1 h2 h3 hbl
      by_cases hlm : mb = m
      · subst hlm
        have t1 : ((mb : Int) == (mb : Int)) = true := by simp
        by_cases h416 : mb = 4 ∨ mb = 16
        · have H416 := hide h416
          have ht : (((mb : Int) == 4) = true) ∨ (((mb : Int) == 4) = false ∧ ((mb : Int) == 16) = true) := by
            rcases h416 with h | h <;> simp [h]
          clear h416
          have hsz := H3.out.size
          have hal := alikeL_le bss mb k
          have hmap := isMapped_any B mb f b wr no Hb.out
          cases hmp : mapd b with
          | true =>
            rw [hmp] at hmap
            have Hmap := hide hmap
            have Hg := hide (alikeL_drop Hbk.out (goodA_no3 (m := mb) hmp))
            clear hmap hmp hal
            rcases ht with t2 | ⟨t2, t3⟩
            all_goals
              go_wp2_with fail
              refine Hmap.out.mono ?_
              rintro e w' ⟨rfl, rfl⟩
              go_wp2
              go_roundw
              case rel => exact ⟨k + 1, by omega, by go_num, by rw [Hg.out]; exact Hr.out⟩
              case measure => simp [intOf]; omega
          | false =>
            rw [hmp] at hmap
            have Hmap := hide hmap
            have Hg := hide (alikeL_keep Hbk.out (goodA_yes Hbl.out H416.out hmp))
            generalize alikeL (bss.take k) mb = al at *
            have Hcop := hide (copied_own B mb f b wr no Hb.out (by omega))
            have hown : ∀ g, (g < w.heap.size ∨ rowOf u5 g) → g < wr.heap.size := fun g hg => hg.elim (fun h => by omega) (fun h => (H1.out.lt g h).2)
            have Hown := hide hown
            clear hmap hmp hown
            rcases ht with t2 | ⟨t2, t3⟩
            all_goals
              go_wp2_with fail
              refine Hmap.out.mono ?_
              rintro e w' ⟨rfl, rfl⟩
              go_wp2_with fail
              refine Hcop.out.mono ?_
              rintro e w1 ⟨vc, rfl, hcv, hcb⟩
              obtain ⟨Ac, cc, rfl, hrb⟩ := RB.of_own_av (av := fun g => g < w.heap.size ∨ rowOf u5 g) hcv Hown.out
              have h1' := own_below H1.out hcb
              have h2' := H2.out.keep (Kept.of_below hcb _)
              have h3' := H3.out.trans (hcb.mono H3.out.size)
              have hsz1 := hcb.size
              have Ho := hide (h1'.alloc (.cells #[.slice Ac mb cc] 22))
              have Hf := hide (fun v' w' => Made.step (v' := v') (w' := w') h1' h2' h3' hrb)
              clear h1' h2' h3' hrb hcv hcb
              go_wp2_with (at_builtin; refine wpList_append_rd _ rfl (.tmp 32) (.tmp 35) _ rfl w.heap.size 22 i0 _ 24 Tryd.underlying27 hi hz0 hz1 hz2 rfl _ al.length _ rfl Ho.out no (some ⟨w1.heap.size, 0, none⟩) 1 1 [.slice Ac mb cc] rfl ?_ ?_ ?_ ?_ ?_ ?_)
              · exact Rd.one w1 _ _ no (fun h => h)
              · intro u hu; simp at hu; subst hu; rfl
              · unfold maxLen; omega
              · omega
              · simp; omega
              intro v' w2 h1 h2 h3
              have Hs := hide (Hf.out v' w2 h1 h2 h3)
              clear h1 h2 h3
              go_wp2
              go_roundw
              case rel => exact ⟨k + 1, by omega, by go_num, by rw [Hg.out]; exact Hs.out⟩
              case measure => simp [intOf]; omega
        · have t2 : ((mb : Int) == 4) = false := by simp; omega
          have t3 : ((mb : Int) == 16) = false := by simp; omega
          have Hg := hide (alikeL_drop Hbk.out (goodA_no2 h416))
          clear h416
          go_wp2
          go_roundw
          case rel => exact ⟨k + 1, by omega, by go_num, by rw [Hg.out]; exact Hr.out⟩
          case measure => simp [intOf]; omega
      · have t1 : ((mb : Int) == (m : Int)) = false := by simp; omega
        have Hg := hide (alikeL_drop Hbk.out (goodA_no1 (m := m) (by rw [Hbl.out]; exact hlm)))
        clear hlm
        go_wp2
        go_roundw
        case rel => exact ⟨k + 1, by omega, by go_num, by rw [Hg.out]; exact Hr.out⟩
        case measure => simp [intOf]; omega
    · obtain rfl : k = N := by omega
      clear hr
      go_wp2
      go_ret
      have h1 := Hr.out
      rw [List.take_of_length_le (by rw [HL.out.len]; omega)] at h1
      exact h1.retF (fun _ h => h)

theorem alike_any (L : Option Addr) (N e m : Nat) (bss : List (List UInt8)) (w : World) (hL : RBB w no L N e bss) (hN : N * 24 ≤ 140737488351232) (hlen : ∀ b ∈ bss, b.length ≤ 140737488351232) :
    Calls Tryd.prog 23 #[.slice L N e, .int .i64 (m : Int)] w (RetBB w (alikeL bss m)) :=
  (alike_new L N e m bss w hL hN hlen).mono fun _ _ ⟨A, c, h1, h2, h3⟩ => ⟨A, c, h1, h2.free, h3⟩
end Go.Proofs.YtmfcgglgolajnaaDoor
