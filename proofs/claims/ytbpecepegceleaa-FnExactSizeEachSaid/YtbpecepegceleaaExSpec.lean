/-
  The contract of spec.SizeEach.
-/
import Derived.Test.YtbpecepegceleaaSizeEach
import Derived.Test.YtbpecepegceleaaExOnes
namespace Go.Proofs.Ytbpecepegceleaa
open Go.RowKit
set_option linter.unusedVariables false

theorem onesOf_or (b : List UInt8) : onesOf b = -1 ∨ 0 ≤ onesOf b := by
  unfold onesOf
  split
  · right; omega
  · left; rfl

set_option maxHeartbeats 1600000 in
theorem specSizeEach_any (L : Option Addr) (N e : Nat) (bss : List (List UInt8)) (w : World) (av : Nat → Prop) (hL : RBB w av L N e bss) (hN : N ≤ 1048576) (hlen : ∀ b ∈ bss, b.length ≤ 1048576) :
    Calls Try.prog 9 #[.slice L N e] w (RetII w (onesEach bss) (bitsEach bss)) := by
  obtain ⟨i0, hi, hz0, hz1, hz2⟩ := info_parts int_info
  have HL := hide hL.free
  have Hlen := hide hlen
  have Hst := hide (TwoRows.start w)
  clear hL hlen
  go_enter Try.func9, Try.ntmps9
  go_wp2_with fail
  go_loopw [4, 5, 13] (fun v u i wr => ∃ k : Nat, k ≤ N ∧ i = .int .i64 k ∧ TwoRows w (onesEach (bss.take k)) (bitsEach (bss.take k)) v u wr) (fun _ _ i _ => N - (intOf i).toNat)
  case atStart => exact ⟨0, Nat.zero_le _, rfl, Hst.out⟩
  case round =>
    obtain ⟨k, hk, rfl, hr⟩ := hrel
    have Hr := hide hr
    by_cases hlt : k < N
    · obtain ⟨g, o, B, mb, f, b, rfl, hbk, hc, hb⟩ := (HL.out.below hr.2.2.2).at_ hlt
      have hmb : mb ≤ 1048576 := by rw [← hb.len]; exact Hlen.out b (List.mem_of_getElem? hbk)
      have Hsz := hide (specOnes_any B mb f b wr no hb hmb)
      have Ho := hide (onesEach_snoc hbk)
      have Hb := hide (bitsEach_snoc hbk)
      have hl1 : (onesEach (bss.take k)).length = k := by unfold onesEach; rw [List.length_map, List.length_take, HL.out.len]; omega
      have hl2 : (bitsEach (bss.take k)).length = k := by unfold bitsEach; rw [List.length_map, List.length_take, HL.out.len]; omega
      have Hl1 := hide hl1
      have Hl2 := hide hl2
      have hsz := hr.2.2.2.size
      generalize onesEach (bss.take k) = os at *
      generalize bitsEach (bss.take k) = bz at *
      rcases onesOf_or b with hor | hor
      · have hz : (onesOf b) = -1 := hor
        have e1 : sizeOnes b = 0 := by unfold sizeOnes; rw [if_pos hz]
        have e2 : sizeBits b = 0 := by unfold sizeBits; rw [if_pos hz]
        rw [hz] at Hsz
        rw [e1] at Ho
        rw [e2] at Hb
        clear hz e1 e2 hor
        have Hr1 := hide (hr.1.alloc (.cells #[.int .i64 0] 3))
        rw [Hl1.out] at Hr1
        generalize hom : os.map (Value.int .i64) = om at *
        have Hom := hide hom
        clear hr hb hbk hl1 hl2 hom
        go_wp2_with fail
        with_reducible refine Hsz.out.mono ?_
        rintro e w' ⟨rfl, rfl⟩
        go_wp2_with (at_builtin; refine wpList_append_rd _ rfl (.tmp 21) (.tmp 22) _ rfl w.heap.size 3 i0 _ 8 Try.underlying29 hi hz0 hz1 hz2 rfl _ k _ rfl Hr1.out no (some ⟨wr.heap.size, 0, none⟩) 1 1 [.int .i64 0] rfl ?_ ?_ ?_ ?_ ?_ ?_)
        · exact Rd.one wr _ _ no (fun h => h)
        · intro u hu; simp at hu; subst hu; rfl
        · unfold maxLen; omega
        · omega
        · simp; omega
        intro v' w2 h1 h2 h3
        have Hs := hide (TwoRows.first Hr.out (by rw [Hl1.out, Hom.out]; exact h1) h2 h3)
        have hsz2 := Hs.out.2.2.2.size
        have Hr2 := hide (Hs.out.2.1.alloc (.cells #[.int .i64 0] 3))
        rw [Hl2.out] at Hr2
        generalize hbm : bz.map (Value.int .i64) = bm at *
        have Hbm := hide hbm
        clear h1 h2 h3 Hr1 hbm
        go_wp2_with (at_builtin; refine wpList_append_rd _ rfl (.tmp 24) (.tmp 25) _ rfl w.heap.size 3 i0 _ 8 Try.underlying29 hi hz0 hz1 hz2 rfl _ k _ rfl Hr2.out no (some ⟨w2.heap.size, 0, none⟩) 1 1 [.int .i64 0] rfl ?_ ?_ ?_ ?_ ?_ ?_)
        · exact Rd.one w2 _ _ no (fun h => h)
        · intro u hu; simp at hu; subst hu; rfl
        · unfold maxLen; omega
        · omega
        · simp; omega
        intro u' w3 h1 h2 h3
        have Hs2 := hide (TwoRows.second Hs.out (by rw [Hl2.out, Hbm.out]; exact h1) h2 h3)
        clear h1 h2 h3
        go_wp2_with fail
        go_roundw
        case rel => exact ⟨k + 1, by omega, by go_num, by rw [Ho.out, Hb.out]; exact Hs2.out⟩
        case measure => simp [intOf]; omega
      · have hz : ¬ (onesOf b) = -1 := by omega
        have e1 : sizeOnes b = onesOf b := by unfold sizeOnes; rw [if_neg hz]
        have e2 : sizeBits b = 8 * (mb : Int) := by unfold sizeBits; rw [if_neg hz, hb.len]
        rw [e1] at Ho
        rw [e2] at Hb
        clear hz e1 e2
        generalize onesOf b = z1 at *
        have hor2 : ¬ (z1 < 0) := by omega
        have Hr1 := hide (hr.1.alloc (.cells #[.int .i64 z1] 3))
        rw [Hl1.out] at Hr1
        generalize hom : os.map (Value.int .i64) = om at *
        have Hom := hide hom
        clear hr hb hbk hl1 hl2 hom
        go_wp2_with fail
        with_reducible refine Hsz.out.mono ?_
        rintro e w' ⟨rfl, rfl⟩
        go_wp2_with (at_builtin; refine wpList_append_rd _ rfl (.tmp 27) (.tmp 29) _ rfl w.heap.size 3 i0 _ 8 Try.underlying29 hi hz0 hz1 hz2 rfl _ k _ rfl Hr1.out no (some ⟨wr.heap.size, 0, none⟩) 1 1 [.int .i64 z1] rfl ?_ ?_ ?_ ?_ ?_ ?_)
        · exact Rd.one wr _ _ no (fun h => h)
        · intro u hu; simp at hu; subst hu; rfl
        · unfold maxLen; omega
        · omega
        · simp; omega
        intro v' w2 h1 h2 h3
        have Hs := hide (TwoRows.first Hr.out (by rw [Hl1.out, Hom.out]; exact h1) h2 h3)
        have hsz2 := Hs.out.2.2.2.size
        have Hr2 := hide (Hs.out.2.1.alloc (.cells #[.int .i64 (8 * (mb : Int))] 3))
        rw [Hl2.out] at Hr2
        generalize hbm : bz.map (Value.int .i64) = bm at *
        have Hbm := hide hbm
        clear h1 h2 h3 Hr1 hbm
        go_wp2_with (at_builtin; refine wpList_append_rd _ rfl (.tmp 31) (.tmp 35) _ rfl w.heap.size 3 i0 _ 8 Try.underlying29 hi hz0 hz1 hz2 rfl _ k _ rfl Hr2.out no (some ⟨w2.heap.size, 0, none⟩) 1 1 [.int .i64 (8 * (mb : Int))] rfl ?_ ?_ ?_ ?_ ?_ ?_)
        · exact Rd.one w2 _ _ no (fun h => h)
        · intro u hu; simp at hu; subst hu; rfl
        · unfold maxLen; omega
        · omega
        · simp; omega
        intro u' w3 h1 h2 h3
        have Hs2 := hide (TwoRows.second Hs.out (by rw [Hl2.out, Hbm.out]; exact h1) h2 h3)
        clear h1 h2 h3
        go_wp2_with fail
        go_roundw
        case rel => exact ⟨k + 1, by omega, by go_num, by rw [Ho.out, Hb.out]; exact Hs2.out⟩
        case measure => simp [intOf]; omega
    · obtain rfl : k = N := by omega
      clear hr
      go_wp2_with fail
      go_ret2
      have h1 := Hr.out
      rw [List.take_of_length_le (by rw [HL.out.len]; omega)] at h1
      exact ⟨_, _, rfl, h1⟩
end Go.Proofs.Ytbpecepegceleaa
