/-
  The walk of FnLinesRead.
-/
import Derived.Test.YtmfcgglgolajnaaDoorMH
import Derived.Test.YtmfcgglgolajnaaDoorLinesL
import Derived.Test.YtmfcgglgolajnaaDoorChars
import Derived.Test.YtmfcgglgolajnaaDoorMB
namespace Go.Proofs.YtmfcgglgolajnaaDoor
open Go.RowKit
set_option linter.unusedVariables false

set_option maxHeartbeats 400000 in
theorem sameLists_eq (A B : Option Addr) (n c m d : Nat) (xs : List (List UInt8)) (w : World) (ha : RBB w no A n c xs) (hb : RBB w no B m d xs) :
    Calls Tryd.prog 20 #[.slice A n c, .slice B m d] w fun e w' => e = .returned (.bool true) ∧ ∃ q, w' = w.drewN q := by
  have hn := ha.cap
  have hn2 := ha.max
  obtain rfl : n = m := by rw [← ha.len, ← hb.len]
  unfold maxLen at hn2
  have hne : ((n : Int) != (n : Int)) = false := by simp
  have HA := hide ha
  have HB := hide hb
  clear ha hb
  go_enter Tryd.func20, Tryd.ntmps20
  go_wp2_with fail
  go_loopw [13] (fun i wr => ∃ k q : Nat, k ≤ n ∧ i = .int .i64 k ∧ wr = w.drewN q) (fun i _ => n - (intOf i).toNat)
  case atStart => exact ⟨0, 0, Nat.zero_le _, rfl, rfl⟩
  case round =>
    obtain ⟨k, q, hk, rfl, hwq⟩ := hrel
    by_cases hlt : k < n
    · have ha' := HA.out.drewN q
      have hb' := HB.out.drewN q
      rw [← hwq] at ha' hb'
      obtain ⟨g, o, P1, p1, q1, x, rfl, hx, hc, hr1⟩ := ha'.at_ hlt
      obtain ⟨g2, o2, P2, p2, q2, y, rfl, hy, hd, hr2⟩ := hb'.at_ hlt
      obtain rfl : x = y := by rw [hx] at hy; injection hy
      have Hsm := hide (fun n => same_any P1 P2 p1 q1 p2 q2 x x (wr.drewN n) no no (hr1.drewN n) (hr2.drewN n))
      rw [show eqL x x = true from eqL_iff.2 rfl] at Hsm
      have i1 : (0 : Int) ≤ k := by omega
      have i2 : (k : Int) < n := by omega
      have Hwq := hide hwq
      clear hx hy ha' hb' hr1 hr2 hwq
      go_wp2_with fail
      go_quiet ((go_at_call 16; exact Calls.quiet_of (Hsm.out _)))
      go_wp2_with fail
      go_roundw
      case rel => exact ⟨k + 1, _, by omega, by go_num, by rw [Hwq.out, World.drewN_drewN]⟩
      case measure => simp [intOf]; omega
    · go_wp2_with fail
      go_ret
      exact ⟨rfl, _, rfl⟩

/-- The text of the first k lines. -/
def AllS (ts : List (List UInt8)) (k : Nat) (v : Value) : Prop := v = .string ⟨(linesL (ts.take k)).toArray⟩ ∧ (linesL (ts.take k)).length ≤ k * 49

set_option maxRecDepth 100000 in
set_option maxHeartbeats 3200000 in
theorem fnLinesRead_walk (w : World) (hp : PreIs w) (g4 o4 g6 o6 : Nat) (hz : ZX w g4 o4 g6 o6) (a0 : Option Addr) (n0 c0 : Nat) (b0 : List (List UInt8)) (w0 : RBB w no a0 n0 c0 b0) (r0 : c0 * 24 ≤ 140737488351232) (l0 : ∀ b ∈ b0, b.length ≤ 140737488351232) :
    Calls Tryd.prog 4 #[.slice a0 n0 c0] w fun e w' => e = .returned (.bool true) ∧ Below w.heap.size w w' := by
  obtain ⟨i0, hinf, hz0, hz1, hz2⟩ := info_parts string_info
  have k0 := w0.cap
  have Hz := hide hz
  have Hp := hide hp
  have Hf := hide (fAddresses_any a0 n0 c0 b0 w w0 (by omega))
  have Hall : Hid (∀ b ∈ fAddrL b0, b.length = 4 ∨ b.length = 16) := hide (fun b hb => fAddrL_mem hb)
  have hle : (fAddrL b0).length ≤ n0 := by
    have := fAddrL_le b0 n0
    rwa [List.take_of_length_le (by rw [w0.len]; omega)] at this
  generalize fAddrL b0 = al at *
  clear w0 hp hz l0
  go_enter Tryd.func4, Tryd.ntmps4
  go_wp2_with fail
  with_reducible refine Hf.out.mono ?_
  rintro e wa ⟨A1, d1, rfl, h1, hb1⟩
  have hz1 := Hz.out.below hb1
  have Hs := hide (stringEach_any A1 al.length d1 al wa g4 o4 g6 o6 hz1 h1.free (by omega) Hall.out)
  have H1 := hide h1.free
  have Hb1 := hide hb1
  clear h1 hb1 hz1 Hf
  go_wp2_with fail
  with_reducible refine Hs.out.mono ?_
  rintro e wb ⟨A2, d2, rfl, h2, hb2⟩
  have hl2 : (al.map ipText).length = al.length := List.length_map _
  have Htl : Hid (∀ t ∈ al.map ipText, t.length ≤ 48 ∧ (37 : UInt8) ∉ t ∧ (10 : UInt8) ∉ t) := hide (fun t ht => by
    obtain ⟨b, hb, rfl⟩ := List.mem_map.1 ht
    exact ⟨ipText_len b (Hall.out b hb), (ipText_no b).1, (ipText_no b).2.1⟩)
  have Hre : Hid ((al.map ipText).map readG = to16Ls al) := hide (by
    unfold to16Ls
    rw [List.map_map]
    refine List.map_congr_left fun b hb => ?_
    have hbm := Hall.out b hb
    show readG (ipText b) = to16L b
    unfold readG
    rw [read_ipText b hbm]
    unfold to16L longOf
    rcases hbm with h | h
    · rw [if_pos h, if_pos h]; rfl
    · rw [if_neg (show ¬ b.length = 4 by omega), if_pos h, if_neg (show ¬ b.length = 4 by omega)]; rfl)
  rw [hl2] at h2 ⊢
  generalize hts : al.map ipText = ts at *
  have hbw2 := Hb1.out.trans (hb2.mono Hb1.out.size)
  have HG := hide (H1.out.below hb2)
  have H2 := hide h2.free
  have Hbw2 := hide hbw2
  have Hl2 := hide hl2
  clear h2 hb2 hbw2 Hs H1 hl2 hts
  go_wp2_with fail
  go_loop [4, 15] (fun s4 i => ∃ k : Nat, k ≤ al.length ∧ i = .int .i64 (k : Int) ∧ AllS ts k s4) (fun _ i => al.length - (intOf i).toNat)
  case atStart => exact ⟨0, Nat.zero_le _, rfl, rfl, by simp [linesL]⟩
  case round =>
    obtain ⟨k, hk, rfl, rfl, hjl⟩ := hrel
    by_cases hlt : k < al.length
    · obtain ⟨g, o, t, rfl, htk, hc⟩ := H2.out.at_ hlt
      have htl := (Htl.out t (List.mem_of_getElem? htk)).1
      have Hn := hide (linesL_snoc htk)
      clear htk
      generalize linesL (ts.take k) = jo at *
      have q1 : ¬ (9223372036854775807 < t.length + 1) := by omega
      have q2 : ¬ (9223372036854775807 < jo.length + (t.length + 1)) := by omega
      have Hjl := hide hjl
      have Htl2 := hide htl
      clear hjl htl
      go_wp2_with fail
      go_round
      case rel => exact ⟨k + 1, by omega, by go_num, by rw [Hn.out, ← ba_append, ← ba_append], by have := Hjl.out; have := Htl2.out; rw [Hn.out, List.length_append, List.length_append]; simp; omega⟩
      case measure => simp [intOf]; omega
    · obtain rfl : k = al.length := by omega
      have Hend : Hid (ts.take al.length = ts) := hide (List.take_of_length_le (by rw [Hl2.out]; omega))
      rw [Hend.out] at hjl ⊢
      have Hst : Hid ((wb.alloc (.cells #[] 9)).ownsRow wb.heap.size 9 1 (.slice (some ⟨wb.heap.size, 0, none⟩) 0 0) 0 ((ts.take 0).map sv) ∧ Below wb.heap.size wb (wb.alloc (.cells #[] 9))) :=
        hide ⟨own_empty wb wb.heap.size _ (Nat.le_refl _), (Below.refl _ _).alloc (Nat.le_refl _) _⟩
      obtain ⟨tot, htot⟩ : ∃ tot, tot = linesL ts := ⟨_, rfl⟩
      rw [← htot] at hjl ⊢
      have Htot := hide htot
      clear htot Hend
      go_wp2_with fail
      go_loopw [7, 8, 27] (fun v s8 i wr => ∃ k j : Nat, k ≤ tot.length ∧ i = .int .i64 (k : Int) ∧ s8 = .int .i64 (fromL ts j : Int) ∧ LInv ts j k ∧ wr.ownsRow wb.heap.size 9 1 v j ((ts.take j).map sv) ∧ Below wb.heap.size wb wr) (fun _ _ i _ => tot.length - (intOf i).toNat)
      case atStart => exact ⟨0, 0, Nat.zero_le _, rfl, by simp [fromL, linesL], LInv.start ts, Hst.out⟩
      case round =>
        obtain ⟨k, j, hk', rfl, rfl, hI, hr1, hr2⟩ := hrel
        have Hr1 := hide hr1
        have Hr2 := hide hr2
        by_cases hltk : k < tot.length
        · obtain ⟨t, ht⟩ := hI.line (by rw [← Htot.out]; exact hltk)
          have hjn := (List.getElem?_eq_some_iff.1 ht).1
          rw [Hl2.out] at hjn
          have k1 : (0 : Int) ≤ k := by omega
          have k2 : (k : Int) < tot.length := by omega
          by_cases hin : k < fromL ts j + t.length
          · obtain ⟨c, hc1, hc2, hI2⟩ := hI.inside ht hin
            rw [← Htot.out] at hc1
            have hgx := get_at hltk hc1
            have hc10 : ((c.toNat : Int) == 10) = false := by
              rw [beq_eq_false_iff_ne]
              intro e
              have : c = 10 := UInt8.toNat_inj.1 (by have : c.toNat = 10 := by omega
                                                     rw [this]; rfl)
              subst this
              exact (Htl.out t (List.mem_of_getElem? ht)).2.2 hc2
            have hc256 := lt_256 c
            have HI2 := hide hI2
            generalize hfrq : fromL ts j = fr at *
            have Hfrq := hide hfrq
            clear hI hI2 ht hc1 hc2 hr1 hr2 hin hfrq
            go_wp2_with fail
            go_roundw
            case rel => exact ⟨k + 1, j, by omega, by go_num, by rw [Hfrq.out], HI2.out, Hr1.out, Hr2.out⟩
            case measure => simp [intOf]; omega
          · obtain ⟨hc1, hex, hnx, hI2⟩ := hI.atEnd ht hin
            rw [← Htot.out] at hc1 hex
            have hgx := get_at hltk hc1
            have hext : (ByteArray.mk tot.toArray).extract (fromL ts j) k = ⟨t.toArray⟩ := by rw [ba_extract, hex]
            have hfr := hI.2.1
            have k3 : (fromL ts j : Int) ≤ k := by omega
            have k4 : (k : Int) ≤ tot.length := by omega
            have HI2 := hide hI2
            have Hnx := hide hnx
            have Hsn : Hid ((ts.take (j + 1)).map sv = (ts.take j).map sv ++ [.string ⟨t.toArray⟩]) := hide (by rw [take_snoc ht]; simp [sv])
            have hsz := hr2.size
            have Ho := hide (hr1.alloc (.cells #[.string ⟨t.toArray⟩] 9))
            generalize (ts.take j).map sv = nv at *
            generalize fromL ts j = fr at *
            clear hI hI2 ht hc1 hex hnx hr1 hr2 hin
            go_wp2_with (at_builtin; refine wpList_append_rd _ rfl (.tmp 34) (.tmp 39) _ rfl wb.heap.size 9 i0 _ 16 Tryd.underlying34 hinf hz0 hz1 hz2 rfl _ j _ rfl Ho.out no (some ⟨wr.heap.size, 0, none⟩) 1 1 [.string ⟨t.toArray⟩] rfl ?p1 ?p2 ?p3 ?p4 ?p5 ?_)
            case p1 => exact Rd.one wr _ _ no (fun h => h)
            case p2 => first | rfl | (intro u hu; simp at hu; subst hu; rfl)
            case p3 => unfold maxLen; omega
            case p4 => omega
            case p5 => first | omega | (simp; omega)
            intro v' w3 q1 q2 q3
            have HB := hide (below_append (Hr2.out.alloc Hr2.out.size _) q2 Ho.out (by simp; omega))
            have HO := hide q1
            rw [← Hsn.out] at HO
            clear q1 q2 q3 Ho
            go_wp2_with fail
            go_roundw
            case rel => exact ⟨k + 1, j + 1, by omega, by go_num, by rw [← Hnx.out]; go_num, HI2.out, HO.out, HB.out⟩
            case measure => simp [intOf]; omega
        · have hj := hI.over (by rw [← Htot.out]; exact hltk)
          rw [Hl2.out] at hj
          subst hj
          rw [List.take_of_length_le (by rw [Hl2.out]; exact Nat.le_refl _)] at hr1
          obtain ⟨A4, d4, rfl, hS⟩ := RS.of_own_av (av := no) hr1 (fun g h => h.elim)
          obtain ⟨wc, rfl⟩ : ∃ wc : World, wc = wr := ⟨_, rfl⟩
          have hbwc := Hbw2.out.trans (hr2.mono Hbw2.out.size)
          have Hpe := hide (parseEachG_any A4 al.length d4 ts wc g4 o4 g6 o6 hS (by omega) (Hz.out.below hbwc) (fun s hs => ⟨by have := (Htl.out s hs).1; omega, (Htl.out s hs).2.1⟩))
          rw [Hre.out] at Hpe
          have hl3 : (to16Ls al).length = al.length := by unfold to16Ls; exact List.length_map _
          unfold RetBB at Hpe
          rw [hl3] at Hpe
          have HGc := hide (HG.out.below hr2)
          have Hbwc := hide hbwc
          have Hl3 := hide hl3
          generalize fromL ts al.length = fr at *
          clear hI hr1 hr2 hS hbwc Hr1 Hr2 hl3
          go_wp2_with fail
          with_reducible refine Hpe.out.mono ?_
          rintro e wd ⟨A5, d5, rfl, h5, hb5⟩
          have hbwd := Hbwc.out.trans (hb5.mono Hbwc.out.size)
          have Ht6 := hide (to16Each_any A1 al.length d1 al wd no (HGc.out.below hb5) (fun b hb => by have := Hall.out b hb; omega) (by omega) (Hp.out.below hbwd))
          have H5 := hide h5
          have Hbwd := hide hbwd
          clear h5 hb5 hbwd Hpe HGc
          go_wp2_with fail
          with_reducible refine Ht6.out.mono ?_
          rintro e we ⟨A6, d6, rfl, h6, hb6⟩
          rw [Hl3.out] at h6 ⊢
          have Hsl := hide (sameLists_eq A5 A6 al.length d5 al.length d6 _ we (H5.out.below hb6) h6.free)
          have Hbwe := hide (Hbwd.out.trans (hb6.mono Hbwd.out.size))
          clear h6 hb6 H5 Ht6
          go_wp2_with fail
          with_reducible refine Hsl.out.mono ?_
          rintro e wf ⟨rfl, q, rfl⟩
          go_wp2_with fail
          go_ret
          exact ⟨rfl, below_drewN Hbwe.out q⟩
end Go.Proofs.YtmfcgglgolajnaaDoor
