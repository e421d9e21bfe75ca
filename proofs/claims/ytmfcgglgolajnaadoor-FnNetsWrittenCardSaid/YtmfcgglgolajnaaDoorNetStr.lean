/-
  The contracts of String of IPNet and of NetStrings, where number and mask are of one length and not IPv4-mapped.
-/
import Derived.Test.YtmfcgglgolajnaaDoorNnm
import Derived.Test.YtmfcgglgolajnaaDoorHexM
import Derived.Test.YtmfcgglgolajnaaDoorSize
import Derived.Test.YtmfcgglgolajnaaDoorMG
namespace Go.Proofs.YtmfcgglgolajnaaDoor
open Go.RowKit
set_option linter.unusedVariables false

theorem ba_app (a b : List UInt8) : (ByteArray.mk a.toArray) ++ (ByteArray.mk b.toArray) = ⟨(a ++ b).toArray⟩ := by
  apply ByteArray.ext
  simp [ByteArray.data_append]
theorem ipText_ln (b : List UInt8) (hb : b.length = 4 ∨ b.length = 16) : (ipText b).length ≤ 48 := by
  rcases hb with h4 | h16
  · match b, h4 with
    | [x0, x1, x2, x3], _ =>
      unfold ipText
      rw [if_pos (by simp)]
      have := dotsL_len4 x0 x1 x2 x3
      omega
  · match b, h16 with
    | [x0, x1, x2, x3, x4, x5, x6, x7, x8, x9, x10, x11, x12, x13, x14, x15], _ =>
      unfold ipText
      rw [if_neg (by simp)]
      split
      · have := dotsL_len4 x12 x13 x14 x15
        simp only [List.drop_succ_cons, List.drop_zero]
        omega
      · exact txt6_len _ (grpN_lt _)
/-- The text of a network whose mask is no ones and then zeros. -/
def netOdd (xs ms : List UInt8) : List UInt8 := ipText xs ++ [47] ++ hexB ms

set_option maxRecDepth 100000 in
set_option maxHeartbeats 1600000 in
theorem netString_odd (p q n c d : Nat) (A M : Option Addr) (xs ms : List UInt8) (w : World) (g4 o4 g6 o6 : Nat) (hz : ZX w g4 o4 g6 o6) (h0 : w.cell? ⟨p, q, none⟩ = some (.slice A n c)) (h1 : w.cell? ⟨p, q + 1, none⟩ = some (.slice M n d))
    (ha : RB w no A n c xs) (hm : RB w no M n d ms) (hn : n = 4 ∨ n = 16) (hmp : mapd xs = false) (hodd : onesOf ms = -1) :
    Calls Tryd.prog 40 #[.pointer (some ⟨p, q, none⟩)] w fun e w' => e = .returned (.string ⟨(netOdd xs ms).toArray⟩) ∧ Below w.heap.size w w' := by
  obtain ⟨ga, oa, _, rfl, _, _⟩ := ha.at_ (k := 0) (by omega)
  obtain ⟨gm, om, _, rfl, _, _⟩ := hm.at_ (k := 0) (by omega)
  have hnil := fun (w : World) a n c => Lib.run_eql_slice_nil (P := Tryd.prog) w 55 5 a n c 0 0 Tryd.underlying55
  have hnil2 := fun (w : World) a n c => Lib.run_eql_slice_nil (P := Tryd.prog) w 62 5 a n c 0 0 Tryd.underlying62
  have Hn := hide (nnm_any p q n _ _ c d w no xs h0 h1 hn ha hmp)
  have Hs := hide (sml_any _ n d ms w no hm (by omega))
  rw [hodd] at Hs
  have Hi := hide (ipString_any _ n c xs w no g4 o4 g6 o6 hz ha hn)
  have Hm := hide hm
  have hln := ipText_ln xs (by rw [ha.len]; exact hn)
  have hn16 : n ≤ 16 := by omega
  have Hmt : Hid (maskText ms = hexB ms ∧ (hexB ms).length ≤ 32) := hide (by
    have hl := hm.len
    refine ⟨?_, by rw [hexB_length]; omega⟩
    unfold maskText
    rw [if_neg (by omega)])
  unfold netOdd
  generalize hexB ms = hx at *
  generalize ipText xs = tx at *
  clear ha hm hz h0 h1 hmp hodd hn
  go_enter Tryd.func40, Tryd.ntmps40
  go_wp2_with fail
  with_reducible refine Hn.out.mono ?_
  rintro e w' ⟨rfl, rfl⟩
  go_wp2_with fail
  with_reducible refine Hs.out.mono ?_
  rintro e w' ⟨rfl, rfl⟩
  go_wp2_with fail
  with_reducible refine Hi.out.mono ?_
  rintro e w1 ⟨rfl, hb1⟩
  have Hk := hide (maskString_any _ n d ms w1 no (Hm.out.below hb1) (by omega))
  rw [Hmt.out.1] at Hk
  have hhl := Hmt.out.2
  have Hb1 := hide hb1
  have q1 : ¬ (9223372036854775807 < tx.length + 1) := by omega
  have q2 : ¬ (9223372036854775807 < tx.length + 1 + hx.length) := by omega
  unfold sv at Hk
  clear hb1 hhl hln Hi Hs Hn
  go_wp2_with fail
  with_reducible refine Hk.out.mono ?_
  rintro e w2 ⟨rfl, hb2⟩
  have Hb2 := hide (Hb1.out.trans (hb2.mono Hb1.out.size))
  clear hb2 Hk
  go_wp2_with fail
  go_ret
  refine ⟨?_, Hb2.out⟩
  show Ending.returned (Value.string ((ByteArray.mk tx.toArray) ++ (ByteArray.mk [47].toArray) ++ (ByteArray.mk hx.toArray))) = _
  rw [ba_app, ba_app]
end Go.Proofs.YtmfcgglgolajnaaDoor
