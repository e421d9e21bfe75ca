/-
  The contract of String of IPNet, where the mask is ones and then zeros.
-/
import Derived.Test.YtmfcgglgolajnaaDoorNetStr
import Derived.Test.YtmfcgglgolajnaaDoorItoa
namespace Go.Proofs.YtmfcgglgolajnaaDoor
open Go.RowKit
set_option linter.unusedVariables false

/-- The text of a network whose mask is ones and then zeros. -/
def netC (xs ms : List UInt8) : List UInt8 := ipText xs ++ [47] ++ decL (onesOf ms).toNat

set_option maxRecDepth 100000 in
set_option maxHeartbeats 1600000 in
theorem netString_ones (p q n c d : Nat) (A M : Option Addr) (xs ms : List UInt8) (w : World) (g4 o4 g6 o6 : Nat) (hz : ZX w g4 o4 g6 o6) (h0 : w.cell? ⟨p, q, none⟩ = some (.slice A n c)) (h1 : w.cell? ⟨p, q + 1, none⟩ = some (.slice M n d))
    (ha : RB w no A n c xs) (hm : RB w no M n d ms) (hn : n = 4 ∨ n = 16) (hmp : mapd xs = false) (l : Nat) (hl : l ≤ 128) (hodd : onesOf ms = (l : Int)) (ht : Pow10 w) :
    Calls Tryd.prog 40 #[.pointer (some ⟨p, q, none⟩)] w fun e w' => e = .returned (.string ⟨(netC xs ms).toArray⟩) ∧ Below w.heap.size w w' := by
  obtain ⟨ga, oa, _, rfl, _, _⟩ := ha.at_ (k := 0) (by omega)
  obtain ⟨gm, om, _, rfl, _, _⟩ := hm.at_ (k := 0) (by omega)
  have hnil := fun (w : World) a n c => Lib.run_eql_slice_nil (P := Tryd.prog) w 55 5 a n c 0 0 Tryd.underlying55
  have hnil2 := fun (w : World) a n c => Lib.run_eql_slice_nil (P := Tryd.prog) w 62 5 a n c 0 0 Tryd.underlying62
  have Hn := hide (nnm_any p q n _ _ c d w no xs h0 h1 hn ha hmp)
  have Hs := hide (sml_any _ n d ms w no hm (by omega))
  rw [hodd] at Hs
  have Hi := hide (ipString_any _ n c xs w no g4 o4 g6 o6 hz ha hn)
  have Hm := hide hm
  have hln := ipText_ln xs (by rw [ha.len]; exact hn)
  have hn16 : n ≤ 16 := by omega
  have Hp := hide ht
  have hhl : (decL l).length ≤ 4 := decL_length_le (k := 3) (by omega)
  unfold netC
  rw [hodd, Int.toNat_natCast]
  generalize hhx : decL l = hx at *
  have Hhx := hide hhx
  have hlm : ((l : Int) == -1) = false := by rw [beq_eq_false_iff_ne]; omega
  generalize ipText xs = tx at *
  clear ha hm hz h0 h1 hmp hodd hn ht hhx
  go_enter Tryd.func40, Tryd.ntmps40
  go_wp2_with fail
  with_reducible refine Hn.out.mono ?_
  rintro e w' ⟨rfl, rfl⟩
  go_wp2_with fail
  with_reducible refine Hs.out.mono ?_
  rintro e w' ⟨rfl, rfl⟩
  go_wp2_with fail
  with_reducible refine Hi.out.mono ?_
  rintro e w1 ⟨rfl, hb1⟩
  have Hk := hide (itoa_any l (by omega) w1 (Hp.out.below hb1))
  rw [Hhx.out] at Hk
  have Hb1 := hide hb1
  have q1 : ¬ (9223372036854775807 < tx.length + 1) := by omega
  have q2 : ¬ (9223372036854775807 < tx.length + 1 + hx.length) := by omega
  clear hb1 hhl hln Hi Hs Hn
  go_wp2_with fail
  with_reducible refine Hk.out.mono ?_
  rintro e w2 ⟨rfl, hb2⟩
  have Hb2 := hide (Hb1.out.trans (hb2.mono Hb1.out.size))
  clear hb2 Hk
  go_wp2_with fail
  go_ret
  refine ⟨?_, Hb2.out⟩
  show Ending.returned (Value.string ((ByteArray.mk tx.toArray) ++ (ByteArray.mk [47].toArray) ++ (ByteArray.mk hx.toArray))) = _
  rw [ba_app, ba_app]
end Go.Proofs.YtmfcgglgolajnaaDoor
