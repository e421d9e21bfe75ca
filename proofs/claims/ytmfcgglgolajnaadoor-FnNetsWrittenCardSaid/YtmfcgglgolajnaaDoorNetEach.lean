/-
  The contract of NetStrings, given what String says of each network.
-/
import Derived.Test.YtmfcgglgolajnaaDoorNetStr
import Derived.Test.YtmfcgglgolajnaaDoorMB
namespace Go.Proofs.YtmfcgglgolajnaaDoor
open Go.RowKit
set_option linter.unusedVariables false

def ntV (nt : List UInt8 → List UInt8 → List UInt8) (nn mm : List (List UInt8)) (k : Nat) : List Value := (List.zipWith nt (nn.take k) (mm.take k)).map sv
theorem ntV_snoc {nt : List UInt8 → List UInt8 → List UInt8} {nn mm : List (List UInt8)} {k : Nat} {a m : List UInt8} (ha : nn[k]? = some a) (hm : mm[k]? = some m) : ntV nt nn mm (k + 1) = ntV nt nn mm k ++ [.string ⟨(nt a m).toArray⟩] := by
  unfold ntV
  have h1 := (List.getElem?_eq_some_iff.1 ha).1
  have h2 := (List.getElem?_eq_some_iff.1 hm).1
  rw [take_snoc ha, take_snoc hm, List.zipWith_append (by rw [List.length_take, List.length_take]; omega)]
  simp [sv]
/-- What String says of the network. -/
def StrOk (nt : List UInt8 → List UInt8 → List UInt8) (w : World) (xs ms : List UInt8) : Prop :=
  ∀ (W : World) (p c d : Nat) (A M : Option Addr), Below w.heap.size w W → W.cell? ⟨p, 0, none⟩ = some (.slice A xs.length c) → W.cell? ⟨p, 1, none⟩ = some (.slice M ms.length d) → RB W no A xs.length c xs → RB W no M ms.length d ms →
    Calls Tryd.prog 40 #[.pointer (some ⟨p, 0, none⟩)] W fun e w' => e = .returned (.string ⟨(nt xs ms).toArray⟩) ∧ Below W.heap.size W w'

set_option maxRecDepth 100000 in
set_option maxHeartbeats 3200000 in
theorem netStrings_any (nt : List UInt8 → List UInt8 → List UInt8) (L J : Option Addr) (N e f : Nat) (nn mm : List (List UInt8)) (w : World) (hL : RBB w no L N e nn) (hJ : RBB w no J N f mm) (hN : N * 16 ≤ 140737488351232)
    (hstr : ∀ (i : Nat) xs ms, nn[i]? = some xs → mm[i]? = some ms → StrOk nt w xs ms) :
    Calls Tryd.prog 25 #[.slice L N e, .slice J N f] w (RetSF w (List.zipWith nt nn mm)) := by
  obtain ⟨i0, hinf, hz0, hz1, hz2⟩ := info_parts string_info
  have HL := hide hL
  have HJ := hide hJ
  have Hstr := hide hstr
  have Hst : Hid ((w.alloc (.cells #[] 9)).ownsRow w.heap.size 9 1 (.slice (some ⟨w.heap.size, 0, none⟩) 0 0) 0 (ntV nt nn mm 0) ∧ Below w.heap.size w (w.alloc (.cells #[] 9))) :=
    hide ⟨own_empty w w.heap.size _ (Nat.le_refl _), (Below.refl _ _).alloc (Nat.le_refl _) _⟩
  clear hL hJ hstr
  go_enter Tryd.func25, Tryd.ntmps25
  go_wp2_with fail
  go_loopw [5, 14] (fun v i wr => ∃ k : Nat, k ≤ N ∧ i = .int .i64 (k : Int) ∧ wr.ownsRow w.heap.size 9 1 v k (ntV nt nn mm k) ∧ Below w.heap.size w wr) (fun _ i _ => N - (intOf i).toNat)
  case atStart => exact ⟨0, Nat.zero_le _, rfl, Hst.out⟩
  case round =>
    obtain ⟨k, hk, rfl, h1, h2⟩ := hrel
    have H1 := hide h1
    have H2 := hide h2
    by_cases hlt : k < N
    · obtain ⟨g, o, A, n, c, xs, rfl, hxk, hc, hrx⟩ := (HL.out.below h2).at_ hlt
      obtain ⟨g', o', M, m, d, ms, rfl, hmk, hd, hrm⟩ := (HJ.out.below h2).at_ hlt
      obtain rfl : xs.length = n := hrx.len
      obtain rfl : ms.length = m := hrm.len
      have Hs := hide (Hstr.out k xs ms hxk hmk)
      have Hsn := hide (ntV_snoc (nt := nt) hxk hmk)
      have Hrx := hide hrx
      have Hrm := hide hrm
      have i1 : (0 : Int) ≤ k := by omega
      have i2 : (k : Int) < N := by omega
      have hsz := h2.size
      generalize ntV nt nn mm k = nv at *
      have Hcall : Hid (Calls Tryd.prog 40 #[.pointer (some ⟨wr.heap.size, 0, none⟩)] (wr.alloc (.cells #[.slice A xs.length c, .slice M ms.length d] 64)).drew fun e w' => e = .returned (.string ⟨(nt xs ms).toArray⟩) ∧ Below (wr.alloc (.cells #[.slice A xs.length c, .slice M ms.length d] 64)).heap.size (wr.alloc (.cells #[.slice A xs.length c, .slice M ms.length d] 64)) w') := hide (by
        have hbk := Blk.new wr 64 [.slice A xs.length c, .slice M ms.length d]
        have hbl : Below wr.heap.size wr (wr.alloc (.cells #[.slice A xs.length c, .slice M ms.length d] 64)) := (Below.refl _ _).alloc (Nat.le_refl _) _
        refine (Hs.out (wr.alloc (.cells #[.slice A xs.length c, .slice M ms.length d] 64)).drew wr.heap.size c d A M (h2.trans (hbl.mono h2.size)).drew (hbk.cell 0) (hbk.cell 1) (hrx.alloc _) (hrm.alloc _)).mono fun e w' h => ⟨h.1, ?_⟩
        exact ⟨h.2.os, h.2.tape, h.2.output, h.2.size, h.2.block⟩)
      have Hbl : Hid (Below wr.heap.size wr (wr.alloc (.cells #[.slice A xs.length c, .slice M ms.length d] 64))) := hide ((Below.refl _ _).alloc (Nat.le_refl _) _)
      generalize xs.length = n at *
      generalize ms.length = m at *
      generalize nt xs ms = tx at *
      clear h1 h2 hxk hmk hrx hrm
      go_wp2_with fail
      go_region_held3 (fun W => W.cell? ⟨g, o + k, none⟩ = some (.slice A n c) ∧ W.cell? ⟨g', o' + k, none⟩ = some (.slice M m d)) (go_keep) (fail)
      clear hc hd
      go_wp2_with fail
      with_reducible refine Hcall.out.mono ?_
      rintro e w2 ⟨rfl, hb2⟩
      have hb12 := Hbl.out.trans (hb2.mono Hbl.out.size)
      have hbw2 := H2.out.trans (hb12.mono H2.out.size)
      have Ho := hide ((own_below H1.out hb12).alloc (.cells #[.string ⟨tx.toArray⟩] 9))
      have hsz2 := hbw2.size
      have Hbw2 := hide hbw2
      clear hb2 hb12 hbw2 Hcall Hbl
      go_wp2_with (at_builtin; refine wpList_append_rd _ rfl (.tmp 26) (.tmp 28) _ rfl w.heap.size 9 i0 _ 16 Tryd.underlying34 hinf hz0 hz1 hz2 rfl _ k _ rfl Ho.out no (some ⟨w2.heap.size, 0, none⟩) 1 1 [.string ⟨tx.toArray⟩] rfl ?p1 ?p2 ?p3 ?p4 ?p5 ?_)
      case p1 => exact Rd.one w2 _ _ no (fun h => h)
      case p2 => first | rfl | (intro u hu; simp at hu; subst hu; rfl)
      case p3 => unfold maxLen; omega
      case p4 => omega
      case p5 => first | omega | (simp; omega)
      intro v' w3 q1 q2 q3
      have HB := hide (below_append (Hbw2.out.alloc Hbw2.out.size _) q2 Ho.out (by simp; omega))
      have HO := hide q1
      rw [← Hsn.out] at HO
      clear q1 q2 q3 Ho
      go_wp2_with fail
      go_roundw
      case rel => exact ⟨k + 1, by omega, by go_num, HO.out, HB.out⟩
      case measure => simp [intOf]; omega
    · obtain rfl : k = N := by omega
      have hnv : ntV nt nn mm k = (List.zipWith nt nn mm).map sv := by unfold ntV; rw [List.take_of_length_le (by rw [HL.out.len]; omega), List.take_of_length_le (by rw [HJ.out.len]; omega)]
      rw [hnv] at h1
      obtain ⟨AL, cL, rfl, hR⟩ := RS.of_own_av (av := fun g => g < w.heap.size) h1 (fun g h => h)
      have HR := hide hR
      have Hlen : Hid ((List.zipWith nt nn mm).length = k) := hide (by rw [List.length_zipWith, HL.out.len, HJ.out.len]; omega)
      clear h1 h2 hnv hR
      go_wp2_with fail
      go_ret
      exact ⟨AL, cL, by rw [Hlen.out]; rfl, by rw [Hlen.out]; exact HR.out, H2.out⟩
end Go.Proofs.YtmfcgglgolajnaaDoor
