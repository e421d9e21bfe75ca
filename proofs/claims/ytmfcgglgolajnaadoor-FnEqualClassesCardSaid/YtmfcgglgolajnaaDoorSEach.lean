/-
  The contracts of StringEach and fText at addresses of 4 or 16 bytes.
-/
import Derived.Test.YtmfcgglgolajnaaDoorIPS
import Derived.Test.YtmfcgglgolajnaaDoorMade
import Derived.Test.YtmfcgglgolajnaaDoorCopied
namespace Go.Proofs.YtmfcgglgolajnaaDoor
open Go.RowKit
set_option linter.unusedVariables false

theorem string_info : (Tryd.prog.info? 9).map (fun i => (i.zero, i.size, i.bytes)) = some (some (.string ⟨#[]⟩), 1, 16) := by kernel_rfl
def txV (bss : List (List UInt8)) (k : Nat) : List Value := ((bss.take k).map ipText).map sv
theorem txV_snoc {bss : List (List UInt8)} {k : Nat} {b : List UInt8} (h : bss[k]? = some b) : txV bss (k + 1) = txV bss k ++ [.string ⟨(ipText b).toArray⟩] := by
  unfold txV; rw [take_snoc h]; simp [sv]

set_option maxRecDepth 100000 in
set_option maxHeartbeats 1600000 in
theorem stringEach_any (L : Option Addr) (N e : Nat) (bss : List (List UInt8)) (w : World) (g4 o4 g6 o6 : Nat) (hz : ZX w g4 o4 g6 o6) (hL : RBB w no L N e bss) (hN : N * 16 ≤ 140737488351232) (hall : ∀ b ∈ bss, b.length = 4 ∨ b.length = 16) :
    Calls Tryd.prog 19 #[.slice L N e] w (RetSF w (bss.map ipText)) := by
  obtain ⟨i0, hinf, hz0, hz1, hz2⟩ := info_parts string_info
  have HL := hide hL
  have Hz := hide hz
  have Hall := hide hall
  have Hst : Hid ((w.alloc (.cells #[] 9)).ownsRow w.heap.size 9 1 (.slice (some ⟨w.heap.size, 0, none⟩) 0 0) 0 (txV bss 0) ∧ Below w.heap.size w (w.alloc (.cells #[] 9))) :=
    hide ⟨own_empty w w.heap.size _ (Nat.le_refl _), (Below.refl _ _).alloc (Nat.le_refl _) _⟩
  clear hL hz hall
  go_enter Tryd.func19, Tryd.ntmps19
  go_wp2_with fail
  go_loopw [3, 9] (fun v i wr => ∃ k : Nat, k ≤ N ∧ i = .int .i64 k ∧ wr.ownsRow w.heap.size 9 1 v k (txV bss k) ∧ Below w.heap.size w wr) (fun _ i _ => N - (intOf i).toNat)
  case atStart => exact ⟨0, Nat.zero_le _, rfl, Hst.out⟩
  case round =>
    obtain ⟨k, hk, rfl, h1, h2⟩ := hrel
    have H1 := hide h1
    have H2 := hide h2
    by_cases hlt : k < N
    · obtain ⟨g, o, B, m, d, b, rfl, hbk, hc, hrb⟩ := (HL.out.below h2).at_ hlt
      have hb := Hall.out b (List.mem_of_getElem? hbk)
      have hm : m = 4 ∨ m = 16 := by rw [← hrb.len]; exact hb
      have Hm := hide hm
      have Hf := hide (formBytes_own B m d b wr no hrb (by omega))
      have Hsn := hide (txV_snoc hbk)
      have hsz := h2.size
      generalize txV bss k = nv at *
      clear h1 h2 hbk hb hrb hm
      go_wp2_with fail
      with_reducible refine Hf.out.mono ?_
      rintro e w1 ⟨vc, rfl, hcv, hb1⟩
      obtain ⟨A1, c1, rfl, hr1⟩ := RB.of_own hcv
      have hbw1 := H2.out.trans (hb1.mono H2.out.size)
      have Hs := hide (ipString_any A1 m c1 b w1 no g4 o4 g6 o6 (Hz.out.below hbw1) hr1 Hm.out)
      have Hbw1 := hide hbw1
      have Hb1 := hide hb1
      clear hcv hb1 hr1 hbw1 Hf
      generalize ipText b = tx at *
      go_wp2_with fail
      with_reducible refine Hs.out.mono ?_
      rintro e w2 ⟨rfl, hb2⟩
      have hb12 := Hb1.out.trans (hb2.mono Hb1.out.size)
      have hbw2 := Hbw1.out.trans (hb2.mono Hbw1.out.size)
      have hsz2 := hbw2.size
      have Ho := hide ((own_below H1.out hb12).alloc (.cells #[.string ⟨tx.toArray⟩] 9))
      have Hbw2 := hide hbw2
      clear hb2 hb12 hbw2 Hs
      go_wp2_with (at_builtin; refine wpList_append_rd _ rfl (.tmp 13) (.tmp 17) _ rfl w.heap.size 9 i0 _ 16 Tryd.underlying34 hinf hz0 hz1 hz2 rfl _ k _ rfl Ho.out no (some ⟨w2.heap.size, 0, none⟩) 1 1 [.string ⟨tx.toArray⟩] rfl ?p1 ?p2 ?p3 ?p4 ?p5 ?_)
      case p1 => exact Rd.one w2 _ _ no (fun h => h)
      case p2 => first | rfl | (intro u hu; simp at hu; subst hu; rfl)
      case p3 => unfold maxLen; omega
      case p4 => omega
      case p5 => first | omega | (simp; omega)
      intro v' w3 q1 q2 q3
      have HB := hide (below_append (Hbw2.out.alloc Hbw2.out.size _) q2 Ho.out (by simp; omega))
      have HO := hide q1
      rw [← Hsn.out] at HO
      clear q1 q2 q3 Ho
      go_wp2_with fail
      go_roundw
      case rel => exact ⟨k + 1, by omega, by go_num, HO.out, HB.out⟩
      case measure => simp [intOf]; omega
    · obtain rfl : k = N := by omega
      have hnv : txV bss k = (bss.map ipText).map sv := by unfold txV; rw [List.take_of_length_le (by rw [HL.out.len]; omega)]
      rw [hnv] at h1
      obtain ⟨AL, cL, rfl, hR⟩ := RS.of_own_av (av := fun g => g < w.heap.size) h1 (fun g h => h)
      have HR := hide hR
      have Hlen : Hid ((bss.map ipText).length = k) := hide (by rw [List.length_map, HL.out.len])
      clear h1 h2 hnv hR
      go_wp2_with fail
      go_ret
      exact ⟨AL, cL, by rw [Hlen.out]; rfl, by rw [Hlen.out]; exact HR.out, H2.out⟩

set_option maxRecDepth 100000 in
set_option maxHeartbeats 800000 in
theorem fText_any (A : Option Addr) (n c : Nat) (b : List UInt8) (w : World) (av : Nat → Prop) (g4 o4 g6 o6 : Nat) (hz : ZX w g4 o4 g6 o6) (ha : RB w av A n c b) (hn : n = 4 ∨ n = 16) :
    Calls Tryd.prog 15 #[.slice A n c] w fun e w' => e = .returned (.string ⟨(ipText b).toArray⟩) ∧ Below w.heap.size w w' := by
  have Hc := hide (copied_own A n c b w av ha (by omega))
  have Hz := hide hz
  have Hn : Hid (b.length = 4 ∨ b.length = 16) := hide (by rw [ha.len]; exact hn)
  clear ha hz hn
  go_enter Tryd.func15, Tryd.ntmps15
  go_wp2_with fail
  with_reducible refine Hc.out.mono ?_
  rintro e w1 ⟨vc, rfl, hcv, hb1⟩
  obtain ⟨A1, c1, rfl, hr1⟩ := RB.of_own hcv
  have hal : Below w.heap.size w (w1.alloc (.cells #[.slice A1 n c1] 22)) := hb1.alloc hb1.size _
  have Hs := hide (stringEach_any _ 1 1 [b] _ g4 o4 g6 o6 (Hz.out.below hal) (RBB.one 22 hr1) (by omega) (by intro x hx; simp at hx; subst hx; exact Hn.out))
  have Hal := hide hal
  clear hcv hb1 hr1 hal Hc
  go_wp2_with fail
  with_reducible refine Hs.out.mono ?_
  rintro e w2 ⟨A2, c2, rfl, hr2, hb2⟩
  rw [show ([b].map ipText).length = 1 from rfl] at hr2 ⊢
  obtain ⟨g, o, t, rfl, htk, hcell⟩ := hr2.at_ (k := 0) (by omega)
  obtain rfl : t = ipText b := by simp at htk; exact htk.symm
  rw [Nat.add_zero] at hcell
  have Hb2 := hide (Hal.out.trans (hb2.mono Hal.out.size))
  clear hr2 htk hb2 Hs
  go_wp2_with fail
  go_ret
  exact ⟨rfl, Hb2.out⟩
end Go.Proofs.YtmfcgglgolajnaaDoor
