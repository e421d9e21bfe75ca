/-
  The contracts of fAddresses and EqualEach.
-/
import Derived.Test.YtmfcgglgolajnaaDoorForms
import Derived.Test.YtmfcgglgolajnaaDoorFormBytes
import Derived.Test.YtmfcgglgolajnaaDoorCopied
import Derived.Test.YtmfcgglgolajnaaDoorMade
namespace Go.Proofs.YtmfcgglgolajnaaDoor
open Go.RowKit
set_option linter.unusedVariables false

def ok46 (b : List UInt8) : Bool := decide (b.length = 4) || decide (b.length = 16)
def fAddrL (bss : List (List UInt8)) : List (List UInt8) := bss.filter ok46
theorem fAddrL_keep {bss : List (List UInt8)} {k : Nat} {b : List UInt8} (hb : bss[k]? = some b) (h : ok46 b = true) : fAddrL (bss.take (k + 1)) = fAddrL (bss.take k) ++ [b] := by
  unfold fAddrL; rw [take_snoc hb, List.filter_append]; simp [h]
theorem fAddrL_drop {bss : List (List UInt8)} {k : Nat} {b : List UInt8} (hb : bss[k]? = some b) (h : ok46 b = false) : fAddrL (bss.take (k + 1)) = fAddrL (bss.take k) := by
  unfold fAddrL; rw [take_snoc hb, List.filter_append]; simp [h]
theorem fAddrL_le (bss : List (List UInt8)) (k : Nat) : (fAddrL (bss.take k)).length ≤ k :=
  Nat.le_trans (List.length_filter_le _ _) (by rw [List.length_take]; omega)
theorem fAddrL_mem {bss : List (List UInt8)} {b : List UInt8} (h : b ∈ fAddrL bss) : b.length = 4 ∨ b.length = 16 := by
  unfold fAddrL ok46 at h
  simp at h
  exact h.2

set_option maxHeartbeats 3200000 in
theorem fAddresses_any (L : Option Addr) (N e : Nat) (bss : List (List UInt8)) (w : World) (hL : RBB w no L N e bss) (hN : N * 24 ≤ 140737488351232) :
    Calls Tryd.prog 18 #[.slice L N e] w (RetBBF (fun g => g < w.heap.size) w (fAddrL bss)) := by
  obtain ⟨i0, hi, hz0, hz1, hz2⟩ := info_parts bytes_info
  have HL := hide hL
  clear hL
  have Hst := hide (Made.start (fun g => g < w.heap.size) w)
  go_enter Tryd.func18, Tryd.ntmps18
  go_wp2
  go_loopw [3, 9] (fun v i wr => ∃ k : Nat, k ≤ N ∧ i = .int .i64 k ∧ Made (fun g => g < w.heap.size) w (fAddrL (bss.take k)) v wr) (fun _ i _ => N - (intOf i).toNat)
  case atStart => exact ⟨0, Nat.zero_le _, rfl, Hst.out⟩
  case round =>
    obtain ⟨k, hk, rfl, hr⟩ := hrel
    have Hr := hide hr
    by_cases hlt : k < N
    · obtain ⟨xs, h1, h2, h3⟩ := hr
      obtain ⟨g, o, B, mb, f, b, rfl, hbk, hc, hb⟩ := (HL.out.below h3).at_ hlt
      have Hbk := hide hbk
      have Hb := hide hb
      have hbl := Hb.out.len
      have Hbl := hide hbl
      have H1 := hide h1
      have H2 := hide h2
      have H3 := hide h3
      clear hbk hb h1 h2 h3 hbl
      by_cases hlm : mb = 4 ∨ mb = 16
      · have hcase : ((mb : Int) == 4) = true ∨ ((mb : Int) == 4) = false ∧ ((mb : Int) == 16) = true := by rcases hlm with rfl | rfl <;> simp
        have hm16 : mb ≤ 16 := by omega
        have hsz := H3.out.size
        have hal := fAddrL_le bss k
        have Hg := hide (fAddrL_keep Hbk.out (by unfold ok46; rw [Hbl.out]; simpa using hlm))
        generalize fAddrL (bss.take k) = al at *
        have Hcop := hide (copied_own B mb f b wr no Hb.out (by omega))
        have hown : ∀ g, (g < w.heap.size ∨ rowOf u3 g) → g < wr.heap.size := fun g hg => hg.elim (fun h => by omega) (fun h => (H1.out.lt g h).2)
        have Hown := hide hown
        clear hown hlm
        rcases hcase with t1 | ⟨t1, t2⟩
        all_goals
          go_wp2_with fail
          with_reducible refine Hcop.out.mono ?_
          rintro e w1 ⟨vc, rfl, hcv, hcb⟩
          obtain ⟨Ac, cc, rfl, hrb⟩ := RB.of_own_av (av := fun g => g < w.heap.size ∨ rowOf u3 g) hcv Hown.out
          have h1' := own_below H1.out hcb
          have h2' := H2.out.keep (Kept.of_below hcb _)
          have h3' := H3.out.trans (hcb.mono H3.out.size)
          have hsz1 := hcb.size
          have Ho := hide (h1'.alloc (.cells #[.slice Ac mb cc] 22))
          have Hf := hide (fun v' w' => Made.step (v' := v') (w' := w') h1' h2' h3' hrb)
          clear h1' h2' h3' hrb hcv hcb
          go_wp2_with (at_builtin; refine wpList_append_rd _ rfl (.tmp 21) (.tmp 24) _ rfl w.heap.size 22 i0 _ 24 Tryd.underlying27 hi hz0 hz1 hz2 rfl _ al.length _ rfl Ho.out no (some ⟨w1.heap.size, 0, none⟩) 1 1 [.slice Ac mb cc] rfl ?_ ?_ ?_ ?_ ?_ ?_)
          · exact Rd.one w1 _ _ no (fun h => h)
          · intro u hu; simp at hu; subst hu; rfl
          · unfold maxLen; omega
          · omega
          · simp; omega
          intro v' w2 h1 h2 h3
          have Hs := hide (Hf.out v' w2 h1 h2 h3)
          clear h1 h2 h3
          go_wp2_with fail
          go_roundw
          case rel => exact ⟨k + 1, by omega, by go_num, by rw [Hg.out]; exact Hs.out⟩
          case measure => simp [intOf]; omega
      · have t1 : ((mb : Int) == 4) = false := by simp; omega
        have t2 : ((mb : Int) == 16) = false := by simp; omega
        have Hg := hide (fAddrL_drop Hbk.out (by unfold ok46; rw [Hbl.out]; simpa using hlm))
        clear hlm
        go_wp2_with fail
        go_roundw
        case rel => exact ⟨k + 1, by omega, by go_num, by rw [Hg.out]; exact Hr.out⟩
        case measure => simp [intOf]; omega
    · obtain rfl : k = N := by omega
      clear hr
      go_wp2
      go_ret
      have h1 := Hr.out
      rw [List.take_of_length_le (by rw [HL.out.len]; omega)] at h1
      exact h1.retF (fun _ h => h)

theorem bool_info : (Tryd.prog.info? 4).map (fun i => (i.zero, i.size, i.bytes)) = some (some (.bool false), 1, 1) := by kernel_rfl
/-- A slice of bools comes back; nothing that was there has turned. -/
def RetL (w : World) (ys : List Bool) (e : Ending) (w' : World) : Prop := ∃ A c, e = .returned (.slice A ys.length c) ∧ RL w' no A ys.length c ys ∧ Below w.heap.size w w'
/-- .. in new memory. -/
def RetLF (w : World) (ys : List Bool) (e : Ending) (w' : World) : Prop := ∃ A c, e = .returned (.slice A ys.length c) ∧ RL w' (fun g => g < w.heap.size) A ys.length c ys ∧ Below w.heap.size w w'
def eqTo (xs : List UInt8) (bss : List (List UInt8)) (k : Nat) : List Value := ((bss.take k).map (eqIP xs)).map Value.bool
theorem eqTo_snoc {xs : List UInt8} {bss : List (List UInt8)} {k : Nat} {b : List UInt8} (h : bss[k]? = some b) : eqTo xs bss (k + 1) = eqTo xs bss k ++ [.bool (eqIP xs b)] := by
  unfold eqTo; rw [take_snoc h]; simp

set_option maxHeartbeats 3200000 in
theorem equalEach_new (A L : Option Addr) (n c N e : Nat) (xs : List UInt8) (bss : List (List UInt8)) (w : World) (ha : RB w no A n c xs) (hL : RBB w no L N e bss) (hn : n = 4 ∨ n = 16) (hall : ∀ b ∈ bss, b.length = 4 ∨ b.length = 16) (hN : N ≤ 140737488351232) (hp : PreIs w) :
    Calls Tryd.prog 13 #[.slice A n c, .slice L N e] w (RetLF w (bss.map (eqIP xs))) := by
  obtain ⟨i0, hi, hz0, hz1, hz2⟩ := info_parts bool_info
  have Ha := hide ha
  have HL := hide hL
  have Hall := hide hall
  have Hn := hide hn
  have Hp := hide hp
  have hn16 : n ≤ 16 := by omega
  have Hst : Hid ((w.alloc (.cells #[] 4)).ownsRow w.heap.size 4 1 (.slice (some ⟨w.heap.size, 0, none⟩) 0 0) 0 (eqTo xs bss 0) ∧ Below w.heap.size w (w.alloc (.cells #[] 4))) :=
    hide ⟨own_empty w w.heap.size _ (Nat.le_refl _), (Below.refl _ _).alloc (Nat.le_refl _) _⟩
  clear ha hL hall hn hp
  go_enter Tryd.func13, Tryd.ntmps13
  go_wp2
  go_loopw [5, 11] (fun v i wr => ∃ k : Nat, k ≤ N ∧ i = .int .i64 k ∧ wr.ownsRow w.heap.size 4 1 v k (eqTo xs bss k) ∧ Below w.heap.size w wr) (fun _ i _ => N - (intOf i).toNat)
  case atStart => exact ⟨0, Nat.zero_le _, rfl, Hst.out⟩
  case round =>
    obtain ⟨k, hk, rfl, h1, h2⟩ := hrel
    have H1 := hide h1
    have H2 := hide h2
    by_cases hlt : k < N
    · obtain ⟨g, o, B, mb, f, b, rfl, hbk, hc, hb⟩ := (HL.out.below h2).at_ hlt
      have hmb : mb = 4 ∨ mb = 16 := by rw [← hb.len]; exact Hall.out b (List.mem_of_getElem? hbk)
      have hm16 : mb ≤ 16 := by omega
      have Hmb := hide hmb
      have Hb := hide hb
      have Hsn := hide (eqTo_snoc (xs := xs) hbk)
      have hsz := h2.size
      have Hc1 := hide (formBytes_own A n c xs wr no (Ha.out.below h2) (by omega))
      have Hp2 := hide (Hp.out.below h2)
      generalize eqTo xs bss k = al at *
      clear hbk hb h1 h2 hmb
      go_wp2_with fail
      with_reducible refine Hc1.out.mono ?_
      rintro e v1 ⟨v, rfl, h1, hb1⟩
      obtain ⟨A1, d1, rfl, h1'⟩ := RB.of_own h1
      have R1 := hide h1'
      have Hc2 := hide (formBytes_own B mb f b v1 no (Hb.out.below hb1) (by omega))
      have B1 := hide hb1
      clear h1 h1' hb1
      go_wp2_with fail
      with_reducible refine Hc2.out.mono ?_
      rintro e v2 ⟨v, rfl, h2, hb2⟩
      obtain ⟨A2, d2, rfl, h2'⟩ := RB.of_own h2
      have B2 := hide (B1.out.trans (hb2.mono B1.out.size))
      have Hc3 := hide (equal_any A1 A2 n mb d1 d2 xs b v2 no no (R1.out.below hb2) h2' Hn.out Hmb.out (Hp2.out.below B2.out))
      have Ho := hide (fun q : Nat => ((own_drewN (own_below H1.out B2.out) q).alloc (.cells #[.bool (eqIP xs b)] 4)))
      have B3 := hide (H2.out.trans (B2.out.mono H2.out.size))
      have hs3 := B3.out.size
      generalize eqIP xs b = yb at *
      clear h2 h2' hb2
      go_wp2_with fail
      with_reducible refine Hc3.out.mono ?_
      rintro e v3 ⟨rfl, q, rfl⟩
      go_wp2_with (at_builtin; refine wpList_append_rd _ rfl (.tmp 15) (.tmp 21) _ rfl w.heap.size 4 i0 _ 1 Tryd.underlying25 hi hz0 hz1 hz2 rfl _ k _ rfl (Ho.out q) no (some ⟨v2.heap.size, 0, none⟩) 1 1 [.bool yb] rfl ?c0 ?c1 ?c2 ?c3 ?c4 ?_)
      case c0 => exact Rd.one (v2.drewN q) _ _ no (fun h => h)
      case c1 => intro u hu; simp at hu; subst hu; rfl
      case c2 => unfold maxLen; omega
      case c3 => omega
      case c4 => simp; omega
      intro v' w2 h1 h2 h3
      have Hs := hide h1
      rw [← Hsn.out] at Hs
      have Hbb := hide (below_append ((below_drewN B3.out q).alloc (by simpa using hs3) _) h2 (Ho.out q) (by simp; omega))
      clear h1 h2 h3
      go_wp2_with fail
      go_roundw
      case rel => exact ⟨k + 1, by omega, by go_num, Hs.out, Hbb.out⟩
      case measure => simp [intOf]; omega
    · obtain rfl : k = N := by omega
      clear h1 h2
      go_wp2
      go_ret
      have h1 := H1.out
      unfold eqTo at h1
      rw [List.take_of_length_le (by rw [HL.out.len]; omega)] at h1
      obtain ⟨A', c', rfl, hRL⟩ := RL.of_own_av (av := fun g => g < w.heap.size) h1 (fun g h => h)
      have hl : (bss.map (eqIP xs)).length = k := by rw [List.length_map, HL.out.len]
      exact ⟨A', c', by rw [hl]; rfl, by rw [hl]; exact hRL, H2.out⟩
theorem equalEach_any (A L : Option Addr) (n c N e : Nat) (xs : List UInt8) (bss : List (List UInt8)) (w : World) (ha : RB w no A n c xs) (hL : RBB w no L N e bss) (hn : n = 4 ∨ n = 16) (hall : ∀ b ∈ bss, b.length = 4 ∨ b.length = 16) (hN : N ≤ 140737488351232) (hp : PreIs w) :
    Calls Tryd.prog 13 #[.slice A n c, .slice L N e] w (RetL w (bss.map (eqIP xs))) :=
  (equalEach_new A L n c N e xs bss w ha hL hn hall hN hp).mono fun _ _ ⟨A', c', h1, h2, h3⟩ => ⟨A', c', h1, h2.free, h3⟩
end Go.Proofs.YtmfcgglgolajnaaDoor
