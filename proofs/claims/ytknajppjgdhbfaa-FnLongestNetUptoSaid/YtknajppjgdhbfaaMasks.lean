/-
  The contracts of MasksOf, maskOf, contains, onesIn.
-/
import Derived.Test.YtknajppjgdhbfaaMaskOf
namespace Go.Proofs.Ytknajppjgdhbfaa
open Go.RowKit
set_option linter.unusedVariables false

def masksL (n : Nat) (zs : List Int) : List (List UInt8) := zs.map fun z => cidr n z.toNat
theorem masksL_snoc {n : Nat} {zs : List Int} {k : Nat} {z : Int} (h : zs[k]? = some z) : masksL n (zs.take (k + 1)) = masksL n (zs.take k) ++ [cidr n z.toNat] := by
  unfold masksL; rw [take_snoc h]; simp
theorem masksL_length (n : Nat) (zs : List Int) : (masksL n zs).length = zs.length := by unfold masksL; simp

set_option maxHeartbeats 1600000 in
theorem masksOf_any (L : Option Addr) (N e n : Nat) (b : Int) (zs : List Int) (w : World) (av : Nat → Prop) (hL : RI w av L N e zs) (hn : n = 4 ∨ n = 16) (hb : b = 8 * (n : Int)) (hz : ∀ z ∈ zs, 0 ≤ z ∧ z ≤ 8 * (n : Int)) (hN : N * 24 ≤ 140737488351232) :
    Calls Try.prog 26 #[.slice L N e, .int .i64 b] w (RetBBF (fun g => g < w.heap.size) w (masksL n zs)) := by
  obtain ⟨i0, hi, hz0, hz1, hz2⟩ := info_parts bytes_info
  have HL := hide hL.free
  have Hz := hide hz
  have Hb := hide hb
  have Hn := hide hn
  have Hst := hide (Made.start (fun g => g < w.heap.size) w)
  clear hL hz hb hn
  go_enter Try.func26, Try.ntmps26
  go_wp2_with fail
  go_loopw [5, 11] (fun v i wr => ∃ k : Nat, k ≤ N ∧ i = .int .i64 k ∧ Made (fun g => g < w.heap.size) w (masksL n (zs.take k)) v wr) (fun _ i _ => N - (intOf i).toNat)
  case atStart => exact ⟨0, Nat.zero_le _, rfl, Hst.out⟩
  case round =>
    obtain ⟨k, hk, rfl, hr⟩ := hrel
    have Hr := hide hr
    by_cases hlt : k < N
    · obtain ⟨xs, h1, h2, h3⟩ := hr
      obtain ⟨g, o, z, rfl, hzk, hc⟩ := (HL.out.below h3).at_ hlt
      have hzz := Hz.out z (List.mem_of_getElem? hzk)
      have Hcall := hide (cidrMask_own z b n wr Hn.out Hb.out hzz.1 hzz.2)
      have Hsn := hide (masksL_snoc (n := n) hzk)
      have hlen : (masksL n (zs.take k)).length = k := by rw [masksL_length, List.length_take, HL.out.len]; omega
      rw [hlen] at h1
      have Hlen := hide hlen
      have H1 := hide h1
      have H2 := hide h2
      have H3 := hide h3
      have hsz := h3.size
      have hcl := cidr_length n z.toNat
      have Hown : Hid (∀ g, rowOf u5 g → g < wr.heap.size) := hide fun g h => (h1.lt g h).2
      generalize masksL n (zs.take k) = al at *
      generalize cidr n z.toNat = cm at *
      have Hcl := hide hcl
      clear hzk h1 h2 h3 hzz hlen hcl
      go_wp2_with fail
      with_reducible refine Hcall.out.mono ?_
      rintro e w1 ⟨Ac, cc, rfl, hrb0, hcb⟩
      rw [Hcl.out] at hrb0 ⊢
      have hrb : RB w1 (fun g => g < w.heap.size ∨ rowOf u5 g) Ac n cc cm := hrb0.sub fun g _ h => h.elim (fun h => by omega) (fun h => Hown.out g h)
      have h1' := own_below H1.out hcb
      rw [← Hlen.out] at h1'
      have h2' := H2.out.keep (Kept.of_below hcb _)
      have h3' := H3.out.trans (hcb.mono H3.out.size)
      have hsz1 := hcb.size
      have Ho := hide (h1'.alloc (.cells #[.slice Ac n cc] 22))
      have Hf := hide (fun v' w' => Made.step (v' := v') (w' := w') h1' h2' h3' hrb)
      rw [Hlen.out] at Ho Hf
      clear h1' h2' h3' hrb hrb0 hcb
      go_wp2_with (at_builtin; refine wpList_append_rd _ rfl (.tmp 15) (.tmp 19) _ rfl w.heap.size 22 i0 _ 24 Try.underlying23 hi hz0 hz1 hz2 rfl _ k _ rfl Ho.out no (some ⟨w1.heap.size, 0, none⟩) 1 1 [.slice Ac n cc] rfl ?_ ?_ ?_ ?_ ?_ ?_)
      · exact Rd.one w1 _ _ no (fun h => h)
      · intro u hu; simp at hu; subst hu; rfl
      · unfold maxLen; omega
      · omega
      · simp; omega
      intro v' w2 h1 h2 h3
      have Hs := hide (Hf.out v' w2 h1 h2 h3)
      clear h1 h2 h3
      go_wp2_with fail
      go_roundw
      case rel => exact ⟨k + 1, by omega, by go_num, by rw [Hsn.out]; exact Hs.out⟩
      case measure => simp [intOf]; omega
    · obtain rfl : k = N := by omega
      clear hr
      go_wp2_with fail
      go_ret
      have h1 := Hr.out
      rw [List.take_of_length_le (by rw [HL.out.len]; omega)] at h1
      exact h1.retF (fun _ h => h)

theorem RI.one (w : World) (z : Int) (t : TypeId) : RI (w.alloc (.cells #[.int .i64 z] t)) no (some ⟨w.heap.size, 0, none⟩) 1 1 [z] :=
  ⟨rfl, Nat.le_refl _, by unfold maxLen; omega, ⟨rfl, fun _ => ⟨w.heap.size, 0, rfl, by simp, fun h => h, fun j v hv => by
    rcases j with _ | j
    · simp at hv; subst hv; simp [World.cell?_alloc_new]
    · simp at hv⟩⟩⟩

set_option maxHeartbeats 1600000 in
theorem maskOf_any (k : Int) (n : Nat) (w : World) (hn : n = 4 ∨ n = 16) (h0 : 0 ≤ k) (hk : k ≤ 8 * (n : Int)) :
    Calls Try.prog 18 #[.int .i64 k, .int .i64 (n : Int)] w (RetBF w (cidr n k.toNat)) := by
  have hn16 : n ≤ 16 := by omega
  have Hcall := hide (masksOf_any _ 1 1 n (8 * (n : Int)) [k] _ no (RI.one w k 3) hn rfl (by intro z hz; simp at hz; subst hz; exact ⟨h0, hk⟩) (by omega))
  clear hn h0 hk
  go_enter Try.func18, Try.ntmps18
  go_wp2_with fail
  with_reducible refine Hcall.out.mono ?_
  rintro e v1 ⟨A1, d1, rfl, h1, hb1⟩
  have hl : (masksL n [k]).length = 1 := rfl
  rw [hl] at h1 ⊢
  obtain ⟨g, o, B, m, f, b, rfl, hbk, hc, hb⟩ := h1.at_ (k := 0) (by omega)
  have hbe : b = cidr n k.toNat := by
    unfold masksL at hbk
    simp at hbk
    exact hbk.symm
  subst hbe
  obtain rfl : m = n := by rw [← hb.len, cidr_length]
  have Hb := hide hb
  have Hb1 := hide hb1
  have hne : ((m : Int) != (m : Int)) = false := by simp
  have hc' : v1.cell? ⟨g, o, none⟩ = some (.slice B m f) := hc
  clear h1 hbk hb hb1 hc hl Hcall
  go_wp2_with fail
  go_ret
  refine ⟨B, f, ?_, ?_, ((Below.refl _ _).alloc (Nat.le_refl _) _).trans (Hb1.out.mono (by simp))⟩
  · rw [cidr_length]; rfl
  · rw [cidr_length]
    exact Hb.out.sub fun g _ h => by simp; omega

set_option maxHeartbeats 1600000 in
theorem containsOne_any (A M B : Option Addr) (n c d f : Nat) (xs ms b : List UInt8) (w : World) (av bv cv : Nat → Prop) (ha : RB w av A n c xs) (hM : RB w bv M n d ms) (hB : RB w cv B n f b)
    (hn : n = 4 ∨ n = 16) (hm : mapd xs = false) (hmb : mapd b = false) :
    Calls Try.prog 19 #[.slice A n c, .slice M n d, .slice B n f] w fun e w' => e = .returned (.bool (inNet xs ms b)) ∧ Below w.heap.size w w' := by
  have hone := RBB.one 22 hB.free
  have Hcall := hide (containsEach_any A M _ n c d 1 1 xs ms [b] _ (ha.free.alloc _) (hM.free.alloc _) hone hn hm (by intro b' hb'; simp at hb'; subst hb'; exact ⟨hB.len, hmb⟩) (by omega))
  clear ha hM hB hn hm hmb hone
  go_enter Try.func19, Try.ntmps19
  go_wp2_with fail
  with_reducible refine Hcall.out.mono ?_
  rintro e v1 ⟨A1, d1, rfl, h1, hb1⟩
  have hl : ([b].map (inNet xs ms)).length = 1 := rfl
  rw [hl] at h1 ⊢
  obtain ⟨g, o, x, rfl, hx, hc⟩ := h1.at_ (k := 0) (by omega)
  have hxe : x = inNet xs ms b := by simp at hx; exact hx.symm
  have Hx := hide hxe
  have Hb1 := hide hb1
  have hc' : v1.cell? ⟨g, o, none⟩ = some (.bool x) := hc
  clear h1 hx hb1 hc hl Hcall hxe
  go_wp2_with fail
  go_ret
  exact ⟨ret_bool Hx.out, ((Below.refl _ _).alloc (Nat.le_refl _) _).trans (Hb1.out.mono (by simp))⟩
end Go.Proofs.Ytknajppjgdhbfaa
