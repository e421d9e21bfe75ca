/-
  The contract of SizeEach.
-/
import Derived.Test.YtmfcgglgolajnaaDoorSize
import Derived.Test.YtmfcgglgolajnaaDoorInts
import Derived.Test.YtmfcgglgolajnaaDoorMA
namespace Go.Proofs.YtmfcgglgolajnaaDoor
open Go.RowKit
set_option linter.unusedVariables false

/-- Two rows of ints of the call's own, apart. -/
def TwoRows (w : World) (xs ys : List Int) (v u : Value) (wr : World) : Prop :=
  wr.ownsRow w.heap.size 3 1 v xs.length (xs.map (Value.int .i64)) ∧ wr.ownsRow w.heap.size 3 1 u ys.length (ys.map (Value.int .i64)) ∧ (u.ownBlock = none ∨ u.ownBlock ≠ v.ownBlock) ∧ Below w.heap.size w wr
def RetII (w : World) (xs ys : List Int) (e : Ending) (w' : World) : Prop := ∃ v u, e = .returned (.tuple #[v, u]) ∧ TwoRows w xs ys v u w'

theorem TwoRows.start (w : World) : TwoRows w [] [] (.slice (some ⟨w.heap.size, 0, none⟩) 0 0) (.slice (some ⟨w.heap.size + 1, 0, none⟩) 0 0) ((w.alloc (.cells #[] 3)).alloc (.cells #[] 3)) := by
  refine ⟨(own_empty w w.heap.size _ (Nat.le_refl _)).alloc _, ?_, Or.inr (by simp [Value.ownBlock]), ((Below.refl _ _).alloc (Nat.le_refl _) _).alloc (by simp) _⟩
  have := own_empty (w.alloc (.cells #[] 3)) w.heap.size 3 (by simp)
  rw [show (w.alloc (.cells #[] 3)).heap.size = w.heap.size + 1 by simp] at this
  exact this
theorem TwoRows.first {w wr w' : World} {xs ys : List Int} {v u v' : Value} {z : Int} (h : TwoRows w xs ys v u wr) (ho : w'.ownsRow w.heap.size 3 1 v' (xs.length + 1) (xs.map (Value.int .i64) ++ [.int .i64 z])) (hg : (wr.alloc (.cells #[.int .i64 z] 3)).grownBy w' v.ownBlock)
    (hv : v'.ownBlock = v.ownBlock ∨ v'.ownBlock = some (wr.heap.size + 1)) : TwoRows w (xs ++ [z]) ys v' u w' := by
  obtain ⟨h1, h2, h3, h4⟩ := h
  refine ⟨by simpa using ho, (h2.alloc _).kept hg h3, ?_, below_append (h4.alloc h4.size _) hg (h1.alloc _) (by simp; have := h4.size; omega)⟩
  rcases hv with hv | hv
  · rw [hv]; exact h3
  · cases hu : u.ownBlock with
    | none => exact Or.inl rfl
    | some g =>
      right
      rw [hv]
      have := (h2.lt g hu).2
      simp; omega
theorem TwoRows.second {w wr w' : World} {xs ys : List Int} {v u u' : Value} {z : Int} (h : TwoRows w xs ys v u wr) (ho : w'.ownsRow w.heap.size 3 1 u' (ys.length + 1) (ys.map (Value.int .i64) ++ [.int .i64 z])) (hg : (wr.alloc (.cells #[.int .i64 z] 3)).grownBy w' u.ownBlock)
    (hv : u'.ownBlock = u.ownBlock ∨ u'.ownBlock = some (wr.heap.size + 1)) : TwoRows w xs (ys ++ [z]) v u' w' := by
  obtain ⟨h1, h2, h3, h4⟩ := h
  have h3' : v.ownBlock = none ∨ v.ownBlock ≠ u.ownBlock := by
    rcases h3 with h3 | h3
    · cases hv : v.ownBlock with
      | none => exact Or.inl rfl
      | some g => right; rw [h3]; simp
    · exact Or.inr (fun e => h3 e.symm)
  refine ⟨(h1.alloc _).kept hg h3', by simpa using ho, ?_, below_append (h4.alloc h4.size _) hg (h2.alloc _) (by simp; have := h4.size; omega)⟩
  rcases hv with hv | hv
  · rw [hv]; exact h3
  · right
    rw [hv]
    intro e
    have := (h1.lt _ e.symm).2
    omega
theorem TwoRows.below {w wr w' : World} {xs ys : List Int} {v u : Value} (h : TwoRows w xs ys v u wr) (hb : Below wr.heap.size wr w') : TwoRows w xs ys v u w' :=
  ⟨own_below h.1 hb, own_below h.2.1 hb, h.2.2.1, h.2.2.2.trans (hb.mono h.2.2.2.size)⟩

def onesEach (bss : List (List UInt8)) : List Int := bss.map sizeOnes
def bitsEach (bss : List (List UInt8)) : List Int := bss.map sizeBits
theorem onesEach_snoc {bss : List (List UInt8)} {k : Nat} {b : List UInt8} (h : bss[k]? = some b) : onesEach (bss.take (k + 1)) = onesEach (bss.take k) ++ [sizeOnes b] := by
  unfold onesEach; rw [take_snoc h]; simp
theorem bitsEach_snoc {bss : List (List UInt8)} {k : Nat} {b : List UInt8} (h : bss[k]? = some b) : bitsEach (bss.take (k + 1)) = bitsEach (bss.take k) ++ [sizeBits b] := by
  unfold bitsEach; rw [take_snoc h]; simp

set_option maxHeartbeats 1600000 in
theorem sizeEach_any (L : Option Addr) (N e : Nat) (bss : List (List UInt8)) (w : World) (av : Nat → Prop) (hL : RBB w av L N e bss) (hN : N * 24 ≤ 140737488351232) (hlen : ∀ b ∈ bss, b.length ≤ 140737488351232) :
    Calls Tryd.prog 32 #[.slice L N e] w (RetII w (onesEach bss) (bitsEach bss)) := by
  obtain ⟨i0, hi, hz0, hz1, hz2⟩ := info_parts int_info
  have HL := hide hL.free
  have Hlen := hide hlen
  have Hst := hide (TwoRows.start w)
  clear hL hlen
  go_enter Tryd.func32, Tryd.ntmps32
  go_wp2_with fail
  go_loopw [4, 5, 14] (fun v u i wr => ∃ k : Nat, k ≤ N ∧ i = .int .i64 k ∧ TwoRows w (onesEach (bss.take k)) (bitsEach (bss.take k)) v u wr) (fun _ _ i _ => N - (intOf i).toNat)
  case atStart => exact ⟨0, Nat.zero_le _, rfl, Hst.out⟩
  case round =>
    obtain ⟨k, hk, rfl, hr⟩ := hrel
    have Hr := hide hr
    by_cases hlt : k < N
    · obtain ⟨g, o, B, mb, f, b, rfl, hbk, hc, hb⟩ := (HL.out.below hr.2.2.2).at_ hlt
      have hmb : mb ≤ 140737488351232 := by rw [← hb.len]; exact Hlen.out b (List.mem_of_getElem? hbk)
      have Hsz := hide (size_any B mb f b wr no hb hmb)
      have Ho := hide (onesEach_snoc hbk)
      have Hb := hide (bitsEach_snoc hbk)
      have hl1 : (onesEach (bss.take k)).length = k := by unfold onesEach; rw [List.length_map, List.length_take, HL.out.len]; omega
      have hl2 : (bitsEach (bss.take k)).length = k := by unfold bitsEach; rw [List.length_map, List.length_take, HL.out.len]; omega
      have Hl1 := hide hl1
      have Hl2 := hide hl2
      have hsz := hr.2.2.2.size
      generalize onesEach (bss.take k) = os at *
      generalize bitsEach (bss.take k) = bz at *
      generalize sizeOnes b = z1 at *
      generalize sizeBits b = z2 at *
      have Hr1 := hide (hr.1.alloc (.cells #[.int .i64 z1] 3))
      rw [Hl1.out] at Hr1
      generalize hom : os.map (Value.int .i64) = om at *
      have Hom := hide hom
      clear hr hb hbk hl1 hl2 hom
      go_wp2_with fail
      with_reducible refine Hsz.out.mono ?_
      rintro e w' ⟨rfl, rfl⟩
      go_wp2_with (at_builtin; refine wpList_append_rd _ rfl (.tmp 23) (.tmp 25) _ rfl w.heap.size 3 i0 _ 8 Tryd.underlying39 hi hz0 hz1 hz2 rfl _ k _ rfl Hr1.out no (some ⟨wr.heap.size, 0, none⟩) 1 1 [.int .i64 z1] rfl ?_ ?_ ?_ ?_ ?_ ?_)
      · exact Rd.one wr _ _ no (fun h => h)
      · intro u hu; simp at hu; subst hu; rfl
      · unfold maxLen; omega
      · omega
      · simp; omega
      intro v' w2 h1 h2 h3
      have Hs := hide (TwoRows.first Hr.out (by rw [Hl1.out, Hom.out]; exact h1) h2 h3)
      have hsz2 := Hs.out.2.2.2.size
      have Hr2 := hide (Hs.out.2.1.alloc (.cells #[.int .i64 z2] 3))
      rw [Hl2.out] at Hr2
      generalize hbm : bz.map (Value.int .i64) = bm at *
      have Hbm := hide hbm
      clear h1 h2 h3 Hr1 hbm
      go_wp2_with (at_builtin; refine wpList_append_rd _ rfl (.tmp 27) (.tmp 29) _ rfl w.heap.size 3 i0 _ 8 Tryd.underlying39 hi hz0 hz1 hz2 rfl _ k _ rfl Hr2.out no (some ⟨w2.heap.size, 0, none⟩) 1 1 [.int .i64 z2] rfl ?_ ?_ ?_ ?_ ?_ ?_)
      · exact Rd.one w2 _ _ no (fun h => h)
      · intro u hu; simp at hu; subst hu; rfl
      · unfold maxLen; omega
      · omega
      · simp; omega
      intro u' w3 h1 h2 h3
      have Hs2 := hide (TwoRows.second Hs.out (by rw [Hl2.out, Hbm.out]; exact h1) h2 h3)
      clear h1 h2 h3
      go_wp2_with fail
      go_roundw
      case rel => exact ⟨k + 1, by omega, by go_num, by rw [Ho.out, Hb.out]; exact Hs2.out⟩
      case measure => simp [intOf]; omega
    · obtain rfl : k = N := by omega
      clear hr
      go_wp2_with fail
      go_ret2
      have h1 := Hr.out
      rw [List.take_of_length_le (by rw [HL.out.len]; omega)] at h1
      exact ⟨_, _, rfl, h1⟩
end Go.Proofs.YtmfcgglgolajnaaDoor
