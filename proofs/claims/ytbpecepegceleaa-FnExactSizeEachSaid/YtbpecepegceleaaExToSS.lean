/-
  The contract of toByteSS. (In the making.)
-/
import Derived.Test.YtbpecepegceleaaExTo
namespace Go.Proofs.Ytbpecepegceleaa
open Go.RowKit
set_option linter.unusedVariables false

theorem bytes_info_ : (Try.prog.info? 22).map (fun i => (i.zero, i.size, i.bytes)) = some (some (.slice none 0 0), 1, 24) := by kernel_rfl

/-- The row of the first k copies; the rest is nil. -/
def rowOfGs (gs : List Nat) (bss : List (List UInt8)) (N : Nat) : List Value := (List.zipWith (fun g b => Value.slice (some ⟨g, 0, none⟩) (b : List UInt8).length b.length) gs bss) ++ List.replicate (N - gs.length) (.slice none 0 0)

/-- The first gs.length rows are copied, each into a block of its own. -/
structure TSS (w : World) (bss : List (List UInt8)) (gs : List Nat) (wr : World) : Prop where
  len : gs.length ≤ bss.length
  row : Blk wr w.heap.size 22 (rowOfGs gs bss bss.length)
  blk : ∀ (j g : Nat) (b : List UInt8), gs[j]? = some g → bss[j]? = some b → Blk wr g 5 (byv b)
  base : ∀ g ∈ gs, w.heap.size < g
  below : Below w.heap.size w wr

theorem rowOfGs_snoc {gs : List Nat} {bss : List (List UInt8)} {b : List UInt8} (g : Nat) (h : bss[gs.length]? = some b) :
    (rowOfGs gs bss bss.length).set gs.length (.slice (some ⟨g, 0, none⟩) b.length b.length) = rowOfGs (gs ++ [g]) bss bss.length := by
  have hl : gs.length < bss.length := (List.getElem?_eq_some_iff.1 h).1
  unfold rowOfGs
  have hz : (List.zipWith (fun g b => Value.slice (some ⟨g, 0, none⟩) (b : List UInt8).length b.length) gs bss).length = gs.length := by rw [List.length_zipWith]; omega
  have e1 : List.zipWith (fun g b => Value.slice (some ⟨g, 0, none⟩) (b : List UInt8).length b.length) (gs ++ [g]) bss = List.zipWith (fun g b => Value.slice (some ⟨g, 0, none⟩) (b : List UInt8).length b.length) gs bss ++ [.slice (some ⟨g, 0, none⟩) b.length b.length] := by
    have hb : bss = bss.take gs.length ++ (b :: bss.drop (gs.length + 1)) := by
      have := List.getElem_cons_drop hl
      rw [List.getElem?_eq_getElem hl] at h
      injection h with h
      rw [← h, this, List.take_append_drop]
    have e2 : List.zipWith (fun g b => Value.slice (some ⟨g, 0, none⟩) (b : List UInt8).length b.length) gs bss = List.zipWith (fun g b => Value.slice (some ⟨g, 0, none⟩) (b : List UInt8).length b.length) gs (bss.take gs.length) := by
      apply List.ext_getElem?
      intro j
      rw [List.getElem?_zipWith, List.getElem?_zipWith, List.getElem?_take]
      by_cases hj : j < gs.length
      · rw [if_pos hj]
      · rw [List.getElem?_eq_none (show gs.length ≤ j by omega)]
    rw [e2]
    conv => lhs; rw [hb]
    rw [List.zipWith_append (by rw [List.length_take]; omega)]
    rfl
  rw [e1, List.set_append, if_neg (by omega), hz, Nat.sub_self, List.length_append, show bss.length - gs.length = (bss.length - (gs.length + 1)) + 1 by omega, List.replicate_succ, List.set_cons_zero, List.append_assoc]
  rfl

theorem TSS.start (w : World) (bss : List (List UInt8)) : TSS w bss [] (w.alloc (.cells (timesOf bss.length (.slice none 0 0)).toArray 22)) :=
  ⟨Nat.zero_le _, by
    have := Blk.new w 22 (timesOf bss.length (.slice none 0 0))
    unfold rowOfGs
    rw [List.zipWith_nil_left, List.nil_append, List.length_nil, Nat.sub_zero]
    exact this, fun j g b h => by simp at h, fun g h => by simp at h, (Below.refl _ _).alloc (Nat.le_refl _) _⟩

theorem TSS.step {w wr w1 : World} {bss : List (List UInt8)} {gs : List Nat} {b : List UInt8} (h : TSS w bss gs wr) (hb : bss[gs.length]? = some b) (hn : Blk w1 wr.heap.size 5 (byv b)) (hw : Below wr.heap.size wr w1) :
    TSS w bss (gs ++ [wr.heap.size]) (w1.setCell ⟨w.heap.size, gs.length, none⟩ (.slice (some ⟨wr.heap.size, 0, none⟩) b.length b.length)) := by
  have hl : gs.length < bss.length := (List.getElem?_eq_some_iff.1 hb).1
  have hlt : w.heap.size < wr.heap.size := h.row.lt
  refine ⟨by simp; omega, ?_, ?_, ?_, ((h.below.trans (hw.mono h.below.size)).setCell (Nat.le_refl _) _)⟩
  · rw [← rowOfGs_snoc wr.heap.size hb]
    exact (h.row.below hw).set_ _ _
  · intro j g b' hj hb'
    by_cases hjl : j < gs.length
    · rw [List.getElem?_append_left hjl] at hj
      have hg := h.base g (List.mem_of_getElem? hj)
      exact ((h.blk j g b' hj hb').below hw).far (by simp; omega) _
    · have hj0 : j = gs.length := by
        have := (List.getElem?_eq_some_iff.1 hj).1
        simp at this; omega
      subst hj0
      rw [List.getElem?_append_right (Nat.le_refl _), Nat.sub_self] at hj
      simp at hj
      subst hj
      rw [hb] at hb'
      injection hb' with hb'
      subst hb'
      exact hn.far (by simp; omega) _
  · intro g hg
    rcases List.mem_append.1 hg with hg | hg
    · exact h.base g hg
    · simp at hg; subst hg; exact hlt

set_option maxHeartbeats 1600000 in
theorem toByteSS_any (L : Option Addr) (N e : Nat) (bss : List (List UInt8)) (w : World) (hL : RBB w no L N e bss) (hN : N ≤ 1048576) (hall : ∀ b ∈ bss, b.length ≤ 1048576) :
    Calls Try.prog 10 #[.slice L N e] w fun e' w' => e' = .returned (.slice (some ⟨w.heap.size, 0, none⟩) N N) ∧ ∃ gs, gs.length = N ∧ TSS w bss gs w' := by
  obtain ⟨i0, hi, hz0, hz1, hz2⟩ := info_parts bytes_info_
  have hmk := fun W => run_make1 (P := Try.prog) 26 22 i0 (.slice none 0 0) Try.underlying26 hi hz0 hz1 rfl N (by rw [hz2]; omega) (by omega) W
  have HL := hide hL
  have Hl := hide hL.len
  have Hall := hide hall
  have Hst := hide (TSS.start w bss)
  rw [Hl.out] at Hst
  clear hL hall
  go_enter Try.func10, Try.ntmps10
  go_wp2_with fail
  clear hmk
  go_loopw [4] (fun i wr => ∃ (k : Nat) (gs : List Nat), k ≤ N ∧ i = .int .i64 k ∧ gs.length = k ∧ TSS w bss gs wr) (fun i _ => N - (intOf i).toNat)
  case atStart => exact ⟨0, [], Nat.zero_le _, rfl, rfl, Hst.out⟩
  case round =>
    obtain ⟨k, gs, hk, rfl, hg, hr⟩ := hrel
    have Hr := hide hr
    have Hg := hide hg
    by_cases hlt : k < N
    · obtain ⟨g, o, B, mb, f, b, rfl, hbk, hc, hb⟩ := (HL.out.below hr.below).at_ hlt
      have hbl := hb.len
      have hmb : mb ≤ 1048576 := by rw [← hbl]; exact Hall.out b (List.mem_of_getElem? hbk)
      have Hc := hide (toByteS_any B mb f b wr no hb hmb)
      have Hs := hide (fun w1 hn hw => hr.step (w1 := w1) (b := b) (by rw [hg]; exact hbk) hn hw)
      rw [hg, hbl] at Hs
      have hrow := hr.row
      have Hrow := hide hrow
      have i1 : (0 : Int) ≤ k := by omega
      have i2 : (k : Int) < N := by omega
      have hrl : k < (rowOfGs gs bss bss.length).length := by
        unfold rowOfGs
        rw [List.length_append, List.length_zipWith, List.length_replicate, Hl.out, hg]; omega
      have Hrl := hide hrl
      clear hr hg hbk hb hrow hbl hrl
      go_wp2_with fail
      with_reducible refine Hc.out.mono ?_
      rintro e w1 ⟨rfl, h1, hb1⟩
      have hcell : ∃ u, w1.cell? ⟨w.heap.size, k, none⟩ = some u := ⟨_, by rw [(Hrow.out.below hb1).cell]; exact List.getElem?_eq_getElem Hrl.out⟩
      obtain ⟨u, hcell⟩ := hcell
      have hfz := (Hrow.out.below hb1).frozen k
      have Hs2 := hide (Hs.out w1 h1 hb1)
      clear h1 hb1
      go_wp2_with fail
      go_roundw
      case rel => exact ⟨k + 1, _, by omega, by go_num, by rw [List.length_append, Hg.out]; rfl, Hs2.out⟩
      case measure => simp [intOf]; omega
    · obtain rfl : k = N := by omega
      clear hr
      go_wp2_with fail
      go_ret
      exact ⟨rfl, gs, Hg.out, Hr.out⟩
end Go.Proofs.Ytbpecepegceleaa
