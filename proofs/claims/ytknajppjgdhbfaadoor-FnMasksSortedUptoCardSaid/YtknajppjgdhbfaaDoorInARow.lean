/-
  The contract of MasksInARow.
-/
import Derived.Test.YtknajppjgdhbfaaDoorMaskEach
namespace Go.Proofs.YtknajppjgdhbfaaDoor
open Go.RowKit
set_option linter.unusedVariables false

/-- What is left behind the first k masks. -/
def leftTo (x : List UInt8) (ml : List (List UInt8)) (k : Nat) : List UInt8 := (ml.take k).foldl masked x
theorem leftTo_zero (x : List UInt8) (ml : List (List UInt8)) : leftTo x ml 0 = x := rfl
theorem leftTo_succ {x : List UInt8} {ml : List (List UInt8)} {k : Nat} {m : List UInt8} (h : ml[k]? = some m) : leftTo x ml (k + 1) = masked (leftTo x ml k) m := by
  unfold leftTo; rw [take_snoc h, List.foldl_append]; rfl
theorem leftTo_length {x : List UInt8} {ml : List (List UInt8)} {n : Nat} (hx : x.length = n) (hm : ∀ m ∈ ml, m.length = n) (k : Nat) : (leftTo x ml k).length = n := by
  induction k with
  | zero => exact hx
  | succ k ih =>
    by_cases hk : k < ml.length
    · rw [leftTo_succ (List.getElem?_eq_getElem hk)]
      exact masked_length ih (hm _ (List.getElem_mem hk))
    · have e : leftTo x ml (k + 1) = leftTo x ml k := by
        unfold leftTo; rw [List.take_of_length_le (by omega), List.take_of_length_le (by omega)]
      rw [e]; exact ih
def rowTo (x : List UInt8) (ml : List (List UInt8)) (k : Nat) : List (List UInt8) := (List.range k).map fun j => leftTo x ml (j + 1)
theorem rowTo_succ (x : List UInt8) (ml : List (List UInt8)) (k : Nat) : rowTo x ml (k + 1) = rowTo x ml k ++ [leftTo x ml (k + 1)] := by
  unfold rowTo; rw [List.range_succ]; simp
theorem rowTo_length (x : List UInt8) (ml : List (List UInt8)) (k : Nat) : (rowTo x ml k).length = k := by unfold rowTo; simp
theorem rowTo_at {x : List UInt8} {ml : List (List UInt8)} {k j : Nat} (h : j < k) : (rowTo x ml k)[j]? = some (leftTo x ml (j + 1)) := by
  unfold rowTo; rw [List.getElem?_map, List.getElem?_range h]; rfl

set_option maxHeartbeats 3200000 in
theorem inARow_any (A L : Option Addr) (n c N e : Nat) (x : List UInt8) (ml : List (List UInt8)) (w : World) (av bv : Nat → Prop) (hA : RB w av A n c x) (hL : RBB w bv L N e ml) (hn : n = 4 ∨ n = 16) (hall : ∀ m ∈ ml, m.length = n) (hN : N * 24 ≤ 140737488351232) :
    Calls Tryd.prog 10 #[.slice A n c, .slice L N e] w (RetBBF (fun g => g < w.heap.size) w (rowTo x ml N)) := by
  obtain ⟨i0, hi, hz0, hz1, hz2⟩ := info_parts bytes_info
  obtain ⟨j0, hj, hy0, hy1, hy2⟩ := info_parts byte_info
  have HL := hide hL.free
  have Hall := hide hall
  have Hn := hide hn
  have hn16 : n ≤ 16 := by omega
  have Hst : Hid (Made (fun g => g < w.heap.size) w (rowTo x ml 0) (.slice (some ⟨w.heap.size, 0, none⟩) 0 0) (w.alloc (.cells #[] 22))) := hide (Made.start (fun g => g < w.heap.size) w)
  have HA := hide (hA.free.alloc (.cells #[] 22))
  have HAl := hide hA.len
  clear hL hall hn hA
  go_enter Tryd.func10, Tryd.ntmps10
  go_wp2_with fail
  go_loopw [0, 5, 11] (fun s v i wr => ∃ (k : Nat) (B : Option Addr) (f : Nat), k ≤ N ∧ s = .slice B n f ∧ i = .int .i64 k ∧ RB wr no B n f (leftTo x ml k) ∧ Made (fun g => g < w.heap.size) w (rowTo x ml k) v wr) (fun _ _ i _ => N - (intOf i).toNat)
  case atStart => exact ⟨0, A, c, Nat.zero_le _, rfl, rfl, HA.out, Hst.out⟩
  case round =>
    obtain ⟨k, B, f, hk, rfl, rfl, hB, hr⟩ := hrel
    have Hr := hide hr
    have HB := hide hB
    by_cases hlt : k < N
    · obtain ⟨xs, h1, h2, h3⟩ := hr
      obtain ⟨g, o, D, mb, q, m, rfl, hmk, hc, hm⟩ := (HL.out.below h3).at_ hlt
      obtain rfl : mb = n := by rw [← hm.len]; exact Hall.out m (List.mem_of_getElem? hmk)
      have Hcall := hide (mask_any B D mb f q _ m wr no no hB hm Hn.out)
      rw [← leftTo_succ hmk] at Hcall
      have hll := leftTo_length HAl.out Hall.out (k + 1)
      have Hsn := hide (rowTo_succ x ml k)
      rw [rowTo_length] at h1
      have Hlen := hide (rowTo_length x ml k)
      have H1 := hide h1
      have H2 := hide h2
      have H3 := hide h3
      have hsz := h3.size
      have Hown : Hid (∀ g, rowOf u5 g → g < wr.heap.size) := hide fun g h => (h1.lt g h).2
      generalize rowTo x ml k = al at *
      generalize hcm : leftTo x ml (k + 1) = cm at *
      have Hcm := hide hcm
      clear hcm
      have Hll := hide hll
      clear hmk hm hB h1 h2 h3 hll
      go_wp2_with fail
      with_reducible refine Hcall.out.mono ?_
      rintro e w1 ⟨Ac, cc, rfl, hrb0, hcb⟩
      rw [Hll.out] at hrb0 ⊢
      have Hrb := hide hrb0
      have Hcb := hide hcb
      have hsz1 := hcb.size
      have Hrd := hide hrb0.2.2.2
      obtain ⟨y, hy⟩ : ∃ y, y = cm.map (fun b => Value.int .u8 (b.toNat : Int)) := ⟨_, rfl⟩
      rw [← hy] at Hrd
      have Hy := hide hy
      clear hrb0 hcb hy
      go_wp2_with (at_builtin; refine wpList_append_rd _ rfl (.const (.slice none 0 0)) (.tmp 19) _ rfl w1.heap.size 5 j0 _ 1 Tryd.underlying22 hj hy0 hy1 hy2 rfl _ 0 [] rfl (World.ownsRow_nil w1 _ _ _) _ Ac mb cc y rfl Hrd.out ?_ ?_ ?_ ?_ ?_)
      · intro u hu
        rw [Hy.out] at hu
        simp at hu
        obtain ⟨b, _, rfl⟩ := hu
        rfl
      · unfold maxLen; omega
      · omega
      · omega
      intro v2 w2 q1 q2 q3
      have hb2 : Below w1.heap.size w1 w2 := (Below.refl _ _).grown q2 (Nat.le_refl _) (fun g hg => by simp [Value.ownBlock] at hg)
      have q1' : w2.ownsRow w1.heap.size 5 1 v2 mb (cm.map fun b => .int .u8 (b.toNat : Int)) := by rw [← Hy.out]; simpa using q1
      obtain ⟨A2, d2, rfl, hrb2⟩ := RB.of_own_av (av := fun g => g < w.heap.size ∨ rowOf u5 g) q1' (fun g h => h.elim (fun h => by omega) (fun h => by have := Hown.out g h; omega))
      have hbb : Below wr.heap.size wr w2 := Hcb.out.trans (hb2.mono Hcb.out.size)
      have h1' := own_below H1.out hbb
      rw [← Hlen.out] at h1'
      have h2' := H2.out.keep (Kept.of_below hbb _)
      have h3' := H3.out.trans (hbb.mono H3.out.size)
      have hsz2 := hb2.size
      have Ho := hide (h1'.alloc (.cells #[.slice A2 mb d2] 22))
      have Hf := hide (fun v' w' => Made.step (v' := v') (w' := w') h1' h2' h3' hrb2)
      rw [Hlen.out] at Ho Hf
      have Hkeep := hide ((Hrb.out.below hb2).sub (av' := rowOf u5) fun g _ h => Hown.out g h)
      clear h1' h2' h3' hrb2 q1 q1' q2 q3 hb2 hbb
      go_wp2_with (at_builtin; refine wpList_append_rd _ rfl (.tmp 18) (.tmp 21) _ rfl w.heap.size 22 i0 _ 24 Tryd.underlying23 hi hz0 hz1 hz2 rfl _ k _ rfl Ho.out no (some ⟨w2.heap.size, 0, none⟩) 1 1 [.slice A2 mb d2] rfl ?_ ?_ ?_ ?_ ?_ ?_)
      · exact Rd.one w2 _ _ no (fun h => h)
      · intro u hu; simp at hu; subst hu; rfl
      · unfold maxLen; omega
      · omega
      · simp; omega
      intro v' w3 h1 h2 h3
      have Hs := hide (Hf.out v' w3 h1 h2 h3)
      have Hk3 := hide ((Hkeep.out.alloc _).keep (Kept.of_grown h2))
      clear h1 h2 h3
      go_wp2_with fail
      go_roundw
      case rel => exact ⟨k + 1, Ac, cc, by omega, rfl, by go_num, by rw [Hcm.out]; exact Hk3.out.free, by rw [Hsn.out]; exact Hs.out⟩
      case measure => simp [intOf]; omega
    · obtain rfl : k = N := by omega
      clear hr hB
      go_wp2_with fail
      go_ret
      exact Hr.out.retF (fun _ h => h)
end Go.Proofs.YtknajppjgdhbfaaDoor
