/-
  The contract of toByteS.
-/
import Derived.Test.YtbpecepegceleaaBase
import Derived.Test.YtbpecepegceleaaBlk
import Derived.Test.YtbpecepegceleaaPlain2
namespace Go.Proofs.Ytbpecepegceleaa
open Go.RowKit
set_option linter.unusedVariables false

def byv (bs : List UInt8) : List Value := bs.map fun b => .int .u8 (b.toNat : Int)
/-- The first k bytes are copied. -/
def CpR (w : World) (xs : List UInt8) (k : Nat) (wr : World) : Prop :=
  Blk wr w.heap.size 5 (byv (joinTo (fun _ y => y) (List.replicate xs.length 0) xs k)) ∧ Below w.heap.size w wr

set_option maxHeartbeats 1600000 in
theorem toByteS_any (A : Option Addr) (n c : Nat) (xs : List UInt8) (w : World) (av : Nat → Prop) (ha : RB w av A n c xs) (hn : n ≤ 1048576) :
    Calls Try.prog 21 #[.slice A n c] w fun e w' => e = .returned (.slice (some ⟨w.heap.size, 0, none⟩) n n) ∧ Blk w' w.heap.size 5 (byv xs) ∧ Below w.heap.size w w' := by
  obtain ⟨i0, hi, hz0, hz1, hz2⟩ := info_parts byte_info
  have hmk := fun W => run_make1 (P := Try.prog) 22 5 i0 (.int .u8 0) Try.underlying22 hi hz0 hz1 rfl n (by rw [hz2]; omega) (by omega) W
  have Ha := hide ha.free
  have Hl := hide ha.len
  have Hst : Hid (CpR w xs 0 (w.alloc (.cells (timesOf n (.int .u8 0)).toArray 5))) := hide ⟨by
    have := Blk.new w 5 (timesOf n (.int .u8 0))
    rw [joinTo_zero, ha.len]
    unfold byv
    rw [List.map_replicate]
    exact this, (Below.refl _ _).alloc (Nat.le_refl _) _⟩
  clear ha
  go_enter Try.func21, Try.ntmps21
  go_wp2_with fail
  clear hmk
  go_loopw [4] (fun i wr => ∃ k : Nat, k ≤ n ∧ i = .int .i64 k ∧ CpR w xs k wr) (fun i _ => n - (intOf i).toNat)
  case atStart => exact ⟨0, Nat.zero_le _, rfl, Hst.out⟩
  case round =>
    obtain ⟨k, hk, rfl, h1, h2⟩ := hrel
    have H1 := hide h1
    have H2 := hide h2
    by_cases hlt : k < n
    · obtain ⟨g, o, y, rfl, hy, hc⟩ := (Ha.out.below h2).at_ hlt
      have hz : (List.replicate xs.length (0 : UInt8))[k]? = some 0 := by rw [List.getElem?_replicate, if_pos (by rw [Hl.out]; exact hlt)]
      have hl2 : (List.replicate xs.length (0 : UInt8)).length = xs.length := by simp
      have hcell : wr.cell? ⟨w.heap.size, k, none⟩ = some (.int .u8 0) := by
        rw [h1.cell]
        unfold byv
        rw [List.getElem?_map, joinTo_at hl2 (by rw [hl2, Hl.out]; exact hlt), hz]
        rfl
      have hfz := h1.frozen k
      have Hs : Hid (CpR w xs (k + 1) (wr.setCell ⟨w.heap.size, k, none⟩ (.int .u8 (y.toNat : Int)))) := hide ⟨by
        have q := h1.set_ k (.int .u8 (y.toNat : Int))
        rw [← joinTo_set (f := fun _ y => y) hl2 hz hy]
        unfold byv at q ⊢
        rw [List.map_set]
        exact q, h2.setCell (Nat.le_refl _) _⟩
      have i1 : (0 : Int) ≤ k := by omega
      have i2 : (k : Int) < n := by omega
      clear h1 h2 hy hz hl2
      go_wp2_with fail
      go_roundw
      case rel => exact ⟨k + 1, by omega, by go_num, Hs.out⟩
      case measure => simp [intOf]; omega
    · obtain rfl : k = n := by omega
      clear h1 h2
      go_wp2_with fail
      go_ret
      refine ⟨rfl, ?_, H2.out⟩
      have h := H1.out
      have e := joinTo_end (f := fun (_ y : UInt8) => y) (xs := List.replicate xs.length 0) (ys := xs) (by simp)
      rw [List.length_replicate, Hl.out] at e
      rw [Hl.out, e] at h
      have e2 : List.zipWith (fun (_ y : UInt8) => y) (List.replicate k 0) xs = xs := by
        apply List.ext_getElem?
        intro i
        rw [List.getElem?_zipWith, List.getElem?_replicate]
        by_cases hi : i < k
        · rw [if_pos hi, List.getElem?_eq_getElem (by rw [Hl.out]; exact hi)]
        · rw [if_neg hi, List.getElem?_eq_none (by rw [Hl.out]; omega)]
      rw [e2] at h
      exact h
end Go.Proofs.Ytbpecepegceleaa
