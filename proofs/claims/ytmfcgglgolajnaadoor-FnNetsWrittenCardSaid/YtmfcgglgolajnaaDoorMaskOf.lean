/-
  The contracts of CIDRMask, MasksOf, maskOf, contains.
-/
import Derived.Test.YtmfcgglgolajnaaDoorMB
import Derived.Test.YtmfcgglgolajnaaDoorCidr
import Derived.Test.YtmfcgglgolajnaaDoorMA
namespace Go.Proofs.YtmfcgglgolajnaaDoor
open Go.RowKit
set_option linter.unusedVariables false

/-- The first i bytes are done. -/
def cidrTo (n k i : Nat) : List UInt8 := (cidr n k).take i ++ List.replicate (n - i) 0
theorem cidrTo_end (n k : Nat) : cidrTo n k n = cidr n k := by
  unfold cidrTo; rw [List.take_of_length_le (by rw [cidr_length]; omega)]; simp
theorem cidrTo_length {n k i : Nat} (h : i ≤ n) : (cidrTo n k i).length = n := by
  unfold cidrTo; simp [cidr_length]; omega
theorem cidrTo_set {n k i : Nat} (h : i < n) : (cidrTo n k i).set i (byteMask (k - 8 * i)) = cidrTo n k (i + 1) := by
  unfold cidrTo
  rw [take_snoc (cidr_at (k := k) h)]
  have hl : ((cidr n k).take i).length = i := by rw [List.length_take, cidr_length]; omega
  rw [List.set_append, if_neg (by omega), hl, Nat.sub_self, show n - i = (n - (i + 1)) + 1 by omega, List.replicate_succ, List.set_cons_zero, List.append_assoc]
  rfl

def CMr (w : World) (n k i : Nat) (wr : World) : Prop := Blk wr w.heap.size 5 ((cidrTo n k i).map fun b => .int .u8 (b.toNat : Int)) ∧ Below w.heap.size w wr
theorem CMr.start (w : World) (n k : Nat) : CMr w n k 0 (w.alloc (.cells (timesOf n (.int .u8 0)).toArray 5)) := by
  refine ⟨?_, (Below.refl _ _).alloc (Nat.le_refl _) _⟩
  have := Blk.new w 5 (timesOf n (.int .u8 0))
  unfold cidrTo
  rw [List.take_zero, List.nil_append, Nat.sub_zero, List.map_replicate]
  exact this
theorem CMr.step {w : World} {n k i : Nat} {wr : World} (h : CMr w n k i wr) (hi : i < n) : CMr w n k (i + 1) (wr.setCell ⟨w.heap.size, i, none⟩ (.int .u8 ((byteMask (k - 8 * i)).toNat : Int))) := by
  obtain ⟨h1, h2⟩ := h
  refine ⟨?_, h2.setCell (Nat.le_refl _) _⟩
  have := h1.set_ i (.int .u8 ((byteMask (k - 8 * i)).toNat : Int))
  rw [← cidrTo_set hi, List.map_set]
  exact this

theorem byteMask_big {r : Nat} (h : 8 ≤ r) : ((byteMask r).toNat : Int) = 255 := by unfold byteMask; rw [if_pos h]; rfl
theorem byteMask_small {r : Nat} (h : r < 8) : bits .xor .u8 (if IntKind.u8.signed = true then -1 else IntKind.u8.max) ((255 : Int) / 2 ^ r) = ((byteMask r).toNat : Int) := by
  have : r = 0 ∨ r = 1 ∨ r = 2 ∨ r = 3 ∨ r = 4 ∨ r = 5 ∨ r = 6 ∨ r = 7 := by omega
  rcases this with rfl | rfl | rfl | rfl | rfl | rfl | rfl | rfl <;> decide

set_option maxRecDepth 100000 in
set_option maxHeartbeats 1600000 in
theorem cidrMask_own (k b : Int) (n : Nat) (w : World) (hn : n = 4 ∨ n = 16) (hb : b = 8 * (n : Int)) (h0 : 0 ≤ k) (hk : k ≤ 8 * (n : Int)) :
    Calls Tryd.prog 49 #[.int .i64 k, .int .i64 b] w (RetBF w (cidr n k.toNat)) := by
  obtain ⟨i0, hi, hz0, hz1, hz2⟩ := info_parts byte_info
  obtain ⟨k, rfl⟩ := Int.eq_ofNat_of_zero_le h0
  rw [Int.toNat_natCast]
  have hk' : k ≤ 8 * n := by omega
  have hmk := fun W => run_make1 (P := Tryd.prog) 62 5 i0 (.int .u8 0) Tryd.underlying62 hi hz0 hz1 rfl n (by rw [hz2]; omega) (by omega) W
  have Hst := hide (CMr.start w n k)
  have hcase : (b = 32 ∧ n = 4) ∨ (b = 128 ∧ n = 16) := by omega
  have hn16 : n ≤ 16 := by omega
  clear hb h0 hk
  rcases hcase with ⟨rfl, hn4⟩ | ⟨rfl, hn4⟩
  · subst hn4
    have t1 : decide ((32 : Int) < (k : Int)) = false := by simp; omega
    have hmk4 : ∀ W : World, (Instr.makeSlice 62 (.int .i64 4) (.int .i64 4)).run Tryd.prog W = .ok (.slice (some ⟨W.heap.size, 0, none⟩) 4 4) (W.alloc (.cells (timesOf 4 (.int .u8 0)).toArray 5)) := hmk
    clear hmk
    go_enter Tryd.func49, Tryd.ntmps49
    go_wp2_with fail
    clear hmk4
    go_loopw [7, 8] (fun r i wr => ∃ j : Nat, j ≤ 4 ∧ i = .int .i64 j ∧ r = .int .u64 ((k - 8 * j : Nat) : Int) ∧ CMr w 4 k j wr) (fun _ i _ => 4 - (intOf i).toNat)
    case atStart => exact ⟨0, Nat.zero_le _, rfl, rfl, Hst.out⟩
    case round =>
      obtain ⟨j, hj, rfl, rfl, hr⟩ := hrel
      have Hr := hide hr
      by_cases hlt : j < 4
      · obtain ⟨u, hu⟩ : ∃ u, ((cidrTo 4 k j).map fun b : UInt8 => Value.int .u8 (b.toNat : Int))[j]? = some u := ⟨_, List.getElem?_eq_getElem (by rw [List.length_map, cidrTo_length hj]; exact hlt)⟩
        have hcell : wr.cell? ⟨w.heap.size, j, none⟩ = some u := by rw [hr.1.cell, hu]
        have hfz : wr.frozen? ⟨w.heap.size, j, none⟩ = false := hr.1.frozen j
        have i1 : (0 : Int) ≤ j := by omega
        have Hs := hide (Hr.out.step hlt)
        have hnext : k - 8 * (j + 1) = k - 8 * j - 8 := by omega
        have hrk : k - 8 * j ≤ 32 := by omega
        generalize hrr : k - 8 * j = r at *
        have Hn2 := hide hnext
        clear hr hu hnext hrr
        by_cases h8 : 8 ≤ r
        · rw [byteMask_big h8] at Hs
          go_wp2_with fail
          go_roundw
          case rel => exact ⟨j + 1, by omega, by go_num, by rw [Hn2.out]; go_num, Hs.out⟩
          case measure => simp [intOf]; omega
        · have h8' : r < 8 := by omega
          rw [← byteMask_small h8'] at Hs
          go_wp2_with fail
          go_roundw
          case rel => exact ⟨j + 1, by omega, by go_num, by rw [Hn2.out, show r - 8 = 0 by omega]; rfl, Hs.out⟩
          case measure => simp [intOf]; omega
      · obtain rfl : j = 4 := by omega
        clear hr
        go_wp2_with fail
        go_ret
        have h1 := Hr.out
        unfold CMr at h1
        rw [cidrTo_end] at h1
        refine ⟨_, 4, by rw [cidr_length]; rfl, ?_, h1.2⟩
        rw [cidr_length]
        exact h1.1.rb (by omega) (cidr_length _ _) (Nat.le_refl _) (by unfold maxLen; omega)
  · subst hn4
    have t1 : decide ((128 : Int) < (k : Int)) = false := by simp; omega
    have hmk16 : ∀ W : World, (Instr.makeSlice 62 (.int .i64 16) (.int .i64 16)).run Tryd.prog W = .ok (.slice (some ⟨W.heap.size, 0, none⟩) 16 16) (W.alloc (.cells (timesOf 16 (.int .u8 0)).toArray 5)) := hmk
    clear hmk
    go_enter Tryd.func49, Tryd.ntmps49
    go_wp2_with fail
    clear hmk16
    go_loopw [7, 8] (fun r i wr => ∃ j : Nat, j ≤ 16 ∧ i = .int .i64 j ∧ r = .int .u64 ((k - 8 * j : Nat) : Int) ∧ CMr w 16 k j wr) (fun _ i _ => 16 - (intOf i).toNat)
    case atStart => exact ⟨0, Nat.zero_le _, rfl, rfl, Hst.out⟩
    case round =>
      obtain ⟨j, hj, rfl, rfl, hr⟩ := hrel
      have Hr := hide hr
      by_cases hlt : j < 16
      · obtain ⟨u, hu⟩ : ∃ u, ((cidrTo 16 k j).map fun b : UInt8 => Value.int .u8 (b.toNat : Int))[j]? = some u := ⟨_, List.getElem?_eq_getElem (by rw [List.length_map, cidrTo_length hj]; exact hlt)⟩
        have hcell : wr.cell? ⟨w.heap.size, j, none⟩ = some u := by rw [hr.1.cell, hu]
        have hfz : wr.frozen? ⟨w.heap.size, j, none⟩ = false := hr.1.frozen j
        have i1 : (0 : Int) ≤ j := by omega
        have Hs := hide (Hr.out.step hlt)
        have hnext : k - 8 * (j + 1) = k - 8 * j - 8 := by omega
        have hrk : k - 8 * j ≤ 128 := by omega
        generalize hrr : k - 8 * j = r at *
        have Hn2 := hide hnext
        clear hr hu hnext hrr
        by_cases h8 : 8 ≤ r
        · rw [byteMask_big h8] at Hs
          go_wp2_with fail
          go_roundw
          case rel => exact ⟨j + 1, by omega, by go_num, by rw [Hn2.out]; go_num, Hs.out⟩
          case measure => simp [intOf]; omega
        · have h8' : r < 8 := by omega
          rw [← byteMask_small h8'] at Hs
          go_wp2_with fail
          go_roundw
          case rel => exact ⟨j + 1, by omega, by go_num, by rw [Hn2.out, show r - 8 = 0 by omega]; rfl, Hs.out⟩
          case measure => simp [intOf]; omega
      · obtain rfl : j = 16 := by omega
        clear hr
        go_wp2_with fail
        go_ret
        have h1 := Hr.out
        unfold CMr at h1
        rw [cidrTo_end] at h1
        refine ⟨_, 16, by rw [cidr_length]; rfl, ?_, h1.2⟩
        rw [cidr_length]
        exact h1.1.rb (by omega) (cidr_length _ _) (Nat.le_refl _) (by unfold maxLen; omega)
end Go.Proofs.YtmfcgglgolajnaaDoor
