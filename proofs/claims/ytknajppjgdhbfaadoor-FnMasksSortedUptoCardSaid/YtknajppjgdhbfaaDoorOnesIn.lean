/-
  The contract of onesIn.
-/
import Derived.Test.YtknajppjgdhbfaaDoorBase
import Derived.Test.YtknajppjgdhbfaaDoorPlain2
import Derived.Test.YtknajppjgdhbfaaDoorInts
namespace Go.Proofs.YtknajppjgdhbfaaDoor
open Go.RowKit
set_option linter.unusedVariables false

def onesL (bs : List UInt8) (n : Nat) : List Int := bs.map fun b => ((b.toNat : Int) % (8 * (n : Int) + 1))
theorem onesL_length (bs : List UInt8) (n : Nat) : (onesL bs n).length = bs.length := by unfold onesL; simp
theorem onesL_mem {bs : List UInt8} {n : Nat} {z : Int} (h : z ∈ onesL bs n) : 0 ≤ z ∧ z ≤ 8 * (n : Int) := by
  unfold onesL at h
  obtain ⟨b, _, rfl⟩ := List.mem_map.1 h
  have := Int.emod_lt_of_pos (b.toNat : Int) (show (0 : Int) < 8 * (n : Int) + 1 by omega)
  have := Int.emod_nonneg (b.toNat : Int) (show (8 * (n : Int) + 1) ≠ 0 by omega)
  omega
def onesTo (bs : List UInt8) (n k : Nat) : List Value := (onesL (bs.take k) n).map (Value.int .i64)
theorem onesTo_snoc {bs : List UInt8} {n k : Nat} {b : UInt8} (h : bs[k]? = some b) : onesTo bs n (k + 1) = onesTo bs n k ++ [.int .i64 ((b.toNat : Int) % (8 * (n : Int) + 1))] := by
  unfold onesTo onesL; rw [take_snoc h]; simp

set_option maxHeartbeats 1600000 in
theorem onesIn_any (A : Option Addr) (N c n : Nat) (bs : List UInt8) (w : World) (av : Nat → Prop) (hL : RB w av A N c bs) (hn16 : n ≤ 16) (hN : N * 8 ≤ 140737488351232) :
    Calls Tryd.prog 11 #[.slice A N c, .int .i64 (n : Int)] w (RetIO w (onesL bs n)) := by
  obtain ⟨i0, hi, hz0, hz1, hz2⟩ := info_parts int_info
  have HL := hide hL.free
  have Hst : Hid ((w.alloc (.cells #[] 3)).ownsRow w.heap.size 3 1 (.slice (some ⟨w.heap.size, 0, none⟩) 0 0) 0 (onesTo bs n 0) ∧ Below w.heap.size w (w.alloc (.cells #[] 3))) :=
    hide ⟨own_empty w w.heap.size _ (Nat.le_refl _), (Below.refl _ _).alloc (Nat.le_refl _) _⟩
  clear hL
  go_enter Tryd.func11, Tryd.ntmps11
  go_wp2_with fail
  go_loopw [5, 11] (fun v i wr => ∃ k : Nat, k ≤ N ∧ i = .int .i64 k ∧ wr.ownsRow w.heap.size 3 1 v k (onesTo bs n k) ∧ Below w.heap.size w wr) (fun _ i _ => N - (intOf i).toNat)
  case atStart => exact ⟨0, Nat.zero_le _, rfl, Hst.out⟩
  case round =>
    obtain ⟨k, hk, rfl, h1, h2⟩ := hrel
    have H1 := hide h1
    have H2 := hide h2
    by_cases hlt : k < N
    · obtain ⟨g, o, b, rfl, hb, hc⟩ := (HL.out.below h2).at_ hlt
      have Hs1 := hide (onesTo_snoc (n := n) hb)
      have hb1 := lt_256 b
      have hb2 : (0 : Int) ≤ (b.toNat : Int) := by omega
      have hsz := h2.size
      have Ho := hide (fun u => h1.alloc (.cells #[u] 3))
      clear hb h1 h2
      generalize onesTo bs n k = al at *
      go_wp2_with (at_builtin; refine wpList_append_rd _ rfl (.tmp 15) (.tmp 22) _ rfl w.heap.size 3 i0 _ 8 Tryd.underlying31 hi hz0 hz1 hz2 rfl _ k _ rfl (Ho.out _) no (some ⟨wr.heap.size, 0, none⟩) 1 1 [.int .i64 ((b.toNat : Int) % (8 * (n : Int) + 1))] rfl ?_ ?_ ?_ ?_ ?_ ?_)
      · exact Rd.one wr _ _ no (fun h => h)
      · intro u hu; simp at hu; subst hu; rfl
      · unfold maxLen; omega
      · omega
      · simp; omega
      intro v' w2 h1 h2 h3
      have Hs := hide h1
      rw [← Hs1.out] at Hs
      have Hb := hide (below_append (H2.out.alloc H2.out.size _) h2 (Ho.out _) (by simp; omega))
      clear h1 h2 h3
      go_wp2_with fail
      go_roundw
      case rel => exact ⟨k + 1, by omega, by go_num, Hs.out, Hb.out⟩
      case measure => simp [intOf]; omega
    · obtain rfl : k = N := by omega
      clear h1 h2
      go_wp2_with fail
      go_ret
      have h1 := H1.out
      unfold onesTo at h1
      rw [List.take_of_length_le (by rw [HL.out.len]; omega)] at h1
      exact ⟨_, rfl, by rw [onesL_length, HL.out.len]; exact h1, H2.out⟩
end Go.Proofs.YtknajppjgdhbfaaDoor
