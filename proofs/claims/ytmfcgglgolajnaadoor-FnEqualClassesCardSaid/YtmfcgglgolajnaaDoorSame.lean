/-
  The contract of same.
-/
import Derived.Test.YtmfcgglgolajnaaDoorBase
namespace Go.Proofs.YtmfcgglgolajnaaDoor
open Go.RowKit

set_option maxHeartbeats 400000 in
theorem same_any (A B : Option Addr) (n c m d : Nat) (xs ys : List UInt8) (w : World) (av bv : Nat → Prop) (ha : RB w av A n c xs) (hb : RB w bv B m d ys) :
    Calls Tryd.prog 16 #[.slice A n c, .slice B m d] w fun e w' => e = .returned (.bool (eqL xs ys)) ∧ ∃ q, w' = w.drewN q := by
  have hn := ha.cap
  have hn2 := ha.max
  have Hl1 := hide ha.len
  have Hl2 := hide hb.len
  unfold maxLen at hn2
  by_cases hnm : n = m
  · subst hnm
    have hne : ((n : Int) != (n : Int)) = false := by simp
    go_enter Tryd.func16, Tryd.ntmps16
    go_wp2
    go_loopw [13] (fun i wr => ∃ k q : Nat, k ≤ n ∧ i = .int .i64 k ∧ wr = w.drewN q ∧ xs.take k = ys.take k) (fun i _ => n - (intOf i).toNat)
    case atStart => exact ⟨0, 0, Nat.zero_le _, rfl, rfl, rfl⟩
    case round =>
      obtain ⟨k, q, hk, rfl, rfl, htk⟩ := hrel
      by_cases hlt : k < n
      · obtain ⟨g, o, x, rfl, hx, hc⟩ := ha.at_ hlt
        obtain ⟨g2, o2, y, rfl, hy, hd⟩ := hb.at_ hlt
        have Hx := hide hx
        have Hy := hide hy
        have Ht := hide htk
        clear hx hy htk ha hb
        have i1 : (0 : Int) ≤ k := by omega
        have i2 : (k : Int) < n := by omega
        go_wp2
        go_quiet (fail)
        go_wp2
        · go_ret
          exact ⟨ret_bool (eqL_ne Hx.out Hy.out (byte_ne ‹_›)).symm, _, World.drewN_drewN w q nq⟩
        · rename_i h
          obtain rfl := byte_eq h
          go_roundw
          case rel => exact ⟨k + 1, _, by omega, by go_num, rfl, take_step Ht.out Hx.out Hy.out⟩
          case measure => simp [intOf]; omega
      · go_wp2
        go_ret
        exact ⟨ret_bool (eqL_take htk (by rw [Hl1.out]; omega) (by rw [Hl2.out]; omega)).symm, _, rfl⟩
  · have hne : ((n : Int) != (m : Int)) = true := by simp; omega
    go_enter Tryd.func16, Tryd.ntmps16
    go_wp2
    go_ret
    exact ⟨ret_bool (eqL_len (by rw [Hl1.out, Hl2.out]; exact hnm)).symm, 0, rfl⟩
theorem same_len (A B : Option Addr) (n c m d : Nat) (xs ys : List UInt8) (w W : World) (ha : RB w no A n c xs) (hb : RB w no B m d ys) (hW : Below w.heap.size w W) :
    Calls Tryd.prog 16 #[.slice A n c, .slice B m d] W fun e w' => e = .returned (.bool (eqL xs ys)) ∧ Below w.heap.size w w' :=
  (same_any A B n c m d xs ys W no no (ha.below hW) (hb.below hW)).mono fun _ _ ⟨h, q, hq⟩ => ⟨h, hq ▸ below_drewN hW q⟩
end Go.Proofs.YtmfcgglgolajnaaDoor
