/-
  The contracts of the small functions: same, sameYes, isMapped, copied.
-/
import Derived.Test.YtknajppjgdhbfaaRows
import Derived.Test.YtknajppjgdhbfaaAppend
import Derived.Test.YtknajppjgdhbfaaPlain
import Derived.Deep.QuietTactic
import Derived.BigQuiet
import Derived.WalkLawsBesides
import Derived.WalkSpells
import Derived.Outline
import Derived.KernelRfl
namespace Go.Proofs.Ytknajppjgdhbfaa
open Go.RowKit

theorem byte_info : (Try.prog.info? 5).map (fun i => (i.zero, i.size, i.bytes)) = some (some (.int .u8 0), 1, 1) := by kernel_rfl

set_option maxHeartbeats 400000 in
theorem same_any (A B : Option Addr) (n c m d : Nat) (xs ys : List UInt8) (w : World) (av bv : Nat → Prop) (ha : RB w av A n c xs) (hb : RB w bv B m d ys) :
    Calls Try.prog 24 #[.slice A n c, .slice B m d] w fun e w' => e = .returned (.bool (eqL xs ys)) ∧ ∃ q, w' = w.drewN q := by
  have hn := ha.cap
  have hn2 := ha.max
  have Hl1 := hide ha.len
  have Hl2 := hide hb.len
  unfold maxLen at hn2
  by_cases hnm : n = m
  · subst hnm
    have hne : ((n : Int) != (n : Int)) = false := by simp
    go_enter Try.func24, Try.ntmps24
    go_wp2
    go_loopw [13] (fun i wr => ∃ k q : Nat, k ≤ n ∧ i = .int .i64 k ∧ wr = w.drewN q ∧ xs.take k = ys.take k) (fun i _ => n - (intOf i).toNat)
    case atStart => exact ⟨0, 0, Nat.zero_le _, rfl, rfl, rfl⟩
    case round =>
      obtain ⟨k, q, hk, rfl, rfl, htk⟩ := hrel
      by_cases hlt : k < n
      · obtain ⟨g, o, x, rfl, hx, hc⟩ := ha.at_ hlt
        obtain ⟨g2, o2, y, rfl, hy, hd⟩ := hb.at_ hlt
        have Hx := hide hx
        have Hy := hide hy
        have Ht := hide htk
        clear hx hy htk ha hb
        have i1 : (0 : Int) ≤ k := by omega
        have i2 : (k : Int) < n := by omega
        go_wp2
        go_quiet (fail)
        go_wp2
        · go_ret
          exact ⟨ret_bool (eqL_ne Hx.out Hy.out (byte_ne ‹_›)).symm, _, World.drewN_drewN w q nq⟩
        · rename_i h
          obtain rfl := byte_eq h
          go_roundw
          case rel => exact ⟨k + 1, _, by omega, by go_num, rfl, take_step Ht.out Hx.out Hy.out⟩
          case measure => simp [intOf]; omega
      · go_wp2
        go_ret
        exact ⟨ret_bool (eqL_take htk (by rw [Hl1.out]; omega) (by rw [Hl2.out]; omega)).symm, _, rfl⟩
  · have hne : ((n : Int) != (m : Int)) = true := by simp; omega
    go_enter Try.func24, Try.ntmps24
    go_wp2
    go_ret
    exact ⟨ret_bool (eqL_len (by rw [Hl1.out, Hl2.out]; exact hnm)).symm, 0, rfl⟩

set_option maxHeartbeats 400000 in
theorem sameYes_any (A B : Option Addr) (n c m d : Nat) (xs ys : List Bool) (w : World) (av bv : Nat → Prop) (ha : RL w av A n c xs) (hb : RL w bv B m d ys) :
    Calls Try.prog 14 #[.slice A n c, .slice B m d] w fun e w' => e = .returned (.bool (eqL xs ys)) ∧ ∃ q, w' = w.drewN q := by
  have hn := ha.cap
  have hn2 := ha.max
  have Hl1 := hide ha.len
  have Hl2 := hide hb.len
  unfold maxLen at hn2
  by_cases hnm : n = m
  · subst hnm
    have hne : ((n : Int) != (n : Int)) = false := by simp
    go_enter Try.func14, Try.ntmps14
    go_wp2
    go_loopw [13] (fun i wr => ∃ k q : Nat, k ≤ n ∧ i = .int .i64 k ∧ wr = w.drewN q ∧ xs.take k = ys.take k) (fun i _ => n - (intOf i).toNat)
    case atStart => exact ⟨0, 0, Nat.zero_le _, rfl, rfl, rfl⟩
    case round =>
      obtain ⟨k, q, hk, rfl, rfl, htk⟩ := hrel
      by_cases hlt : k < n
      · obtain ⟨g, o, x, rfl, hx, hc⟩ := ha.at_ hlt
        obtain ⟨g2, o2, y, rfl, hy, hd⟩ := hb.at_ hlt
        have Hx := hide hx
        have Hy := hide hy
        have Ht := hide htk
        clear hx hy htk ha hb
        have i1 : (0 : Int) ≤ k := by omega
        have i2 : (k : Int) < n := by omega
        by_cases hxy : x = y
        · subst hxy
          go_wp2
          go_quiet (fail)
          go_wp2
          go_roundw
          case rel => exact ⟨k + 1, _, by omega, by go_num, rfl, take_step Ht.out Hx.out Hy.out⟩
          case measure => simp [intOf]; omega
        · have hb2 : (!x == y) = true := by cases x <;> cases y <;> simp_all
          have Hxy := hide hxy
          clear hxy
          go_wp2
          go_quiet (fail)
          go_wp2
          go_ret
          exact ⟨ret_bool (eqL_ne Hx.out Hy.out Hxy.out).symm, _, World.drewN_drewN w q nq⟩
      · go_wp2
        go_ret
        exact ⟨ret_bool (eqL_take htk (by rw [Hl1.out]; omega) (by rw [Hl2.out]; omega)).symm, _, rfl⟩
  · have hne : ((n : Int) != (m : Int)) = true := by simp; omega
    go_enter Try.func14, Try.ntmps14
    go_wp2
    go_ret
    exact ⟨ret_bool (eqL_len (by rw [Hl1.out, Hl2.out]; exact hnm)).symm, 0, rfl⟩

theorem copied_own (A : Option Addr) (n c : Nat) (xs : List UInt8) (w : World) (av : Nat → Prop) (ha : RB w av A n c xs) (hn : n ≤ 140737488355328) :
    Calls Try.prog 15 #[.slice A n c] w fun e w' => ∃ v, e = .returned v ∧ w'.ownsRow w.heap.size 5 1 v n (xs.map fun b => .int .u8 (b.toNat : Int)) ∧ Below w.heap.size w w' := by
  obtain ⟨i0, hi, hz0, hz1, hz2⟩ := info_parts byte_info
  have h0 : Rd (w.alloc (.cells #[] 5)) av A n (xs.map fun b => .int .u8 (b.toNat : Int)) := ha.2.2.2.keep (Kept.alloc _ _ _)
  have ho := own_empty w w.heap.size 5 (Nat.le_refl _)
  have hm := ha.max
  have hcap := ha.cap
  go_enter Try.func15, Try.ntmps15
  go_wp2_with (at_builtin; refine wpList_append_rd _ rfl (.tmp 3) (.tmp 4) _ rfl w.heap.size 5 i0 _ 1 Try.underlying22 hi hz0 hz1 hz2 rfl _ 0 [] rfl ho av A n c _ rfl h0 ?c1 ?c2 ?c3 ?c4 ?_)
  case c1 => intro u hu; simp at hu; obtain ⟨x, _, rfl⟩ := hu; rfl
  case c2 => omega
  case c3 => omega
  case c4 => simp
  intro v' w' h1 h2 h3
  go_wp2
  go_ret
  refine ⟨v', rfl, by simpa using h1, ((Below.refl _ _).alloc (Nat.le_refl _) _).grown h2 (by simp) (fun k hk => ?_)⟩
  simp [Value.ownBlock] at hk; omega
end Go.Proofs.Ytknajppjgdhbfaa
