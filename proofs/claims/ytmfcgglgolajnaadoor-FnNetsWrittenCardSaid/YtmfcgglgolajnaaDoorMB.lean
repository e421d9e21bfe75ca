/-
  Joined: Base, FormBytes, Copied, Same, SameYes, Made, Long.
-/
import Derived.Test.YtmfcgglgolajnaaDoorRows
import Derived.Test.YtmfcgglgolajnaaDoorMA
import Derived.Deep.QuietTactic
import Derived.BigQuiet
import Derived.WalkLawsBesides
import Derived.WalkSpells
import Derived.Outline
import Derived.KernelRfl
/-
  What every walk imports.
-/
namespace Go.Proofs.YtmfcgglgolajnaaDoor
open Go.RowKit

theorem byte_info : (Tryd.prog.info? 5).map (fun i => (i.zero, i.size, i.bytes)) = some (some (.int .u8 0), 1, 1) := by kernel_rfl

end Go.Proofs.YtmfcgglgolajnaaDoor
/-
  The contract of formBytes.
-/
namespace Go.Proofs.YtmfcgglgolajnaaDoor
open Go.RowKit

theorem formBytes_own (A : Option Addr) (n c : Nat) (xs : List UInt8) (w : World) (av : Nat → Prop) (ha : RB w av A n c xs) (hn : n ≤ 140737488355328) :
    Calls Tryd.prog 33 #[.slice A n c] w fun e w' => ∃ v, e = .returned v ∧ w'.ownsRow w.heap.size 5 1 v n (xs.map fun b => .int .u8 (b.toNat : Int)) ∧ Below w.heap.size w w' := by
  obtain ⟨i0, hi, hz0, hz1, hz2⟩ := info_parts byte_info
  have h0 := ha.2.2.2
  have ho := World.ownsRow_nil w w.heap.size 5 1
  have hm := ha.max
  have hcap := ha.cap
  go_enter Tryd.func33, Tryd.ntmps33
  go_wp2_with (at_builtin; refine wpList_append_rd _ rfl (.const (.slice none 0 0)) (.tmp 3) _ rfl w.heap.size 5 i0 _ 1 Tryd.underlying22 hi hz0 hz1 hz2 rfl _ 0 [] rfl ho av A n c _ rfl h0 ?c1 ?c2 ?c3 ?c4 ?_)
  case c1 => intro u hu; simp at hu; obtain ⟨x, _, rfl⟩ := hu; rfl
  case c2 => omega
  case c3 => omega
  case c4 => omega
  intro v' w' h1 h2 h3
  go_wp2
  go_ret
  refine ⟨v', rfl, by simpa using h1, (Below.refl _ _).grown h2 (Nat.le_refl _) (fun k hk => ?_)⟩
  simp [Value.ownBlock] at hk
end Go.Proofs.YtmfcgglgolajnaaDoor
/-
  The contract of copied.
-/
namespace Go.Proofs.YtmfcgglgolajnaaDoor
open Go.RowKit

theorem copied_own (A : Option Addr) (n c : Nat) (xs : List UInt8) (w : World) (av : Nat → Prop) (ha : RB w av A n c xs) (hn : n ≤ 140737488355328) :
    Calls Tryd.prog 12 #[.slice A n c] w fun e w' => ∃ v, e = .returned v ∧ w'.ownsRow w.heap.size 5 1 v n (xs.map fun b => .int .u8 (b.toNat : Int)) ∧ Below w.heap.size w w' := by
  obtain ⟨i0, hi, hz0, hz1, hz2⟩ := info_parts byte_info
  have h0 : Rd (w.alloc (.cells #[] 5)) av A n (xs.map fun b => .int .u8 (b.toNat : Int)) := ha.2.2.2.keep (Kept.alloc _ _ _)
  have ho := own_empty w w.heap.size 5 (Nat.le_refl _)
  have hm := ha.max
  have hcap := ha.cap
  go_enter Tryd.func12, Tryd.ntmps12
  go_wp2_with (at_builtin; refine wpList_append_rd _ rfl (.tmp 3) (.tmp 4) _ rfl w.heap.size 5 i0 _ 1 Tryd.underlying22 hi hz0 hz1 hz2 rfl _ 0 [] rfl ho av A n c _ rfl h0 ?c1 ?c2 ?c3 ?c4 ?_)
  case c1 => intro u hu; simp at hu; obtain ⟨x, _, rfl⟩ := hu; rfl
  case c2 => omega
  case c3 => omega
  case c4 => simp
  intro v' w' h1 h2 h3
  go_wp2
  go_ret
  refine ⟨v', rfl, by simpa using h1, ((Below.refl _ _).alloc (Nat.le_refl _) _).grown h2 (by simp) (fun k hk => ?_)⟩
  simp [Value.ownBlock] at hk; omega
end Go.Proofs.YtmfcgglgolajnaaDoor
/-
  The contract of same.
-/
namespace Go.Proofs.YtmfcgglgolajnaaDoor
open Go.RowKit

set_option maxHeartbeats 400000 in
theorem same_any (A B : Option Addr) (n c m d : Nat) (xs ys : List UInt8) (w : World) (av bv : Nat → Prop) (ha : RB w av A n c xs) (hb : RB w bv B m d ys) :
    Calls Tryd.prog 16 #[.slice A n c, .slice B m d] w fun e w' => e = .returned (.bool (eqL xs ys)) ∧ ∃ q, w' = w.drewN q := by
  have hn := ha.cap
  have hn2 := ha.max
  have Hl1 := hide ha.len
  have Hl2 := hide hb.len
  unfold maxLen at hn2
  by_cases hnm : n = m
  · subst hnm
    have hne : ((n : Int) != (n : Int)) = false := by simp
    go_enter Tryd.func16, Tryd.ntmps16
    go_wp2
    go_loopw [13] (fun i wr => ∃ k q : Nat, k ≤ n ∧ i = .int .i64 k ∧ wr = w.drewN q ∧ xs.take k = ys.take k) (fun i _ => n - (intOf i).toNat)
    case atStart => exact ⟨0, 0, Nat.zero_le _, rfl, rfl, rfl⟩
    case round =>
      obtain ⟨k, q, hk, rfl, rfl, htk⟩ := hrel
      by_cases hlt : k < n
      · obtain ⟨g, o, x, rfl, hx, hc⟩ := ha.at_ hlt
        obtain ⟨g2, o2, y, rfl, hy, hd⟩ := hb.at_ hlt
        have Hx := hide hx
        have Hy := hide hy
        have Ht := hide htk
        clear hx hy htk ha hb
        have i1 : (0 : Int) ≤ k := by omega
        have i2 : (k : Int) < n := by omega
        go_wp2
        go_quiet (fail)
        go_wp2
        · go_ret
          exact ⟨ret_bool (eqL_ne Hx.out Hy.out (byte_ne ‹_›)).symm, _, World.drewN_drewN w q nq⟩
        · rename_i h
          obtain rfl := byte_eq h
          go_roundw
          case rel => exact ⟨k + 1, _, by omega, by go_num, rfl, take_step Ht.out Hx.out Hy.out⟩
          case measure => simp [intOf]; omega
      · go_wp2
        go_ret
        exact ⟨ret_bool (eqL_take htk (by rw [Hl1.out]; omega) (by rw [Hl2.out]; omega)).symm, _, rfl⟩
  · have hne : ((n : Int) != (m : Int)) = true := by simp; omega
    go_enter Tryd.func16, Tryd.ntmps16
    go_wp2
    go_ret
    exact ⟨ret_bool (eqL_len (by rw [Hl1.out, Hl2.out]; exact hnm)).symm, 0, rfl⟩
theorem same_len (A B : Option Addr) (n c m d : Nat) (xs ys : List UInt8) (w W : World) (ha : RB w no A n c xs) (hb : RB w no B m d ys) (hW : Below w.heap.size w W) :
    Calls Tryd.prog 16 #[.slice A n c, .slice B m d] W fun e w' => e = .returned (.bool (eqL xs ys)) ∧ Below w.heap.size w w' :=
  (same_any A B n c m d xs ys W no no (ha.below hW) (hb.below hW)).mono fun _ _ ⟨h, q, hq⟩ => ⟨h, hq ▸ below_drewN hW q⟩
end Go.Proofs.YtmfcgglgolajnaaDoor
/-
  The contract of sameYes.
-/
namespace Go.Proofs.YtmfcgglgolajnaaDoor
open Go.RowKit

set_option maxHeartbeats 400000 in
theorem sameYes_any (A B : Option Addr) (n c m d : Nat) (xs ys : List Bool) (w : World) (av bv : Nat → Prop) (ha : RL w av A n c xs) (hb : RL w bv B m d ys) :
    Calls Tryd.prog 27 #[.slice A n c, .slice B m d] w fun e w' => e = .returned (.bool (eqL xs ys)) ∧ ∃ q, w' = w.drewN q := by
  have hn := ha.cap
  have hn2 := ha.max
  have Hl1 := hide ha.len
  have Hl2 := hide hb.len
  unfold maxLen at hn2
  by_cases hnm : n = m
  · subst hnm
    have hne : ((n : Int) != (n : Int)) = false := by simp
    go_enter Tryd.func27, Tryd.ntmps27
    go_wp2
    go_loopw [13] (fun i wr => ∃ k q : Nat, k ≤ n ∧ i = .int .i64 k ∧ wr = w.drewN q ∧ xs.take k = ys.take k) (fun i _ => n - (intOf i).toNat)
    case atStart => exact ⟨0, 0, Nat.zero_le _, rfl, rfl, rfl⟩
    case round =>
      obtain ⟨k, q, hk, rfl, rfl, htk⟩ := hrel
      by_cases hlt : k < n
      · obtain ⟨g, o, x, rfl, hx, hc⟩ := ha.at_ hlt
        obtain ⟨g2, o2, y, rfl, hy, hd⟩ := hb.at_ hlt
        have Hx := hide hx
        have Hy := hide hy
        have Ht := hide htk
        clear hx hy htk ha hb
        have i1 : (0 : Int) ≤ k := by omega
        have i2 : (k : Int) < n := by omega
        by_cases hxy : x = y
        · subst hxy
          go_wp2
          go_quiet (fail)
          go_wp2
          go_roundw
          case rel => exact ⟨k + 1, _, by omega, by go_num, rfl, take_step Ht.out Hx.out Hy.out⟩
          case measure => simp [intOf]; omega
        · have hb2 : (!x == y) = true := by cases x <;> cases y <;> simp_all
          have Hxy := hide hxy
          clear hxy
          go_wp2
          go_quiet (fail)
          go_wp2
          go_ret
          exact ⟨ret_bool (eqL_ne Hx.out Hy.out Hxy.out).symm, _, World.drewN_drewN w q nq⟩
      · go_wp2
        go_ret
        exact ⟨ret_bool (eqL_take htk (by rw [Hl1.out]; omega) (by rw [Hl2.out]; omega)).symm, _, rfl⟩
  · have hne : ((n : Int) != (m : Int)) = true := by simp; omega
    go_enter Tryd.func27, Tryd.ntmps27
    go_wp2
    go_ret
    exact ⟨ret_bool (eqL_len (by rw [Hl1.out, Hl2.out]; exact hnm)).symm, 0, rfl⟩

end Go.Proofs.YtmfcgglgolajnaaDoor
/-
  Slices of slices of bytes that a call makes.
-/
namespace Go.Proofs.YtmfcgglgolajnaaDoor
open Go.RowKit

theorem bytes_info : (Tryd.prog.info? 22).map (fun i => (i.zero, i.size, i.bytes)) = some (some (.slice none 0 0), 1, 24) := by kernel_rfl

/-- A slice of slices of bytes comes back; nothing that was there has turned. -/
def RetBB (w : World) (bss : List (List UInt8)) (e : Ending) (w' : World) : Prop := ∃ A c, e = .returned (.slice A bss.length c) ∧ RBB w' no A bss.length c bss ∧ Below w.heap.size w w'

/-- .. all in blocks that are not of S. -/
def RetBBF (S : Nat → Prop) (w : World) (bss : List (List UInt8)) (e : Ending) (w' : World) : Prop := ∃ A c, e = .returned (.slice A bss.length c) ∧ RBB w' S A bss.length c bss ∧ Below w.heap.size w w'

/-- Slices of the call's own making, in a row of its own; they lie in no block of S. -/
def Made (S : Nat → Prop) (w : World) (bss : List (List UInt8)) (v : Value) (wr : World) : Prop :=
  ∃ xs : List Value, wr.ownsRow w.heap.size 22 1 v bss.length xs ∧ Each wr (fun g => S g ∨ rowOf v g) xs bss ∧ Below w.heap.size w wr

theorem Made.start (S : Nat → Prop) (w : World) : Made S w [] (.slice (some ⟨w.heap.size, 0, none⟩) 0 0) (w.alloc (.cells #[] 22)) :=
  ⟨[], own_empty w w.heap.size _ (Nat.le_refl _), Each.nil, (Below.refl _ _).alloc (Nat.le_refl _) _⟩
theorem Made.start_nil (S : Nat → Prop) (w : World) : Made S w [] (.slice none 0 0) w :=
  ⟨[], World.ownsRow_nil w _ _ _, Each.nil, Below.refl _ _⟩
theorem Made.ret {S : Nat → Prop} {w wr : World} {bss : List (List UInt8)} {v : Value} (h : Made S w bss v wr) : RetBB w bss (.returned v) wr := by
  obtain ⟨xs, h1, h2, h3⟩ := h
  obtain ⟨A, c, rfl, hr⟩ := RBB.of_own h1 h2.free
  exact ⟨A, c, rfl, hr, h3⟩
/-- Where S lies below the row. -/
theorem Made.retF {S : Nat → Prop} {w wr : World} {bss : List (List UInt8)} {v : Value} (h : Made S w bss v wr) (hS : ∀ g, S g → g < w.heap.size) : RetBBF S w bss (.returned v) wr := by
  obtain ⟨xs, h1, h2, h3⟩ := h
  obtain ⟨A, c, rfl, q1, q2, q3⟩ := Rd.of_own h1
  refine ⟨A, c, rfl, ⟨rfl, q1, q2, xs, ⟨q3.1, fun hn => ?_⟩, h2.sub fun g _ h => Or.inl h⟩, h3⟩
  obtain ⟨g, o, e2, hg, _, hc⟩ := q3.2 hn
  refine ⟨g, o, e2, hg, fun hh => ?_, hc⟩
  have := (h1.lt g (by rw [e2]; rfl)).1
  have := hS g hh
  omega
theorem Made.below {S : Nat → Prop} {w wr w' : World} {bss : List (List UInt8)} {v : Value} (h : Made S w bss v wr) (hb : Below wr.heap.size wr w') : Made S w bss v w' := by
  obtain ⟨xs, h1, h2, h3⟩ := h
  exact ⟨xs, own_below h1 hb, h2.keep (Kept.of_below hb _), h3.trans (hb.mono h3.size)⟩
/-- One more: 'append(out, x)', x laid in a cell first. -/
theorem Made.step {S : Nat → Prop} {w w1 w' : World} {bss : List (List UInt8)} {v v' : Value} {A : Option Addr} {n c : Nat} {bs : List UInt8} {xs : List Value} (h1 : w1.ownsRow w.heap.size 22 1 v bss.length xs) (h2 : Each w1 (fun g => S g ∨ rowOf v g) xs bss) (h3 : Below w.heap.size w w1)
    (hr : RB w1 (fun g => S g ∨ rowOf v g) A n c bs) (ho : w'.ownsRow w.heap.size 22 1 v' (bss.length + 1) (xs ++ [.slice A n c])) (hg : (w1.alloc (.cells #[.slice A n c] 22)).grownBy w' v.ownBlock)
    (hv : v'.ownBlock = v.ownBlock ∨ v'.ownBlock = some (w1.heap.size + 1)) : Made S w (bss ++ [bs]) v' w' := by
  have hE : Each w1 (fun g => S g ∨ rowOf v g) (xs ++ [.slice A n c]) (bss ++ [bs]) := h2.snoc hr
  have hK : Kept (rowOf v) w1 w' := (Kept.alloc (rowOf v) w1 _).trans (Kept.of_grown hg)
  refine ⟨_, by simpa using ho, ?_, below_append (h3.alloc h3.size _) hg (h1.alloc _) (by simp; have := h3.size; omega)⟩
  have hE2 : Each w1 (fun g => (S g ∨ rowOf v g) ∨ rowOf v' g) (xs ++ [.slice A n c]) (bss ++ [bs]) := hE.sub fun g hg h => by
    rcases h with h | h
    · exact h
    · unfold rowOf at h ⊢
      rcases hv with hv | hv
      · rw [← hv]; exact Or.inr h
      · rw [hv] at h; injection h with h; omega
  exact (hE2.keep (hK.mono fun _ h => Or.inl (Or.inr h))).sub fun _ _ h => h.elim (fun h => Or.inl (Or.inl h)) Or.inr

end Go.Proofs.YtmfcgglgolajnaaDoor
/-
  The contract of fLong.
-/
namespace Go.Proofs.YtmfcgglgolajnaaDoor
open Go.RowKit
set_option linter.unusedVariables false

def pre12 : List UInt8 := [0, 0, 0, 0, 0, 0, 0, 0, 0, 0, 255, 255]
/-- The 16 bytes of 4. -/
def longOf (xs : List UInt8) : List UInt8 := if xs.length = 4 then pre12 ++ xs else xs
theorem longOf_length {xs : List UInt8} (h : xs.length = 4 ∨ xs.length = 16) : (longOf xs).length = 16 := by
  unfold longOf; rcases h with h | h
  · rw [if_pos h, List.length_append, h]; rfl
  · rw [if_neg (by omega), h]

set_option maxRecDepth 100000 in
set_option maxHeartbeats 1600000 in
theorem fLong_any (A : Option Addr) (n c : Nat) (xs : List UInt8) (w : World) (av : Nat → Prop) (ha : RB w av A n c xs) (hn : n = 4 ∨ n = 16) :
    Calls Tryd.prog 17 #[.slice A n c] w (RetBF w (longOf xs)) := by
  obtain ⟨i0, hi, hz0, hz1, hz2⟩ := info_parts byte_info
  have hl := ha.len
  have hlo := longOf_length (xs := xs) (by omega)
  by_cases h4 : n = 4
  · subst h4
    have Ho := hide (World.ownsRow_lit (base := w.heap.size) (e := 5) (size := 1) w #[.int .u8 0, .int .u8 0, .int .u8 0, .int .u8 0, .int .u8 0, .int .u8 0, .int .u8 0, .int .u8 0, .int .u8 0, .int .u8 0, .int .u8 255, .int .u8 255] 12 (Nat.le_refl _) (by unfold maxLen; omega) rfl)
    have Hr := hide (ha.alloc (.cells #[.int .u8 0, .int .u8 0, .int .u8 0, .int .u8 0, .int .u8 0, .int .u8 0, .int .u8 0, .int .u8 0, .int .u8 0, .int .u8 0, .int .u8 255, .int .u8 255] 5)).2.2.2
    have Hl := hide hl
    have hm := ha.max
    unfold maxLen at hm
    have hcp := ha.cap
    clear ha hl hn
    go_enter Tryd.func17, Tryd.ntmps17
    go_wp2_with (at_builtin; refine wpList_append_rd _ rfl (.tmp 6) (.tmp 7) _ rfl w.heap.size 5 i0 _ 1 Tryd.underlying22 hi hz0 hz1 hz2 rfl _ 12 _ rfl Ho.out av A 4 c _ rfl Hr.out ?c1 ?c2 ?c3 ?c4 ?_)
    case c1 => intro a _; rfl
    case c2 => unfold maxLen; omega
    intro v' w2 h1 h2 h3
    have hb : Below w.heap.size w w2 := below_append ((Below.refl _ _).alloc (Nat.le_refl _) _) h2 Ho.out (by simp)
    have h1' : w2.ownsRow w.heap.size 5 1 v' 16 ((longOf xs).map fun b => .int .u8 (b.toNat : Int)) := by
      unfold longOf
      rw [if_pos Hl.out, List.map_append]
      exact h1
    obtain ⟨Ac, cc, rfl, hrb⟩ := RB.of_own_av (av := fun g => g < w.heap.size) h1' (fun g h => h)
    have Hrb := hide hrb
    have Hb := hide hb
    clear h1 h2 h3 hb h1' hrb
    go_wp2_with fail
    go_ret
    exact ⟨Ac, cc, by rw [hlo]; rfl, by rw [hlo]; exact Hrb.out, Hb.out⟩
  · obtain rfl : n = 16 := by omega
    have Hc := hide (copied_own A 16 c xs w av ha (by omega))
    have hlx : longOf xs = xs := by unfold longOf; rw [if_neg (by omega)]
    rw [hlx]
    clear ha hn h4 hlx hlo
    go_enter Tryd.func17, Tryd.ntmps17
    go_wp2_with fail
    with_reducible refine Hc.out.mono ?_
    rintro e v1 ⟨v, rfl, h1, hb1⟩
    obtain ⟨Ac, cc, rfl, hrb⟩ := RB.of_own_av (av := fun g => g < w.heap.size) h1 (fun g h => h)
    have Hrb := hide hrb
    have Hb := hide hb1
    clear h1 hb1 hrb
    go_wp2_with fail
    go_ret
    exact ⟨Ac, cc, by rw [hl]; rfl, by rw [hl]; exact Hrb.out, Hb.out⟩
end Go.Proofs.YtmfcgglgolajnaaDoor
