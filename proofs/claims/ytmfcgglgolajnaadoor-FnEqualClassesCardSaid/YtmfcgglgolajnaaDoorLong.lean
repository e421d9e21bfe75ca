/-
  The contract of fLong.
-/
import Derived.Test.YtmfcgglgolajnaaDoorBase
import Derived.Test.YtmfcgglgolajnaaDoorRet
import Derived.Test.YtmfcgglgolajnaaDoorCopied
namespace Go.Proofs.YtmfcgglgolajnaaDoor
open Go.RowKit
set_option linter.unusedVariables false

def pre12 : List UInt8 := [0, 0, 0, 0, 0, 0, 0, 0, 0, 0, 255, 255]
/-- The 16 bytes of 4. -/
def longOf (xs : List UInt8) : List UInt8 := if xs.length = 4 then pre12 ++ xs else xs
theorem longOf_length {xs : List UInt8} (h : xs.length = 4 ∨ xs.length = 16) : (longOf xs).length = 16 := by
  unfold longOf; rcases h with h | h
  · rw [if_pos h, List.length_append, h]; rfl
  · rw [if_neg (by omega), h]

set_option maxRecDepth 100000 in
set_option maxHeartbeats 1600000 in
theorem fLong_any (A : Option Addr) (n c : Nat) (xs : List UInt8) (w : World) (av : Nat → Prop) (ha : RB w av A n c xs) (hn : n = 4 ∨ n = 16) :
    Calls Tryd.prog 17 #[.slice A n c] w (RetBF w (longOf xs)) := by
  obtain ⟨i0, hi, hz0, hz1, hz2⟩ := info_parts byte_info
  have hl := ha.len
  have hlo := longOf_length (xs := xs) (by omega)
  by_cases h4 : n = 4
  · subst h4
    have Ho := hide (World.ownsRow_lit (base := w.heap.size) (e := 5) (size := 1) w #[.int .u8 0, .int .u8 0, .int .u8 0, .int .u8 0, .int .u8 0, .int .u8 0, .int .u8 0, .int .u8 0, .int .u8 0, .int .u8 0, .int .u8 255, .int .u8 255] 12 (Nat.le_refl _) (by unfold maxLen; omega) rfl)
    have Hr := hide (ha.alloc (.cells #[.int .u8 0, .int .u8 0, .int .u8 0, .int .u8 0, .int .u8 0, .int .u8 0, .int .u8 0, .int .u8 0, .int .u8 0, .int .u8 0, .int .u8 255, .int .u8 255] 5)).2.2.2
    have Hl := hide hl
    have hm := ha.max
    unfold maxLen at hm
    have hcp := ha.cap
    clear ha hl hn
    go_enter Tryd.func17, Tryd.ntmps17
    go_wp2_with (at_builtin; refine wpList_append_rd _ rfl (.tmp 6) (.tmp 7) _ rfl w.heap.size 5 i0 _ 1 Tryd.underlying22 hi hz0 hz1 hz2 rfl _ 12 _ rfl Ho.out av A 4 c _ rfl Hr.out ?c1 ?c2 ?c3 ?c4 ?_)
    case c1 => intro a _; rfl
    case c2 => unfold maxLen; omega
    intro v' w2 h1 h2 h3
    have hb : Below w.heap.size w w2 := below_append ((Below.refl _ _).alloc (Nat.le_refl _) _) h2 Ho.out (by simp)
    have h1' : w2.ownsRow w.heap.size 5 1 v' 16 ((longOf xs).map fun b => .int .u8 (b.toNat : Int)) := by
      unfold longOf
      rw [if_pos Hl.out, List.map_append]
      exact h1
    obtain ⟨Ac, cc, rfl, hrb⟩ := RB.of_own_av (av := fun g => g < w.heap.size) h1' (fun g h => h)
    have Hrb := hide hrb
    have Hb := hide hb
    clear h1 h2 h3 hb h1' hrb
    go_wp2_with fail
    go_ret
    exact ⟨Ac, cc, by rw [hlo]; rfl, by rw [hlo]; exact Hrb.out, Hb.out⟩
  · obtain rfl : n = 16 := by omega
    have Hc := hide (copied_own A 16 c xs w av ha (by omega))
    have hlx : longOf xs = xs := by unfold longOf; rw [if_neg (by omega)]
    rw [hlx]
    clear ha hn h4 hlx hlo
    go_enter Tryd.func17, Tryd.ntmps17
    go_wp2_with fail
    with_reducible refine Hc.out.mono ?_
    rintro e v1 ⟨v, rfl, h1, hb1⟩
    obtain ⟨Ac, cc, rfl, hrb⟩ := RB.of_own_av (av := fun g => g < w.heap.size) h1 (fun g h => h)
    have Hrb := hide hrb
    have Hb := hide hb1
    clear h1 hb1 hrb
    go_wp2_with fail
    go_ret
    exact ⟨Ac, cc, by rw [hl]; rfl, by rw [hl]; exact Hrb.out, Hb.out⟩
end Go.Proofs.YtmfcgglgolajnaaDoor
