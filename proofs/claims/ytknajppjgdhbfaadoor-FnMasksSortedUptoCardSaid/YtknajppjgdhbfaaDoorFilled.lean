/-
  The contract of filled.
-/
import Derived.Test.YtknajppjgdhbfaaDoorCopied
import Derived.Test.YtknajppjgdhbfaaDoorIsBit
import Derived.Test.YtknajppjgdhbfaaDoorRangeL
namespace Go.Proofs.YtknajppjgdhbfaaDoor
open Go.RowKit
set_option linter.unusedVariables false

def byL (bs : List UInt8) : List Value := bs.map fun b => .int .u8 (b.toNat : Int)
theorem byL_set (bs : List UInt8) (i : Nat) (x : UInt8) : (byL bs).set i (.int .u8 (x.toNat : Int)) = byL (bs.set i x) := by unfold byL; rw [List.map_set]

/-- A row of bytes of the call's own, laid behind w. -/
def OwnB (w : World) (v : Value) (n : Nat) (bs : List UInt8) (wr : World) : Prop := wr.ownsRow w.heap.size 5 1 v n (byL bs) ∧ Below w.heap.size w wr
theorem OwnB.rb {w wr : World} {A : Option Addr} {n c : Nat} {bs : List UInt8} (h : OwnB w (.slice A n c) n bs wr) : RB wr no A n c bs := by
  obtain ⟨A', c', e, hr⟩ := RB.of_own h.1
  injection e with e1 _ e3
  subst e1 e3
  exact hr
theorem OwnB.form {w wr : World} {v : Value} {n : Nat} {bs : List UInt8} (h : OwnB w v n bs wr) : ∃ A c, v = .slice A n c ∧ n ≤ c ∧ c ≤ maxLen := by
  obtain ⟨A', c', e, hr⟩ := RB.of_own h.1
  exact ⟨A', c', e, hr.cap, hr.max⟩
theorem OwnB.some_ {w wr : World} {A : Option Addr} {n c : Nat} {bs : List UInt8} (h : OwnB w (.slice A n c) n bs wr) (hn : 0 < n) : ∃ g, A = some ⟨g, 0, none⟩ ∧ w.heap.size ≤ g := by
  rcases h.1.2 with ⟨_, h2⟩ | ⟨g, cap, cur, h2, h3, _⟩
  · omega
  · injection h2 with h2 _ _; exact ⟨g, h2, h3⟩
theorem OwnB.set_ {w wr : World} {g n c : Nat} {bs : List UInt8} (h : OwnB w (.slice (some ⟨g, 0, none⟩) n c) n bs wr) (hg : w.heap.size ≤ g) (i : Nat) (x : UInt8) :
    OwnB w (.slice (some ⟨g, 0, none⟩) n c) n (bs.set i x) (wr.setCell ⟨g, i, none⟩ (.int .u8 (x.toNat : Int))) := by
  have hs := h.1.stored i (.int .u8 (x.toNat : Int))
  rw [byL_set] at hs
  exact ⟨hs.1, h.2.setCell hg _⟩

theorem OwnB.drew {w wr : World} {v : Value} {n : Nat} {bs : List UInt8} (h : OwnB w v n bs wr) : OwnB w v n bs wr.drew := ⟨h.1, h.2.drew⟩
theorem OwnB.drewN {w wr : World} {v : Value} {n : Nat} {bs : List UInt8} (h : OwnB w v n bs wr) (q : Nat) : OwnB w v n bs (wr.drewN q) := ⟨h.1, below_drewN h.2 q⟩
theorem xor_bit (c : UInt8) (s : Nat) (hs : s < 8) : bits .xor .u8 (c.toNat : Int) ((2 : Int) ^ s % 256) = ((c ^^^ UInt8.ofNat (2 ^ s)).toNat : Int) := by
  have e : (2 : Int) ^ s % 256 = (((UInt8.ofNat (2 ^ s)).toNat : Nat) : Int) := by
    have : ∀ t : Fin 8, (2 : Int) ^ t.val % 256 = (((UInt8.ofNat (2 ^ t.val)).toNat : Nat) : Int) := by decide
    exact this ⟨s, hs⟩
  rw [e, xor_u8]

set_option maxRecDepth 100000 in
set_option maxHeartbeats 1600000 in
theorem filled_own (A : Option Addr) (n c lo : Nat) (on : Bool) (bs : List UInt8) (w : World) (ha : RB w no A n c bs) (hn : n ≤ 16) (hlo : lo ≤ 128) :
    Calls Tryd.prog 13 #[.slice A n c, .int .i64 (lo : Int), .bool on] w fun e w' => ∃ v, e = .returned v ∧ OwnB w v n (filledL bs lo on) w' := by
  have Hc := hide (copied_own A n c bs w no ha (by omega))
  have Hl := hide ha.len
  clear ha
  go_enter Tryd.func13, Tryd.ntmps13
  go_wp2_with fail
  with_reducible refine Hc.out.mono ?_
  rintro e w1 ⟨v, rfl, hv, hb⟩
  have hown : OwnB w v n bs w1 := ⟨hv, hb⟩
  obtain ⟨A1, c1, rfl, hc1, hc2⟩ := hown.form
  have Hown := hide hown
  unfold maxLen at hc2
  clear hv hb hown Hc
  go_wp2_with fail
  go_loopw [8] (fun i wr => ∃ m : Nat, i = .int .i64 ((lo + m : Nat) : Int) ∧ (m = 0 ∨ lo + m ≤ 8 * n) ∧ OwnB w (.slice A1 n c1) n (fillTo bs lo on m) wr) (fun i _ => 8 * n - (intOf i).toNat)
  case atStart => exact ⟨0, rfl, Or.inl rfl, Hown.out⟩
  case round =>
    obtain ⟨m, rfl, hm, hr⟩ := hrel
    have Hr := hide hr
    generalize hK : lo + m = K at *
    have HK := hide hK
    have Hm := hide hm
    by_cases hlt : K < 8 * n
    · obtain ⟨g, rfl, hg⟩ := hr.some_ (show 0 < n by omega)
      obtain ⟨g', o', x, e, hx, hcx⟩ := hr.rb.at_ (k := K / 8) (by omega)
      injection e with e; injection e with e1 e2; subst e1 e2
      rw [Nat.zero_add] at hcx
      have Hbit := hide (isBit_any _ n c1 K _ wr no hr.rb (by omega) hlt)
      have hlen : (fillTo bs lo on m).length = n := by rw [fillTo_length]; exact Hl.out
      have i1 : (K : Int) / 8 < n := by omega
      have i2 : (0 : Int) ≤ (K : Int) / 8 := by omega
      have i3 : (0 : Int) ≤ 7 - (K : Int) % 8 := by omega
      have i6 : (K : Int) < 8 * (n : Int) := by omega
      have hfz := hr.1.frozenAt (K / 8)
      have hx3 := lt_256 x
      have Hxor := hide (xor_bit x (7 - K % 8) (by omega))
      by_cases hb : bitAt (fillTo bs lo on m) K = on
      · have Hnext : Hid (fillTo bs lo on (m + 1) = fillTo bs lo on m) := hide (by rw [fillTo, HK.out, if_pos hb])
        rw [hb] at Hbit
        have hne : (on != on) = false := by simp
        clear hb hr hx hK hm
        go_wp2_with fail
        with_reducible refine Hbit.out.mono ?_
        rintro e w' ⟨rfl, rfl⟩
        go_wp2_with fail
        go_roundw
        case rel => exact ⟨m + 1, by have := HK.out; go_num, Or.inr (by have := HK.out; omega), by rw [Hnext.out]; exact Hr.out⟩
        case measure => simp [intOf]; omega
      · have hf : fillTo bs lo on (m + 1) = (fillTo bs lo on m).set (K / 8) (x ^^^ UInt8.ofNat (2 ^ (7 - K % 8))) := by
          rw [fillTo, HK.out, if_neg hb, flip1, List.getD_eq_getElem?_getD, hx]; rfl
        have Hs := hide (hr.set_ hg (K / 8) (x ^^^ UInt8.ofNat (2 ^ (7 - K % 8))))
        rw [← hf] at Hs
        have hne : (bitAt (fillTo bs lo on m) K != on) = true := by simpa using hb
        generalize bitAt (fillTo bs lo on m) K = bt at *
        generalize x ^^^ UInt8.ofNat (2 ^ (7 - K % 8)) = y at *
        clear hb hr hx hf hK hm
        obtain rfl : bt = !on := by cases bt <;> cases on <;> simp_all
        clear hne
        cases on
        all_goals
          go_wp2_with fail
          with_reducible refine Hbit.out.mono ?_
          rintro e w' ⟨rfl, rfl⟩
          go_wp2_with fail
          go_region
          rw [Hxor.out]
          go_wp2_with fail
          go_roundw
          case rel => exact ⟨m + 1, by have := HK.out; go_num, Or.inr (by have := HK.out; omega), Hs.out.drew⟩
          case measure => simp [intOf]; omega
    · clear hr hK hm
      go_wp2_with fail
      go_ret
      refine ⟨_, rfl, ?_⟩
      unfold filledL
      have e : 8 * bs.length - lo = m := by have := HK.out; have := Hm.out; rw [Hl.out]; omega
      rw [e]
      exact Hr.out

end Go.Proofs.YtknajppjgdhbfaaDoor
