/-
  The contracts of fDecimal and fJoined.
-/
import Derived.Test.YtekmlhkoibgmlaaDoorMB
import Derived.Test.YtekmlhkoibgmlaaDoorMA
import Derived.Test.YtekmlhkoibgmlaaDoorMC
namespace Go.Proofs.YtekmlhkoibgmlaaDoor
open Go.RowKit
set_option linter.unusedVariables false

theorem dig_slice {d : Nat} (h : d < 10) : (ByteArray.mk #[48, 49, 50, 51, 52, 53, 54, 55, 56, 57]).extract d (d + 1) = ⟨#[UInt8.ofNat (48 + d)]⟩ := by
  have key : ∀ e : Fin 10, (ByteArray.mk #[48, 49, 50, 51, 52, 53, 54, 55, 56, 57]).extract e.val (e.val + 1) = ⟨#[UInt8.ofNat (48 + e.val)]⟩ := by decide +kernel
  exact key ⟨d, h⟩
theorem ba_append (a b : List UInt8) : (ByteArray.mk a.toArray) ++ (ByteArray.mk b.toArray) = ⟨(a ++ b).toArray⟩ := by
  apply ByteArray.ext
  simp [ByteArray.data_append]
/-- What stands ahead of the digits so far. -/
def ahead (n : Nat) : List UInt8 := if n = 0 then [] else decL n
theorem ahead_step {n : Nat} (h : n ≠ 0) : ahead n = ahead (n / 10) ++ [UInt8.ofNat (48 + n % 10)] := by
  unfold ahead
  rw [if_neg h]
  by_cases h1 : n < 10
  · rw [decL_small h1, if_pos (by omega), Nat.mod_eq_of_lt h1]; rfl
  · rw [decL_big h1, if_neg (by omega)]
theorem dec_ahead (n : Nat) : decL n = ahead (n / 10) ++ [UInt8.ofNat (48 + n % 10)] := by
  by_cases h : n = 0
  · subst h; rw [decL_small (by omega)]; rfl
  · rw [← ahead_step h]; unfold ahead; rw [if_neg h]

set_option maxRecDepth 100000 in
set_option maxHeartbeats 800000 in
theorem fDecimal_any (n : Nat) (hn : n ≤ 1048575) (w : World) :
    Calls Tryd.prog 19 #[.int .i64 (n : Int)] w fun e w' => e = .returned (.string ⟨(decL n).toArray⟩) ∧ w = w' := by
  have Hd := hide (dec_ahead n)
  have Hs := hide (dig_slice (d := n % 10) (Nat.mod_lt _ (by omega)))
  have i1 : (n : Int) % 10 < 10 := by omega
  have i2 : (0 : Int) ≤ (n : Int) % 10 := by omega
  have i3 : (n : Int) % 10 + 1 ≤ 10 := by omega
  have i4 : ((n : Int) % 10).toNat = n % 10 := by omega
  have i5 : ((n : Int) % 10 + 1).toNat = n % 10 + 1 := by omega
  go_enter Tryd.func19, Tryd.ntmps19
  go_wp2_with fail
  rw [Hs.out]
  go_loop [0, 3] (fun s0 s3 => ∃ (m : Nat) (out : List UInt8), m ≤ 1048575 ∧ s0 = .int .i64 m ∧ s3 = .string ⟨out.toArray⟩ ∧ out.length + m ≤ 104860 ∧ decL n = ahead m ++ out) (fun s0 _ => (intOf s0).toNat)
  case atStart => exact ⟨n / 10, [UInt8.ofNat (48 + n % 10)], by omega, by go_num, rfl, by simp; omega, Hd.out⟩
  case round =>
    obtain ⟨m, out, hm, rfl, rfl, hol, hd⟩ := hrel
    have Hd1 := hide hd
    clear hd i1 i2 i3 i4 i5
    by_cases h0 : m = 0
    · subst h0
      go_wp2_with fail
      go_ret
      refine ⟨?_, rfl⟩
      rw [Hd1.out]; rfl
    · have h0' : (0 : Int) < m := by omega
      have Hs1 := hide (dig_slice (d := m % 10) (Nat.mod_lt _ (by omega)))
      have Hst : Hid (decL n = ahead (m / 10) ++ (UInt8.ofNat (48 + m % 10) :: out)) := hide (by rw [Hd1.out, ahead_step h0]; simp)
      have i1 : (m : Int) % 10 < 10 := by omega
      have i2 : (0 : Int) ≤ (m : Int) % 10 := by omega
      have i3 : (m : Int) % 10 + 1 ≤ 10 := by omega
      have i4 : ((m : Int) % 10).toNat = m % 10 := by omega
      have i5 : ((m : Int) % 10 + 1).toNat = m % 10 + 1 := by omega
      have i6 : ¬ (9223372036854775807 < min (m % 10 + 1) 10 - m % 10 + out.length) := by omega
      go_wp2_with fail
      go_round
      case rel =>
        refine ⟨m / 10, UInt8.ofNat (48 + m % 10) :: out, by omega, by go_num, ?_, by simp; omega, Hst.out⟩
        rw [Hs1.out]
        exact congrArg Value.string (ba_append [UInt8.ofNat (48 + m % 10)] out)
      case measure => simp [intOf]; omega

/-- The text so far. -/
def JoinR (b : List UInt8) (ss : List (List UInt8)) (k : Nat) (v : Value) : Prop := v = .string ⟨(joinL b (ss.take k)).toArray⟩ ∧ (joinL b (ss.take k)).length ≤ k * 1048676

set_option maxRecDepth 100000 in
set_option maxHeartbeats 800000 in
theorem fJoined_any (L : Option Addr) (N e : Nat) (ss : List (List UInt8)) (b : List UInt8) (w : World) (hL : RS w no L N e ss) (hN : N ≤ 1048576) (hall : ∀ s ∈ ss, s.length ≤ 1048576) (hb : b.length ≤ 100) :
    Calls Tryd.prog 16 #[.slice L N e, .string ⟨b.toArray⟩] w fun e w' => e = .returned (.string ⟨(joinL b ss).toArray⟩) ∧ w = w' := by
  have HL := hide hL
  have Hall := hide hall
  have k1 := hL.cap
  have k2 := hL.max
  unfold maxLen at k2
  clear hL hall
  go_enter Tryd.func16, Tryd.ntmps16
  go_wp2_with fail
  go_loop [5, 10] (fun s5 i => ∃ k : Nat, k ≤ N ∧ i = .int .i64 k ∧ JoinR b ss k s5) (fun _ i => N - (intOf i).toNat)
  case atStart => exact ⟨0, Nat.zero_le _, rfl, rfl, by simp [joinL]⟩
  case round =>
    obtain ⟨k, hk, rfl, rfl, hjl⟩ := hrel
    by_cases hlt : k < N
    · obtain ⟨g, o, s, rfl, hsk, hc⟩ := HL.out.at_ hlt
      have hsl := Hall.out s (List.mem_of_getElem? hsk)
      have Hj := hide (joinL_snoc b (ss.take k) s)
      have Ht := hide (take_snoc hsk)
      clear hsk
      by_cases h0 : k = 0
      · have h0' : ¬ ((0 : Int) < (k : Int)) := by omega
        have Hnext : Hid (joinL b (ss.take (k + 1)) = joinL b (ss.take k) ++ s) := hide (by rw [Ht.out, Hj.out, h0, List.take_zero, if_pos rfl]; rfl)
        have Hk0 := hide h0
        clear h0
        generalize joinL b (ss.take k) = jo at *
        have q1 : ¬ (9223372036854775807 < jo.length + s.length) := by omega
        have Hjl := hide hjl
        have Hsl := hide hsl
        have Hbb := hide hb
        clear hjl hsl hb hk
        go_wp2_with fail
        go_round
        case rel => exact ⟨k + 1, by omega, by go_num, by rw [Hnext.out]; exact congrArg Value.string (ba_append jo s), by have := Hjl.out; have := Hsl.out; rw [Hnext.out, List.length_append]; omega⟩
        case measure => simp [intOf]; omega
      · have h0' : (0 : Int) < k := by omega
        have Hnext : Hid (joinL b (ss.take (k + 1)) = (joinL b (ss.take k) ++ b) ++ s) := hide (by
          rw [Ht.out, Hj.out, if_neg (by intro h; have := congrArg List.length h; rw [List.length_take, HL.out.len] at this; simp at this; omega)])
        generalize joinL b (ss.take k) = jo at *
        have q1 : ¬ (9223372036854775807 < jo.length + b.length) := by omega
        have q2 : ¬ (9223372036854775807 < jo.length + b.length + s.length) := by omega
        have Hjl := hide hjl
        have Hsl := hide hsl
        have Hbb := hide hb
        clear hjl hsl hb hk
        go_wp2_with fail
        go_round
        case rel => exact ⟨k + 1, by omega, by go_num, by rw [Hnext.out, ← ba_append, ← ba_append], by have := Hjl.out; have := Hsl.out; have := Hbb.out; rw [Hnext.out, List.length_append, List.length_append]; omega⟩
        case measure => simp [intOf]; omega
    · obtain rfl : k = N := by omega
      have Hend : Hid (ss.take k = ss) := hide (List.take_of_length_le (by rw [HL.out.len]; omega))
      rw [Hend.out]
      clear hjl
      go_wp2_with fail
      go_ret
      exact ⟨rfl, rfl⟩
end Go.Proofs.YtekmlhkoibgmlaaDoor
