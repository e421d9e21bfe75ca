/-
  The contracts of placeIn and fDots.
-/
import Derived.Test.YtekmlhkoibgmlaaDoorFDec
namespace Go.Proofs.YtekmlhkoibgmlaaDoor
open Go.RowKit
set_option linter.unusedVariables false

/-- 'x & m' of an int, m not negative. -/
theorem and_nat (x : Int) (m : Nat) (hm : m < 9223372036854775808) : ∃ r : Nat, bits .and .i64 x (m : Int) = (r : Int) ∧ r ≤ m := by
  have hb : (BitVec.ofInt 64 (m : Int)).toNat = m := by
    rw [BitVec.toNat_ofInt]
    have : ((m : Int) % ((2 ^ 64 : Nat) : Int)) = m := Int.emod_eq_of_lt (by omega) (by omega)
    rw [this]; rfl
  have hle : (BitVec.ofInt 64 x &&& BitVec.ofInt 64 (m : Int)).toNat ≤ m := by
    rw [BitVec.toNat_and, hb]
    exact Nat.and_le_right
  refine ⟨(BitVec.ofInt 64 x &&& BitVec.ofInt 64 (m : Int)).toNat, ?_, hle⟩
  show IntKind.wrap .i64 (((BitVec.ofInt 64 x &&& BitVec.ofInt 64 (m : Int)).toNat : Nat) : Int) = _
  generalize (BitVec.ofInt 64 x &&& BitVec.ofInt 64 (m : Int)).toNat = r at hle ⊢
  rw [IntKind.wrap_i64]
  omega

/-- What placeIn hands back. -/
def placeN (k : Int) (n : Nat) : Nat := (bits .and .i64 k 65535).toNat % (n + 1)
theorem placeN_le (k : Int) (n : Nat) : placeN k n ≤ n := by
  have := Nat.mod_lt (bits .and .i64 k 65535).toNat (show 0 < n + 1 by omega)
  unfold placeN; omega

set_option maxHeartbeats 800000 in
theorem placeIn_any (k : Int) (n : Nat) (m : Int) (hm : (n : Int) = m) (hn : n ≤ 1048576) (w : World) :
    Calls Tryd.prog 13 #[.int .i64 k, .int .i64 m] w fun e w' => e = .returned (.int .i64 (placeN k n : Int)) ∧ w = w' := by
  subst hm
  obtain ⟨r, hr, hle⟩ := and_nat k 65535 (by omega)
  have hr' : bits .and .i64 k 65535 = (r : Int) := hr
  have hp : (placeN k n : Int) = (r : Int) % ((n : Int) + 1) := by
    unfold placeN; rw [hr', Int.toNat_natCast]; push_cast; rfl
  have Hp := hide hp
  have h0 : ((n : Int) + 1 == 0) = false := by rw [beq_eq_false_iff_ne]; omega
  have h00 : ¬ ((n : Int) + 1 = 0) := by omega
  have h1 : (r : Int).tmod ((n : Int) + 1) = (r : Int) % ((n : Int) + 1) := Int.tmod_eq_emod_of_nonneg (by omega)
  have b1 : (r : Int) % ((n : Int) + 1) < (n : Int) + 1 := Int.emod_lt_of_pos _ (by omega)
  have b2 : 0 ≤ (r : Int) % ((n : Int) + 1) := Int.emod_nonneg _ (by omega)
  clear hr hp
  go_enter Tryd.func13, Tryd.ntmps13
  go_wp2_with fail
  go_ret
  rw [Hp.out]
  exact ⟨rfl, rfl⟩

/-- Three numbers and a text behind them. -/
def dots4 (x y z : UInt8) (last : List UInt8) : List UInt8 := decL x.toNat ++ [46] ++ decL y.toNat ++ [46] ++ decL z.toNat ++ [46] ++ last

theorem decL_short3 (b : UInt8) : (decL b.toNat).length ≤ 3 := decL_length_le (k := 2) (by have := b.toNat_lt; omega)

set_option maxRecDepth 100000 in
set_option maxHeartbeats 1600000 in
theorem fDots_any (g o n c : Nat) (x y z : UInt8) (last : List UInt8) (w : World) (hn : 3 ≤ n) (c0 : w.cell? ⟨g, o, none⟩ = some (.int .u8 (x.toNat : Int))) (c1 : w.cell? ⟨g, o + 1, none⟩ = some (.int .u8 (y.toNat : Int))) (c2 : w.cell? ⟨g, o + 2, none⟩ = some (.int .u8 (z.toNat : Int))) (hl : last.length ≤ 1048576) :
    Calls Tryd.prog 14 #[.slice (some ⟨g, o, none⟩) n c, .string ⟨last.toArray⟩] w fun e w' => e = .returned (.string ⟨(dots4 x y z last).toArray⟩) ∧ ∃ m, w' = w.drewN m := by
  have hx := decL_short3 x
  have hy := decL_short3 y
  have hz := decL_short3 z
  have bx := x.toNat_lt
  have byy := y.toNat_lt
  have bz := z.toNat_lt
  have H1 := hide (fun W => (fDecimal_any x.toNat (by omega) W))
  have H2 := hide (fun W => (fDecimal_any y.toNat (by omega) W))
  have H3 := hide (fun W => (fDecimal_any z.toNat (by omega) W))
  have i1 : (1 : Int) < n := by omega
  have i2 : (2 : Int) < n := by omega
  have i0 : (0 : Int) < n := by omega
  unfold dots4
  generalize decL x.toNat = dx at *
  generalize decL y.toNat = dy at *
  generalize decL z.toNat = dz at *
  go_enter Tryd.func14, Tryd.ntmps14
  go_wp2_with fail
  go_quiet ((first
    | (go_at_call 19; with_reducible exact Calls.quiet_of_same ((H1.out _).mono fun _ _ ⟨he, hw⟩ => ⟨he, hw.symm⟩))
    | (go_at_call 19; with_reducible exact Calls.quiet_of_same ((H2.out _).mono fun _ _ ⟨he, hw⟩ => ⟨he, hw.symm⟩))
    | (go_at_call 19; with_reducible exact Calls.quiet_of_same ((H3.out _).mono fun _ _ ⟨he, hw⟩ => ⟨he, hw.symm⟩))))
  go_wp2_with fail
  go_ret
  have E : (ByteArray.mk dx.toArray) ++ ⟨#[46]⟩ ++ ⟨dy.toArray⟩ ++ ⟨#[46]⟩ ++ ⟨dz.toArray⟩ ++ ⟨#[46]⟩ ++ ⟨last.toArray⟩ = ⟨(dx ++ [46] ++ dy ++ [46] ++ dz ++ [46] ++ last).toArray⟩ := by
    simp only [← ba_append]
  exact ⟨congrArg (fun s => Ending.returned (Value.string s)) E, _, rfl⟩
end Go.Proofs.YtekmlhkoibgmlaaDoor
