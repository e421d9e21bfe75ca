/-
  The contract of byteorder.BEUint64.
-/
import Derived.Test.YtmfcgglgolajnaaDoorAs16
namespace Go.Proofs.YtmfcgglgolajnaaDoor
open Go.RowKit
set_option linter.unusedVariables false

theorem or_step {s a i p : Nat} (hp : p = 2 ^ i) (hs : s < p) (h : p * a + s < 18446744073709551616) : bits .or .u64 (s : Int) ((a : Int) * (p : Int)) = ((s + a * p : Nat) : Int) := by
  have h1 : p * a < 18446744073709551616 := by omega
  have h2 : s < 18446744073709551616 := by omega
  have e := or_u64 (x := s) (y := a * p) (by omega) (by rw [Nat.mul_comm]; omega)
  have h3 : s ||| a * p = s + a * p := by
    rw [Nat.or_comm, Nat.mul_comm a p]
    subst hp
    rw [or_add hs]; omega
  rw [h3] at e
  rw [← e]; push_cast; rfl
/-- The number of eight bytes, the first one first. -/
def num8 (x0 x1 x2 x3 x4 x5 x6 x7 : UInt8) : Nat := x7.toNat + x6.toNat * 256 + x5.toNat * 65536 + x4.toNat * 16777216 + x3.toNat * 4294967296 + x2.toNat * 1099511627776 + x1.toNat * 281474976710656 + x0.toNat * 72057594037927936
theorem num8_lt (x0 x1 x2 x3 x4 x5 x6 x7 : UInt8) : num8 x0 x1 x2 x3 x4 x5 x6 x7 < 18446744073709551616 := by
  have := x0.toNat_lt; have := x1.toNat_lt; have := x2.toNat_lt; have := x3.toNat_lt; have := x4.toNat_lt; have := x5.toNat_lt; have := x6.toNat_lt; have := x7.toNat_lt
  unfold num8; omega
theorem ofNat_of {x : UInt8} {n : Nat} (h : n = x.toNat) : UInt8.ofNat n = x := by rw [h, UInt8.ofNat_toNat]
theorem be8_num8 (x0 x1 x2 x3 x4 x5 x6 x7 : UInt8) : be8 (num8 x0 x1 x2 x3 x4 x5 x6 x7) = [x0, x1, x2, x3, x4, x5, x6, x7] := by
  have := x0.toNat_lt; have := x1.toNat_lt; have := x2.toNat_lt; have := x3.toNat_lt; have := x4.toNat_lt; have := x5.toNat_lt; have := x6.toNat_lt; have := x7.toNat_lt
  unfold be8 num8
  rw [ofNat_of (x := x0) (by omega), ofNat_of (x := x1) (by omega), ofNat_of (x := x2) (by omega), ofNat_of (x := x3) (by omega), ofNat_of (x := x4) (by omega), ofNat_of (x := x5) (by omega), ofNat_of (x := x6) (by omega), ofNat_of (x := x7) (by omega)]
theorem num8_bits (x0 x1 x2 x3 x4 x5 x6 x7 : UInt8) :
    bits .or .u64 (bits .or .u64 (bits .or .u64 (bits .or .u64 (bits .or .u64 (bits .or .u64 (bits .or .u64 (x7.toNat : Int) ((x6.toNat : Int) * 256)) ((x5.toNat : Int) * 65536)) ((x4.toNat : Int) * 16777216)) ((x3.toNat : Int) * 4294967296)) ((x2.toNat : Int) * 1099511627776)) ((x1.toNat : Int) * 281474976710656)) ((x0.toNat : Int) * 72057594037927936) = ((num8 x0 x1 x2 x3 x4 x5 x6 x7 : Nat) : Int) := by
  have h0 := x0.toNat_lt; have h1 := x1.toNat_lt; have h2 := x2.toNat_lt; have h3 := x3.toNat_lt; have h4 := x4.toNat_lt; have h5 := x5.toNat_lt; have h6 := x6.toNat_lt; have h7 := x7.toNat_lt
  have e1 := or_step (s := x7.toNat) (a := x6.toNat) (i := 8) (p := 256) (by decide) (by omega) (by omega)
  have e2 := or_step (s := x7.toNat + x6.toNat * 256) (a := x5.toNat) (i := 16) (p := 65536) (by decide) (by omega) (by omega)
  have e3 := or_step (s := x7.toNat + x6.toNat * 256 + x5.toNat * 65536) (a := x4.toNat) (i := 24) (p := 16777216) (by decide) (by omega) (by omega)
  have e4 := or_step (s := x7.toNat + x6.toNat * 256 + x5.toNat * 65536 + x4.toNat * 16777216) (a := x3.toNat) (i := 32) (p := 4294967296) (by decide) (by omega) (by omega)
  have e5 := or_step (s := x7.toNat + x6.toNat * 256 + x5.toNat * 65536 + x4.toNat * 16777216 + x3.toNat * 4294967296) (a := x2.toNat) (i := 40) (p := 1099511627776) (by decide) (by omega) (by omega)
  have e6 := or_step (s := x7.toNat + x6.toNat * 256 + x5.toNat * 65536 + x4.toNat * 16777216 + x3.toNat * 4294967296 + x2.toNat * 1099511627776) (a := x1.toNat) (i := 48) (p := 281474976710656) (by decide) (by omega) (by omega)
  have e7 := or_step (s := x7.toNat + x6.toNat * 256 + x5.toNat * 65536 + x4.toNat * 16777216 + x3.toNat * 4294967296 + x2.toNat * 1099511627776 + x1.toNat * 281474976710656) (a := x0.toNat) (i := 56) (p := 72057594037927936) (by decide) (by omega) (by omega)
  have f1 : bits .or .u64 (x7.toNat : Int) ((x6.toNat : Int) * 256) = _ := e1
  rw [f1]
  have f2 : bits .or .u64 ((x7.toNat + x6.toNat * 256 : Nat) : Int) ((x5.toNat : Int) * 65536) = _ := e2
  rw [f2]
  have f3 : bits .or .u64 ((x7.toNat + x6.toNat * 256 + x5.toNat * 65536 : Nat) : Int) ((x4.toNat : Int) * 16777216) = _ := e3
  rw [f3]
  have f4 : bits .or .u64 ((x7.toNat + x6.toNat * 256 + x5.toNat * 65536 + x4.toNat * 16777216 : Nat) : Int) ((x3.toNat : Int) * 4294967296) = _ := e4
  rw [f4]
  have f5 : bits .or .u64 ((x7.toNat + x6.toNat * 256 + x5.toNat * 65536 + x4.toNat * 16777216 + x3.toNat * 4294967296 : Nat) : Int) ((x2.toNat : Int) * 1099511627776) = _ := e5
  rw [f5]
  have f6 : bits .or .u64 ((x7.toNat + x6.toNat * 256 + x5.toNat * 65536 + x4.toNat * 16777216 + x3.toNat * 4294967296 + x2.toNat * 1099511627776 : Nat) : Int) ((x1.toNat : Int) * 281474976710656) = _ := e6
  rw [f6]
  exact e7

set_option maxRecDepth 100000 in
set_option maxHeartbeats 3200000 in
theorem beU64_any (g o c : Nat) (x0 x1 x2 x3 x4 x5 x6 x7 : UInt8) (w : World) (hc : 8 ≤ c)
    (c0 : w.cell? ⟨g, o, none⟩ = some (.int .u8 (x0.toNat : Int))) (c1 : w.cell? ⟨g, o + 1, none⟩ = some (.int .u8 (x1.toNat : Int))) (c2 : w.cell? ⟨g, o + 2, none⟩ = some (.int .u8 (x2.toNat : Int))) (c3 : w.cell? ⟨g, o + 3, none⟩ = some (.int .u8 (x3.toNat : Int))) (c4 : w.cell? ⟨g, o + 4, none⟩ = some (.int .u8 (x4.toNat : Int))) (c5 : w.cell? ⟨g, o + 5, none⟩ = some (.int .u8 (x5.toNat : Int))) (c6 : w.cell? ⟨g, o + 6, none⟩ = some (.int .u8 (x6.toNat : Int))) (c7 : w.cell? ⟨g, o + 7, none⟩ = some (.int .u8 (x7.toNat : Int))) :
    Calls Tryd.prog 76 #[.slice (some ⟨g, o, none⟩) 8 c] w fun e w' => e = .returned (.int .u64 (num8 x0 x1 x2 x3 x4 x5 x6 x7 : Int)) ∧ ∃ m, w' = w.drewN m := by
  have Hn := hide (num8_bits x0 x1 x2 x3 x4 x5 x6 x7)
  have h0 := lt_256 x0; have h1 := lt_256 x1; have h2 := lt_256 x2; have h3 := lt_256 x3; have h4 := lt_256 x4; have h5 := lt_256 x5; have h6 := lt_256 x6; have h7 := lt_256 x7
  go_enter Tryd.func76, Tryd.ntmps76
  go_wp2_with fail
  go_quiet (fail)
  go_wp2_with fail
  rw [Hn.out]
  go_ret
  exact ⟨rfl, _, rfl⟩
end Go.Proofs.YtmfcgglgolajnaaDoor
