/-
  Joined: Four, From, IPA, IPS, SEach, IPI.
-/
import Derived.Test.YtmfcgglgolajnaaDoorMB
import Derived.Test.YtmfcgglgolajnaaDoorMF
import Derived.Test.YtmfcgglgolajnaaDoorMC
import Derived.Test.YtmfcgglgolajnaaDoorMA
import Derived.Test.YtmfcgglgolajnaaDoorME
import Derived.Test.YtmfcgglgolajnaaDoorMD
/-
  The contracts of isZeros, isMapped and To4.
-/
namespace Go.Proofs.YtmfcgglgolajnaaDoor
open Go.RowKit

set_option maxHeartbeats 400000 in
theorem isZeros_any (A : Option Addr) (n c : Nat) (xs : List UInt8) (w : World) (av : Nat → Prop) (ha : RB w av A n c xs) :
    Calls Tryd.prog 55 #[.slice A n c] w fun e w' => e = .returned (.bool (zerosB xs)) ∧ w = w' := by
  have hn := ha.cap
  have hn2 := ha.max
  have Hl1 := hide ha.len
  unfold maxLen at hn2
  go_enter Tryd.func55, Tryd.ntmps55
  go_wp2
  go_loop [3] (fun i => ∃ k : Nat, k ≤ n ∧ i = .int .i64 k ∧ zerosB (xs.take k) = true) (fun i => n - (intOf i).toNat)
  case atStart => exact ⟨0, Nat.zero_le _, rfl, rfl⟩
  case round =>
    obtain ⟨k, hk, rfl, htk⟩ := hrel
    have Ht := hide htk
    clear htk
    by_cases hlt : k < n
    · obtain ⟨g, o, x, rfl, hx, hc⟩ := ha.at_ hlt
      have Hx := hide hx
      clear hx ha
      have i1 : (0 : Int) ≤ k := by omega
      have i2 : (k : Int) < n := by omega
      by_cases hx0 : x = 0
      · subst hx0
        go_wp2
        go_round
        case rel => exact ⟨k + 1, by omega, by go_num, zerosB_step Ht.out Hx.out rfl⟩
        case measure => simp [intOf]; omega
      · have hb2 : ((x.toNat : Int) != 0) = true := by
          rw [bne_iff_ne]; intro h; exact hx0 (UInt8.toNat_inj.1 (by simpa using h))
        have Hx0 := hide hx0
        clear hx0
        go_wp2
        go_ret
        exact ⟨ret_bool (zerosB_ne Hx.out Hx0.out).symm, rfl⟩
    · go_wp2
      go_ret
      exact ⟨ret_bool (zerosB_take Ht.out (by rw [Hl1.out]; omega)).symm, rfl⟩

set_option maxHeartbeats 400000 in
theorem to4_four (A : Option Addr) (c : Nat) (w : World) :
    Calls Tryd.prog 42 #[.slice A 4 c] w fun e w' => e = .returned (.slice A 4 c) ∧ w = w' := by
  go_enter Tryd.func42, Tryd.ntmps42
  go_wp2
  go_ret
  exact ⟨rfl, rfl⟩

set_option maxHeartbeats 400000 in
theorem to4_odd (A : Option Addr) (n c : Nat) (w : World) (h4 : n ≠ 4) (h16 : n ≠ 16) :
    Calls Tryd.prog 42 #[.slice A n c] w fun e w' => e = .returned (.slice none 0 0) ∧ w = w' := by
  have e4 : ((n : Int) == 4) = false := by simp; omega
  have e16 : ((n : Int) == 16) = false := by simp; omega
  go_enter Tryd.func42, Tryd.ntmps42
  go_wp2
  go_ret
  exact ⟨rfl, rfl⟩

set_option maxHeartbeats 800000 in
theorem to4_six (A : Option Addr) (c : Nat) (xs : List UInt8) (w : World) (av : Nat → Prop) (ha : RB w av A 16 c xs) (hm : mapd xs = false) :
    Calls Tryd.prog 42 #[.slice A 16 c] w fun e w' => e = .returned (.slice none 0 0) ∧ w = w' := by
  have hn := ha.cap
  have hn2 := ha.max
  unfold maxLen at hn2
  obtain ⟨g, o, x0, rfl, _, _⟩ := ha.at_ (k := 0) (by omega)
  obtain ⟨g', o', x10, hA, h10, hc10⟩ := ha.at_ (k := 10) (by omega)
  injection hA with hA; injection hA with e1 e2; subst e1 e2
  obtain ⟨g', o', x11, hA, h11, hc11⟩ := ha.at_ (k := 11) (by omega)
  injection hA with hA; injection hA with e1 e2; subst e1 e2
  have hz := ha.take (m := 10) (by omega)
  have Hz := hide hz
  clear hz
  cases hzz : zerosB (xs.take 10) with
  | false =>
    have Hzz := hide hzz
    clear hzz h10 h11 hm ha
    go_enter Tryd.func42, Tryd.ntmps42
    go_wp2_with fail
    refine (isZeros_any _ _ _ _ _ _ Hz.out).mono ?_
    rintro e w' ⟨rfl, rfl⟩
    rw [Hzz.out]
    go_wp2
    go_ret
    exact ⟨rfl, rfl⟩
  | true =>
    rw [mapd_of ha.len hzz h10 h11] at hm
    have Hzz := hide hzz
    clear hzz h10 h11 ha
    have e10 : ((x10.toNat : Int) == 255) = decide (x10 = 255) := byte_ff
    have e11 : ((x11.toNat : Int) == 255) = decide (x11 = 255) := byte_ff
    by_cases g10 : x10 = 255
    · rw [decide_eq_true g10] at e10 hm
      have g11 : decide (x11 = 255) = false := by simpa using hm
      rw [g11] at e11
      clear hm g10 g11
      go_enter Tryd.func42, Tryd.ntmps42
      go_wp2_with fail
      refine (isZeros_any _ _ _ _ _ _ Hz.out).mono ?_
      rintro e w' ⟨rfl, rfl⟩
      rw [Hzz.out]
      go_wp2
      go_ret
      exact ⟨rfl, rfl⟩
    · rw [decide_eq_false g10] at e10 hm
      clear hm g10 e11
      go_enter Tryd.func42, Tryd.ntmps42
      go_wp2_with fail
      refine (isZeros_any _ _ _ _ _ _ Hz.out).mono ?_
      rintro e w' ⟨rfl, rfl⟩
      rw [Hzz.out]
      go_wp2
      go_ret
      exact ⟨rfl, rfl⟩

set_option maxHeartbeats 800000 in
theorem to4_mapped (g o c : Nat) (xs : List UInt8) (w : World) (av : Nat → Prop) (ha : RB w av (some ⟨g, o, none⟩) 16 c xs) (hm : mapd xs = true) :
    Calls Tryd.prog 42 #[.slice (some ⟨g, o, none⟩) 16 c] w fun e w' => e = .returned (.slice (some ⟨g, o + 12, none⟩) 4 (c - 12)) ∧ w = w' := by
  have hn := ha.cap
  have hn2 := ha.max
  unfold maxLen at hn2
  obtain ⟨g', o', x10, hA, h10, hc10⟩ := ha.at_ (k := 10) (by omega)
  injection hA with hA; injection hA with e1 e2; subst e1 e2
  obtain ⟨g', o', x11, hA, h11, hc11⟩ := ha.at_ (k := 11) (by omega)
  injection hA with hA; injection hA with e1 e2; subst e1 e2
  have hz := ha.take (m := 10) (by omega)
  have Hz := hide hz
  clear hz
  cases hzz : zerosB (xs.take 10) with
  | false => rw [mapd_zeros hzz] at hm; cases hm
  | true =>
    rw [mapd_of ha.len hzz h10 h11] at hm
    have Hzz := hide hzz
    clear hzz h10 h11 ha
    have e10 : ((x10.toNat : Int) == 255) = true := by rw [byte_ff]; simp at hm; simp [hm]
    have e11 : ((x11.toNat : Int) == 255) = true := by rw [byte_ff]; simp at hm; simp [hm]
    clear hm
    go_enter Tryd.func42, Tryd.ntmps42
    go_wp2_with fail
    refine (isZeros_any _ _ _ _ _ _ Hz.out).mono ?_
    rintro e w' ⟨rfl, rfl⟩
    rw [Hzz.out]
    go_wp2
    go_ret
    exact ⟨rfl, rfl⟩
end Go.Proofs.YtmfcgglgolajnaaDoor
/-
  The contracts of Addr.Is4In6, AddrFromSlice, Addr.AppendTo. (Written by a program.)
-/
namespace Go.Proofs.YtmfcgglgolajnaaDoor
open Go.RowKit
set_option linter.unusedVariables false

set_option maxRecDepth 100000 in
set_option maxHeartbeats 800000 in
theorem is4in6_any (hi lo : Nat) (w : World) (g4 o4 g6 o6 : Nat) (hz : ZX w g4 o4 g6 o6) (hno : ¬ (hi = 0 ∧ lo / 4294967296 = 65535)) (hl : lo < 18446744073709551616) :
    Calls Tryd.prog 65 #[addrV hi lo (some ⟨g6, o6, none⟩)] w fun e w' => e = .returned (.bool false) ∧ Below w.heap.size w w' := by
  have H6 := hide (fun W hW => is6_any hi lo W g4 o4 g6 o6 (hz.below hW))
  have h1 : (lo : Int) < 18446744073709551616 := by omega
  have h2 : (0 : Int) ≤ (lo : Int) := by omega
  clear hz
  unfold addrV at *
  go_enter Tryd.func65, Tryd.ntmps65
  go_wp2_with fail
  generalize hW : w.alloc (.cells #[.int .u64 (hi : Int), .int .u64 (lo : Int), .pointer (some ⟨g6, o6, none⟩)] 89) = W1 at *
  have Hbw : Hid (Below w.heap.size w W1) := hide (by rw [← hW]; exact (Below.refl _ _).alloc (Nat.le_refl _) _)
  have hbk : Blk W1 w.heap.size 89 [.int .u64 (hi : Int), .int .u64 (lo : Int), .pointer (some ⟨g6, o6, none⟩)] := by rw [← hW]; exact Blk.new w _ _
  have Hbk := hide hbk
  have Hc := hide (H6.out W1 Hbw.out)
  clear hW hbk
  with_reducible refine Hc.out.mono ?_
  rintro e W2 ⟨rfl, hb2⟩
  have hbk2 := Hbk.out.below hb2
  have c0 : W2.cell? ⟨w.heap.size, 0, none⟩ = some (.int .u64 (hi : Int)) := hbk2.cell 0
  have c1 : W2.cell? ⟨w.heap.size, 1, none⟩ = some (.int .u64 (lo : Int)) := hbk2.cell 1
  have Hb2 := hide (Hbw.out.trans (hb2.mono Hbw.out.size))
  clear hb2 hbk2 Hc
  by_cases h0 : hi = 0
  · have k0 : ((hi : Int) == 0) = true := by rw [h0]; rfl
    have k1 : ((lo : Int) / 4294967296 == 65535) = false := by rw [beq_eq_false_iff_ne]; intro e; exact hno ⟨h0, by omega⟩
    clear h0 hno
    go_wp2_with fail
    go_ret
    exact ⟨rfl, Hb2.out⟩
  · have k0 : ((hi : Int) == 0) = false := by rw [beq_eq_false_iff_ne]; omega
    clear h0 hno
    go_wp2_with fail
    go_ret
    exact ⟨rfl, Hb2.out⟩

theorem run_arr4 (g o c : Nat) (w : World) : (Instr.arrayAt 100 (.slice (some ⟨g, o, none⟩) 4 c)).run Tryd.prog w = .ok (.pointer (some ⟨g, o, none⟩)) w := by kernel_rfl
theorem run_arr16 (g o c : Nat) (w : World) : (Instr.arrayAt 71 (.slice (some ⟨g, o, none⟩) 16 c)).run Tryd.prog w = .ok (.pointer (some ⟨g, o, none⟩)) w := by kernel_rfl
theorem map6 (x0 x1 x2 x3 x4 x5 x6 x7 x8 x9 x10 x11 x12 x13 x14 x15 : UInt8) (h : mapd [x0, x1, x2, x3, x4, x5, x6, x7, x8, x9, x10, x11, x12, x13, x14, x15] = false) : ¬ (hi6 [x0, x1, x2, x3, x4, x5, x6, x7, x8, x9, x10, x11, x12, x13, x14, x15] = 0 ∧ lo6 [x0, x1, x2, x3, x4, x5, x6, x7, x8, x9, x10, x11, x12, x13, x14, x15] / 4294967296 = 65535) := by
  rintro ⟨h1, h2⟩
  have l0 := x0.toNat_lt
  have l1 := x1.toNat_lt
  have l2 := x2.toNat_lt
  have l3 := x3.toNat_lt
  have l4 := x4.toNat_lt
  have l5 := x5.toNat_lt
  have l6 := x6.toNat_lt
  have l7 := x7.toNat_lt
  have l8 := x8.toNat_lt
  have l9 := x9.toNat_lt
  have l10 := x10.toNat_lt
  have l11 := x11.toNat_lt
  have l12 := x12.toNat_lt
  have l13 := x13.toNat_lt
  have l14 := x14.toNat_lt
  have l15 := x15.toNat_lt
  have e1 : num8 x0 x1 x2 x3 x4 x5 x6 x7 = 0 := h1
  have e2 : num8 x8 x9 x10 x11 x12 x13 x14 x15 / 4294967296 = 65535 := h2
  unfold num8 at e1 e2
  have z : ∀ (x : UInt8), x.toNat = 0 → x = 0 := fun x h => UInt8.toNat_inj.1 (by simpa using h)
  have f : ∀ (x : UInt8), x.toNat = 255 → x = 255 := fun x h => UInt8.toNat_inj.1 (by simpa using h)
  have n0 : x0 = 0 := z x0 (by omega)
  have n1 : x1 = 0 := z x1 (by omega)
  have n2 : x2 = 0 := z x2 (by omega)
  have n3 : x3 = 0 := z x3 (by omega)
  have n4 : x4 = 0 := z x4 (by omega)
  have n5 : x5 = 0 := z x5 (by omega)
  have n6 : x6 = 0 := z x6 (by omega)
  have n7 : x7 = 0 := z x7 (by omega)
  have n8 : x8 = 0 := z x8 (by omega)
  have n9 : x9 = 0 := z x9 (by omega)
  have n10 : x10 = 255 := f x10 (by omega)
  have n11 : x11 = 255 := f x11 (by omega)
  clear l0 l1 l2 l3 l4 l5 l6 l7 l8 l9 l10 l11 l12 l13 l14 l15 e1 e2 h1 h2 z f
  subst n0 n1 n2 n3 n4 n5 n6 n7 n8 n9 n10 n11
  revert h
  unfold mapd
  simp [zerosB]

set_option maxRecDepth 100000 in
set_option maxHeartbeats 1600000 in
theorem fromSlice4_any (g o c : Nat) (x0 x1 x2 x3 : UInt8) (w : World) (g4 o4 g6 o6 : Nat) (hz : ZX w g4 o4 g6 o6) (c0 : w.cell? ⟨g, o, none⟩ = some (.int .u8 (x0.toNat : Int))) (c1 : w.cell? ⟨g, o + 1, none⟩ = some (.int .u8 (x1.toNat : Int))) (c2 : w.cell? ⟨g, o + 2, none⟩ = some (.int .u8 (x2.toNat : Int))) (c3 : w.cell? ⟨g, o + 3, none⟩ = some (.int .u8 (x3.toNat : Int))) :
    Calls Tryd.prog 56 #[.slice (some ⟨g, o, none⟩) 4 c] w fun e w' => e = .returned (.tuple #[addrV 0 (lo4 x0 x1 x2 x3) (some ⟨g4, o4, none⟩), .bool true]) ∧ Below w.heap.size w w' := by
  have Hf := hide (fun W hW => addrFrom4_any x0 x1 x2 x3 W (some ⟨g4, o4, none⟩) (hz.below hW).z.z4)
  have Hcl : Hid (∀ W, Below w.heap.size w W → W.cell? ⟨g, o, none⟩ = some (.int .u8 (x0.toNat : Int)) ∧ W.cell? ⟨g, o + 1, none⟩ = some (.int .u8 (x1.toNat : Int)) ∧ W.cell? ⟨g, o + 2, none⟩ = some (.int .u8 (x2.toNat : Int)) ∧ W.cell? ⟨g, o + 3, none⟩ = some (.int .u8 (x3.toNat : Int))) := hide (fun W hW => ⟨cell_below c0 hW, cell_below c1 hW, cell_below c2 hW, cell_below c3 hW⟩)
  have ra := run_arr4 g o c
  clear hz c0 c1 c2 c3
  go_enter Tryd.func56, Tryd.ntmps56
  go_upto_region 1 with fail
  generalize hW : w.alloc (.cells #[.int .u64 0, .int .u64 0, .pointer none] 89) = W1 at *
  have Hbw : Hid (Below w.heap.size w W1) := hide (by rw [← hW]; exact (Below.refl _ _).alloc (Nat.le_refl _) _)
  have hbk : Blk W1 w.heap.size 89 [.int .u64 0, .int .u64 0, .pointer none] := by rw [← hW]; exact Blk.new w _ _
  have Hbk := hide hbk
  obtain ⟨c0, c1, c2, c3⟩ := Hcl.out W1 Hbw.out
  have Hc := hide (Hf.out W1 Hbw.out)
  clear hW hbk
  go_wp2_with fail
  with_reducible refine Hc.out.mono ?_
  rintro e W2 ⟨rfl, hb2⟩
  have hk := Hbk.out.below hb2
  have e0 : W2.cell? ⟨w.heap.size, 0, none⟩ = some (.int .u64 0) := hk.cell 0
  have e1 : W2.cell? ⟨w.heap.size, 1, none⟩ = some (.int .u64 0) := hk.cell 1
  have e2 : W2.cell? ⟨w.heap.size, 2, none⟩ = some (.pointer none) := hk.cell 2
  have fz : ∀ i, W2.frozen? ⟨w.heap.size, i, none⟩ = false := fun i => hk.frozen i
  have Hb2 := hide (Hbw.out.trans (hb2.mono Hbw.out.size))
  clear hb2 hk Hc c0 c1 c2 c3
  unfold addrV
  go_wp2_with fail
  refine bodyPost_ret (v := .tuple #[addrV 0 (lo4 x0 x1 x2 x3) (some ⟨g4, o4, none⟩), .bool true]) (by simp [results, Tryd.results56, addrV, go_sem, *]) rfl ?_
  refine ⟨rfl, ?_⟩
  iterate 3 refine Below.setCell ?_ (by simp) _
  exact Hb2.out

set_option maxRecDepth 100000 in
set_option maxHeartbeats 1600000 in
theorem fromSlice16_any (g o c : Nat) (x0 x1 x2 x3 x4 x5 x6 x7 x8 x9 x10 x11 x12 x13 x14 x15 : UInt8) (w : World) (g4 o4 g6 o6 : Nat) (hz : ZX w g4 o4 g6 o6) (c0 : w.cell? ⟨g, o, none⟩ = some (.int .u8 (x0.toNat : Int))) (c1 : w.cell? ⟨g, o + 1, none⟩ = some (.int .u8 (x1.toNat : Int))) (c2 : w.cell? ⟨g, o + 2, none⟩ = some (.int .u8 (x2.toNat : Int))) (c3 : w.cell? ⟨g, o + 3, none⟩ = some (.int .u8 (x3.toNat : Int))) (c4 : w.cell? ⟨g, o + 4, none⟩ = some (.int .u8 (x4.toNat : Int))) (c5 : w.cell? ⟨g, o + 5, none⟩ = some (.int .u8 (x5.toNat : Int))) (c6 : w.cell? ⟨g, o + 6, none⟩ = some (.int .u8 (x6.toNat : Int))) (c7 : w.cell? ⟨g, o + 7, none⟩ = some (.int .u8 (x7.toNat : Int))) (c8 : w.cell? ⟨g, o + 8, none⟩ = some (.int .u8 (x8.toNat : Int))) (c9 : w.cell? ⟨g, o + 9, none⟩ = some (.int .u8 (x9.toNat : Int))) (c10 : w.cell? ⟨g, o + 10, none⟩ = some (.int .u8 (x10.toNat : Int))) (c11 : w.cell? ⟨g, o + 11, none⟩ = some (.int .u8 (x11.toNat : Int))) (c12 : w.cell? ⟨g, o + 12, none⟩ = some (.int .u8 (x12.toNat : Int))) (c13 : w.cell? ⟨g, o + 13, none⟩ = some (.int .u8 (x13.toNat : Int))) (c14 : w.cell? ⟨g, o + 14, none⟩ = some (.int .u8 (x14.toNat : Int))) (c15 : w.cell? ⟨g, o + 15, none⟩ = some (.int .u8 (x15.toNat : Int))) :
    Calls Tryd.prog 56 #[.slice (some ⟨g, o, none⟩) 16 c] w fun e w' => e = .returned (.tuple #[addrV (num8 x0 x1 x2 x3 x4 x5 x6 x7) (num8 x8 x9 x10 x11 x12 x13 x14 x15) (some ⟨g6, o6, none⟩), .bool true]) ∧ Below w.heap.size w w' := by
  have Hf := hide (fun W hW => addrFrom16_any x0 x1 x2 x3 x4 x5 x6 x7 x8 x9 x10 x11 x12 x13 x14 x15 W g4 o4 g6 o6 (hz.below hW))
  have Hcl : Hid (∀ W, Below w.heap.size w W → W.cell? ⟨g, o, none⟩ = some (.int .u8 (x0.toNat : Int)) ∧ W.cell? ⟨g, o + 1, none⟩ = some (.int .u8 (x1.toNat : Int)) ∧ W.cell? ⟨g, o + 2, none⟩ = some (.int .u8 (x2.toNat : Int)) ∧ W.cell? ⟨g, o + 3, none⟩ = some (.int .u8 (x3.toNat : Int)) ∧ W.cell? ⟨g, o + 4, none⟩ = some (.int .u8 (x4.toNat : Int)) ∧ W.cell? ⟨g, o + 5, none⟩ = some (.int .u8 (x5.toNat : Int)) ∧ W.cell? ⟨g, o + 6, none⟩ = some (.int .u8 (x6.toNat : Int)) ∧ W.cell? ⟨g, o + 7, none⟩ = some (.int .u8 (x7.toNat : Int)) ∧ W.cell? ⟨g, o + 8, none⟩ = some (.int .u8 (x8.toNat : Int)) ∧ W.cell? ⟨g, o + 9, none⟩ = some (.int .u8 (x9.toNat : Int)) ∧ W.cell? ⟨g, o + 10, none⟩ = some (.int .u8 (x10.toNat : Int)) ∧ W.cell? ⟨g, o + 11, none⟩ = some (.int .u8 (x11.toNat : Int)) ∧ W.cell? ⟨g, o + 12, none⟩ = some (.int .u8 (x12.toNat : Int)) ∧ W.cell? ⟨g, o + 13, none⟩ = some (.int .u8 (x13.toNat : Int)) ∧ W.cell? ⟨g, o + 14, none⟩ = some (.int .u8 (x14.toNat : Int)) ∧ W.cell? ⟨g, o + 15, none⟩ = some (.int .u8 (x15.toNat : Int))) := hide (fun W hW => ⟨cell_below c0 hW, cell_below c1 hW, cell_below c2 hW, cell_below c3 hW, cell_below c4 hW, cell_below c5 hW, cell_below c6 hW, cell_below c7 hW, cell_below c8 hW, cell_below c9 hW, cell_below c10 hW, cell_below c11 hW, cell_below c12 hW, cell_below c13 hW, cell_below c14 hW, cell_below c15 hW⟩)
  have ra := run_arr16 g o c
  clear hz c0 c1 c2 c3 c4 c5 c6 c7 c8 c9 c10 c11 c12 c13 c14 c15
  go_enter Tryd.func56, Tryd.ntmps56
  go_upto_region 1 with fail
  generalize hW : w.alloc (.cells #[.int .u64 0, .int .u64 0, .pointer none] 89) = W1 at *
  have Hbw : Hid (Below w.heap.size w W1) := hide (by rw [← hW]; exact (Below.refl _ _).alloc (Nat.le_refl _) _)
  have hbk : Blk W1 w.heap.size 89 [.int .u64 0, .int .u64 0, .pointer none] := by rw [← hW]; exact Blk.new w _ _
  have Hbk := hide hbk
  obtain ⟨c0, c1, c2, c3, c4, c5, c6, c7, c8, c9, c10, c11, c12, c13, c14, c15⟩ := Hcl.out W1 Hbw.out
  have Hc := hide (Hf.out W1 Hbw.out)
  unfold by16 addrV at Hc
  simp only [List.map] at Hc
  clear hW hbk
  go_wp2_with fail
  with_reducible refine Hc.out.mono ?_
  rintro e W2 ⟨rfl, hb2⟩
  have hk := Hbk.out.below hb2
  have e0 : W2.cell? ⟨w.heap.size, 0, none⟩ = some (.int .u64 0) := hk.cell 0
  have e1 : W2.cell? ⟨w.heap.size, 1, none⟩ = some (.int .u64 0) := hk.cell 1
  have e2 : W2.cell? ⟨w.heap.size, 2, none⟩ = some (.pointer none) := hk.cell 2
  have fz : ∀ i, W2.frozen? ⟨w.heap.size, i, none⟩ = false := fun i => hk.frozen i
  have Hb2 := hide (Hbw.out.trans (hb2.mono Hbw.out.size))
  clear hb2 hk Hc c0 c1 c2 c3 c4 c5 c6 c7 c8 c9 c10 c11 c12 c13 c14 c15
  go_wp2_with fail
  refine bodyPost_ret (v := .tuple #[addrV (num8 x0 x1 x2 x3 x4 x5 x6 x7) (num8 x8 x9 x10 x11 x12 x13 x14 x15) (some ⟨g6, o6, none⟩), .bool true]) (by simp [results, Tryd.results56, addrV, go_sem, *]) rfl ?_
  refine ⟨rfl, ?_⟩
  iterate 3 refine Below.setCell ?_ (by simp) _
  exact Hb2.out
end Go.Proofs.YtmfcgglgolajnaaDoor
/-
  The contracts of Addr.AppendTo, IP.appendTo and IP.String at addresses of 4 or 16 bytes.
-/
namespace Go.Proofs.YtmfcgglgolajnaaDoor
open Go.RowKit
set_option linter.unusedVariables false

theorem AppR.pre {base : Nat} {v : Value} {w w0 w' : World} {bs : List UInt8} {e : Ending} (hb : Below w.heap.size w w0) (h : AppR base v w0 bs e w') : AppR base v w bs e w' := by
  obtain ⟨v', rfl, h1, h2, h3⟩ := h
  refine ⟨v', rfl, h1, (Grew.of_below hb).trans (Moved.refl v w) h2, fun g hg => ?_⟩
  rcases h3 g hg with h | h
  · exact Or.inl h
  · exact Or.inr (Nat.le_trans hb.size h)

set_option maxRecDepth 100000 in
set_option maxHeartbeats 1600000 in
theorem appTo4_any (base : Nat) (a b c d : UInt8) (L0 : List UInt8) (v : Value) (w : World) (g4 o4 g6 o6 : Nat) (hz : ZX w g4 o4 g6 o6) (ho : Own base L0 v w) (hb : base ≤ w.heap.size) (hl0 : L0.length ≤ 500) :
    Calls Tryd.prog 57 #[addrV 0 (lo4 a b c d) (some ⟨g4, o4, none⟩), v] w (AppR base v w (L0 ++ dotsL [a, b, c, d])) := by
  have q0 := run_eq_nil g4 o4
  have q4 := run_same g4 o4
  have k0 := fun ob => (hz.alloc ob).z.z0
  have k4 := fun ob => (hz.alloc ob).z.z4
  have Hc := hide (fun ob => to4a_any base a b c d (some ⟨g4, o4, none⟩) L0 v (w.alloc ob) (ho.alloc ob) (Nat.le_trans hb (by simp)) (by omega))
  have hB : Hid (∀ o1, Below w.heap.size w (w.alloc o1)) := hide (fun o1 => (Below.refl _ _).alloc (Nat.le_refl _) _)
  generalize lo4 a b c d = lo at *
  clear hz ho
  unfold addrV at *
  rw [show ((0 : Nat) : Int) = (0 : Int) from rfl] at *
  go_enter Tryd.func57, Tryd.ntmps57
  go_wp2_with fail
  refine (Hc.out _).mono ?_
  intro e w1 h1
  have h2 := AppR.pre (hB.out _) h1
  obtain ⟨v', rfl, y1, y2, y3⟩ := h2
  have Hy := hide (⟨y1, y2, y3⟩ : _ ∧ _ ∧ _)
  clear h1 y1 y2 y3 Hc
  go_wp2_with fail
  go_ret
  exact ⟨v', rfl, Hy.out.1, Hy.out.2.1, Hy.out.2.2⟩

set_option maxRecDepth 100000 in
set_option maxHeartbeats 1600000 in
theorem appTo6_any (base : Nat) (bs : List UInt8) (L0 : List UInt8) (v : Value) (w : World) (g4 o4 g6 o6 : Nat) (hz : ZX w g4 o4 g6 o6) (hb6 : 4 < base) (ho : Own base L0 v w) (hb : base ≤ w.heap.size) (hl0 : L0.length ≤ 500) (hno : ¬ (hi6 bs = 0 ∧ lo6 bs / 4294967296 = 65535)) :
    Calls Tryd.prog 57 #[addrV (hi6 bs) (lo6 bs) (some ⟨g6, o6, none⟩), v] w (AppR base v w (L0 ++ txt6 (grpN bs))) := by
  have q0 := run_eq_nil g6 o6
  have q4 := fun ob => (hz.alloc ob).eq46
  have k0 := fun ob => (hz.alloc ob).z.z0
  have k4 := fun ob => (hz.alloc ob).z.z4
  have Hi := hide (fun W hW => is4in6_any (hi6 bs) (lo6 bs) W g4 o4 g6 o6 (hz.below hW) hno (num8_lt ..))
  have Hc := hide (fun W (hW : Below w.heap.size w W) => to6a_any base bs L0 v W g4 o4 g6 o6 (hz.below hW) hb6 (ho.below hW) (Nat.le_trans hb hW.size) hl0)
  have hB : Hid (∀ o1, Below w.heap.size w (w.alloc o1)) := hide (fun o1 => (Below.refl _ _).alloc (Nat.le_refl _) _)
  generalize hi6 bs = hh at *
  generalize lo6 bs = ll at *
  generalize txt6 (grpN bs) = tx at *
  clear hz ho
  unfold addrV at *
  go_enter Tryd.func57, Tryd.ntmps57
  go_wp2_with fail
  refine (Hi.out _ (hB.out _)).mono ?_
  rintro e w1 ⟨rfl, hb1⟩
  have hbw1 := (hB.out _).trans (hb1.mono (hB.out _).size)
  have hbk := (Blk.new w 89 [.int .u64 (hh : Int), .int .u64 (ll : Int), .pointer (some ⟨g6, o6, none⟩)]).below hb1
  have c0 : w1.cell? ⟨w.heap.size, 0, none⟩ = some (.int .u64 (hh : Int)) := hbk.cell 0
  have c1 : w1.cell? ⟨w.heap.size, 1, none⟩ = some (.int .u64 (ll : Int)) := hbk.cell 1
  have c2 : w1.cell? ⟨w.heap.size, 2, none⟩ = some (.pointer (some ⟨g6, o6, none⟩)) := hbk.cell 2
  have Hbw1 := hide hbw1
  have Hc1 := hide (Hc.out w1 hbw1)
  clear hb1 hbw1 hbk Hi Hc q4 k0 k4
  go_wp2_with fail
  with_reducible refine Hc1.out.mono ?_
  intro e w2 h1
  have h2 := AppR.pre Hbw1.out h1
  obtain ⟨v', rfl, y1, y2, y3⟩ := h2
  have Hy := hide (⟨y1, y2, y3⟩ : _ ∧ _ ∧ _)
  clear h1 y1 y2 y3 Hc1
  go_wp2_with fail
  go_ret
  exact ⟨v', rfl, Hy.out.1, Hy.out.2.1, Hy.out.2.2⟩

/-- The text of an address of 4 or 16 bytes. -/
def ipText (b : List UInt8) : List UInt8 := if b.length = 4 then dotsL b else if mapd b = true then dotsL (b.drop 12) else txt6 (grpN b)

/-- A cell of a slice of bytes. -/
theorem RB.cell_at {w : World} {av : Nat → Prop} {g o n c k : Nat} {bs : List UInt8} {x : UInt8} (h : RB w av (some ⟨g, o, none⟩) n c bs) (hk : bs[k]? = some x) : w.cell? ⟨g, o + k, none⟩ = some (.int .u8 (x.toNat : Int)) := by
  have hlt : k < n := by have := (List.getElem?_eq_some_iff.1 hk).1; rw [h.len] at this; exact this
  obtain ⟨q, p, u, e, f, l⟩ := h.at_ hlt
  injection e with e
  injection e with e e'
  subst e e'
  rw [hk] at f
  injection f with f
  subst f
  exact l

set_option maxRecDepth 100000 in
set_option maxHeartbeats 1600000 in
theorem ipApp4_any (base g o c : Nat) (x0 x1 x2 x3 : UInt8) (L0 : List UInt8) (v : Value) (w : World) (g4 o4 g6 o6 : Nat) (hz : ZX w g4 o4 g6 o6) (ho : Own base L0 v w) (hb : base ≤ w.heap.size) (hl0 : L0.length ≤ 500) (ip : Value)
    (hto : Calls Tryd.prog 42 #[ip] w fun e w' => e = .returned (.slice (some ⟨g, o, none⟩) 4 c) ∧ w = w') (hcap : 4 ≤ c)
    (c0 : w.cell? ⟨g, o, none⟩ = some (.int .u8 (x0.toNat : Int))) (c1 : w.cell? ⟨g, o + 1, none⟩ = some (.int .u8 (x1.toNat : Int))) (c2 : w.cell? ⟨g, o + 2, none⟩ = some (.int .u8 (x2.toNat : Int))) (c3 : w.cell? ⟨g, o + 3, none⟩ = some (.int .u8 (x3.toNat : Int))) :
    Calls Tryd.prog 46 #[ip, v] w (AppR base v w (L0 ++ dotsL [x0, x1, x2, x3])) := by
  have Ht := hide hto
  have Hf := hide (fromSlice4_any g o c x0 x1 x2 x3 w g4 o4 g6 o6 hz c0 c1 c2 c3)
  have Ha := hide (fun W (hW : Below w.heap.size w W) => appTo4_any base x0 x1 x2 x3 L0 v W g4 o4 g6 o6 (hz.below hW) (ho.below hW) (Nat.le_trans hb hW.size) hl0)
  generalize lo4 x0 x1 x2 x3 = lo at *
  generalize L0 ++ dotsL [x0, x1, x2, x3] = tx at *
  clear hto hz ho c0 c1 c2 c3
  unfold addrV at *
  go_enter Tryd.func46, Tryd.ntmps46
  go_wp2_with fail
  with_reducible refine Ht.out.mono ?_
  rintro e w' ⟨rfl, rfl⟩
  go_wp2_with fail
  with_reducible refine Hf.out.mono ?_
  rintro e w1 ⟨rfl, hb1⟩
  have Hal : Hid (∀ ob, Below w.heap.size w (w1.alloc ob)) := hide (fun ob => hb1.alloc hb1.size ob)
  have Hc := hide (fun ob => Ha.out (w1.alloc ob) (Hal.out ob))
  clear hb1 Hf Ha Ht
  go_wp2_with fail
  refine (Hc.out _).mono ?_
  intro e w2 h1
  have h2 := AppR.pre (Hal.out _) h1
  obtain ⟨v', rfl, y1, y2, y3⟩ := h2
  have Hy := hide (⟨y1, y2, y3⟩ : _ ∧ _ ∧ _)
  clear h1 y1 y2 y3 Hc
  go_wp2_with fail
  go_ret
  exact ⟨v', rfl, Hy.out.1, Hy.out.2.1, Hy.out.2.2⟩

set_option maxRecDepth 100000 in
set_option maxHeartbeats 1600000 in
theorem ipApp6_any (base g o c : Nat) (x0 x1 x2 x3 x4 x5 x6 x7 x8 x9 x10 x11 x12 x13 x14 x15 : UInt8) (L0 : List UInt8) (v : Value) (w : World) (av : Nat → Prop) (g4 o4 g6 o6 : Nat) (hz : ZX w g4 o4 g6 o6) (hb6 : 4 < base) (ho : Own base L0 v w) (hb : base ≤ w.heap.size) (hl0 : L0.length ≤ 500)
    (ha : RB w av (some ⟨g, o, none⟩) 16 c [x0, x1, x2, x3, x4, x5, x6, x7, x8, x9, x10, x11, x12, x13, x14, x15]) (hm : mapd [x0, x1, x2, x3, x4, x5, x6, x7, x8, x9, x10, x11, x12, x13, x14, x15] = false) :
    Calls Tryd.prog 46 #[.slice (some ⟨g, o, none⟩) 16 c, v] w (AppR base v w (L0 ++ txt6 (grpN [x0, x1, x2, x3, x4, x5, x6, x7, x8, x9, x10, x11, x12, x13, x14, x15]))) := by
  have Ht := hide (to4_six (some ⟨g, o, none⟩) c _ w av ha hm)
  have Hf := hide (fromSlice16_any g o c x0 x1 x2 x3 x4 x5 x6 x7 x8 x9 x10 x11 x12 x13 x14 x15 w g4 o4 g6 o6 hz (ha.cell_at (k := 0) rfl) (ha.cell_at (k := 1) rfl) (ha.cell_at (k := 2) rfl) (ha.cell_at (k := 3) rfl) (ha.cell_at (k := 4) rfl) (ha.cell_at (k := 5) rfl) (ha.cell_at (k := 6) rfl) (ha.cell_at (k := 7) rfl) (ha.cell_at (k := 8) rfl) (ha.cell_at (k := 9) rfl) (ha.cell_at (k := 10) rfl) (ha.cell_at (k := 11) rfl) (ha.cell_at (k := 12) rfl) (ha.cell_at (k := 13) rfl) (ha.cell_at (k := 14) rfl) (ha.cell_at (k := 15) rfl))
  have Ha := hide (fun W (hW : Below w.heap.size w W) => appTo6_any base [x0, x1, x2, x3, x4, x5, x6, x7, x8, x9, x10, x11, x12, x13, x14, x15] L0 v W g4 o4 g6 o6 (hz.below hW) hb6 (ho.below hW) (Nat.le_trans hb hW.size) hl0 (map6 x0 x1 x2 x3 x4 x5 x6 x7 x8 x9 x10 x11 x12 x13 x14 x15 hm))
  rw [show hi6 [x0, x1, x2, x3, x4, x5, x6, x7, x8, x9, x10, x11, x12, x13, x14, x15] = num8 x0 x1 x2 x3 x4 x5 x6 x7 from rfl, show lo6 [x0, x1, x2, x3, x4, x5, x6, x7, x8, x9, x10, x11, x12, x13, x14, x15] = num8 x8 x9 x10 x11 x12 x13 x14 x15 from rfl] at Ha
  generalize num8 x0 x1 x2 x3 x4 x5 x6 x7 = hh at *
  generalize num8 x8 x9 x10 x11 x12 x13 x14 x15 = ll at *
  generalize L0 ++ txt6 (grpN [x0, x1, x2, x3, x4, x5, x6, x7, x8, x9, x10, x11, x12, x13, x14, x15]) = tx at *
  clear hz ho ha hm
  unfold addrV at *
  go_enter Tryd.func46, Tryd.ntmps46
  go_wp2_with fail
  with_reducible refine Ht.out.mono ?_
  rintro e w' ⟨rfl, rfl⟩
  go_wp2_with fail
  with_reducible refine Hf.out.mono ?_
  rintro e w1 ⟨rfl, hb1⟩
  have Hal : Hid (∀ ob, Below w.heap.size w (w1.alloc ob)) := hide (fun ob => hb1.alloc hb1.size ob)
  have Hc := hide (fun ob => Ha.out (w1.alloc ob) (Hal.out ob))
  clear hb1 Hf Ha Ht
  go_wp2_with fail
  refine (Hc.out _).mono ?_
  intro e w2 h1
  have h2 := AppR.pre (Hal.out _) h1
  obtain ⟨v', rfl, y1, y2, y3⟩ := h2
  have Hy := hide (⟨y1, y2, y3⟩ : _ ∧ _ ∧ _)
  clear h1 y1 y2 y3 Hc
  go_wp2_with fail
  go_ret
  exact ⟨v', rfl, Hy.out.1, Hy.out.2.1, Hy.out.2.2⟩
end Go.Proofs.YtmfcgglgolajnaaDoor
/-
  The contract of IP.String at addresses of 4 or 16 bytes.
-/
namespace Go.Proofs.YtmfcgglgolajnaaDoor
open Go.RowKit
set_option linter.unusedVariables false

theorem own_made (w : World) (cs : Array Value) (n : Nat) (hn : n ≤ 100) (hs : cs.size = n) : Own w.heap.size [] (.slice (some ⟨w.heap.size, 0, none⟩) 0 n) (w.alloc (.cells cs 5)) :=
  World.ownsRow_made (base := w.heap.size) (e := 5) (size := 1) w cs n (Nat.le_refl _) (by unfold maxLen; omega) (by omega)
/-- A row of the call's own as a slice that reads as its bytes. -/
theorem Own.rb {base : Nat} {bs : List UInt8} {v : Value} {w : World} (h : Own base bs v w) : ∃ A c, v = .slice A bs.length c ∧ RB w no A bs.length c bs := RB.of_own h

theorem mk4 (w : World) : (Instr.makeSlice 22 (.int .i64 0) (.int .i64 15)).run Tryd.prog w = .ok (.slice (some ⟨w.heap.size, 0, none⟩) 0 15) (w.alloc (.cells (List.replicate 15 (.int .u8 0)).toArray 5)) := by kernel_rfl
theorem mk16 (w : World) : (Instr.makeSlice 22 (.int .i64 0) (.int .i64 39)).run Tryd.prog w = .ok (.slice (some ⟨w.heap.size, 0, none⟩) 0 39) (w.alloc (.cells (List.replicate 39 (.int .u8 0)).toArray 5)) := by kernel_rfl

set_option maxRecDepth 100000 in
set_option maxHeartbeats 1600000 in
theorem ipString_of (A : Option Addr) (n c : Nat) (tx : List UInt8) (w : World) (hn : n = 4 ∨ n = 16) (hl : tx.length ≤ 600)
    (hc : ∀ (W : World) (k : Nat), Below w.heap.size w W → Own w.heap.size [] (.slice (some ⟨w.heap.size, 0, none⟩) 0 k) W → Calls Tryd.prog 46 #[.slice A n c, .slice (some ⟨w.heap.size, 0, none⟩) 0 k] W (AppR w.heap.size (.slice (some ⟨w.heap.size, 0, none⟩) 0 k) W tx)) :
    Calls Tryd.prog 36 #[.slice A n c] w fun e w' => e = .returned (.string ⟨tx.toArray⟩) ∧ Below w.heap.size w w' := by
  have Hc := hide hc
  have hB : Hid (∀ ob, Below w.heap.size w (w.alloc ob)) := hide (fun ob => (Below.refl _ _).alloc (Nat.le_refl _) _)
  have m4 := mk4
  have m16 := mk16
  have o4 := own_made w (List.replicate 15 (.int .u8 0)).toArray 15 (by omega) (by simp)
  have o16 := own_made w (List.replicate 39 (.int .u8 0)).toArray 39 (by omega) (by simp)
  clear hc
  rcases hn with rfl | rfl
  · have H4 := hide (Hc.out _ 15 (hB.out _) o4)
    have Hob := hide o4
    clear o4 o16 Hc
    generalize (List.replicate 15 (Value.int .u8 0)).toArray = cs at *
    go_enter Tryd.func36, Tryd.ntmps36
    go_wp2_with fail
    with_reducible refine H4.out.mono ?_
    rintro e w1 ⟨v', rfl, y1, y2, y3⟩
    have hbel : Below w.heap.size w w1 := (hB.out _).trans (y2.below Hob.out (by simp))
    obtain ⟨A1, c1, rfl, hr⟩ := y1.rb
    have hrun := run_string_rb (P := Tryd.prog) 22 9 5 Tryd.underlying22 Tryd.underlying5 Tryd.underlying9 hr
    have Hbel := hide hbel
    clear y1 y2 y3 hbel hr H4 Hob
    go_wp2_with fail
    go_ret
    exact ⟨rfl, Hbel.out⟩
  · have H4 := hide (Hc.out _ 39 (hB.out _) o16)
    have Hob := hide o16
    clear o4 o16 Hc
    generalize (List.replicate 39 (Value.int .u8 0)).toArray = cs at *
    go_enter Tryd.func36, Tryd.ntmps36
    go_wp2_with fail
    with_reducible refine H4.out.mono ?_
    rintro e w1 ⟨v', rfl, y1, y2, y3⟩
    have hbel : Below w.heap.size w w1 := (hB.out _).trans (y2.below Hob.out (by simp))
    obtain ⟨A1, c1, rfl, hr⟩ := y1.rb
    have hrun := run_string_rb (P := Tryd.prog) 22 9 5 Tryd.underlying22 Tryd.underlying5 Tryd.underlying9 hr
    have Hbel := hide hbel
    clear y1 y2 y3 hbel hr H4 Hob
    go_wp2_with fail
    go_ret
    exact ⟨rfl, Hbel.out⟩

theorem dotsL_len4 (a b c d : UInt8) : (dotsL [a, b, c, d]).length ≤ 15 := by
  have l0 := decL_length_le (n := a.toNat) (k := 2) (by have := a.toNat_lt; omega)
  have l1 := decL_length_le (n := b.toNat) (k := 2) (by have := b.toNat_lt; omega)
  have l2 := decL_length_le (n := c.toNat) (k := 2) (by have := c.toNat_lt; omega)
  have l3 := decL_length_le (n := d.toNat) (k := 2) (by have := d.toNat_lt; omega)
  have := congrArg List.length (dotsL4 a b c d [])
  simp only [List.nil_append, List.length_append, List.length_cons, List.length_nil] at this
  omega

theorem ipString_any (A : Option Addr) (n c : Nat) (b : List UInt8) (w : World) (av : Nat → Prop) (g4 o4 g6 o6 : Nat) (hz : ZX w g4 o4 g6 o6) (ha : RB w av A n c b) (hn : n = 4 ∨ n = 16) :
    Calls Tryd.prog 36 #[.slice A n c] w fun e w' => e = .returned (.string ⟨(ipText b).toArray⟩) ∧ Below w.heap.size w w' := by
  have hcap := ha.cap
  have h6 : 4 < w.heap.size := World.block_lt_of_cell? _ _ hz.z.z6
  rcases hn with rfl | rfl
  · obtain ⟨x0, x1, x2, x3, rfl⟩ : ∃ x0 x1 x2 x3, b = [x0, x1, x2, x3] := by
      match b, ha.len with
      | [x0, x1, x2, x3], _ => exact ⟨x0, x1, x2, x3, rfl⟩
    obtain ⟨g, o, _, rfl, _, _⟩ := ha.at_ (k := 0) (by omega)
    have ht : ipText [x0, x1, x2, x3] = dotsL [x0, x1, x2, x3] := by unfold ipText; rw [if_pos (by simp)]
    rw [ht]
    refine ipString_of _ 4 c _ w (Or.inl rfl) (by have := dotsL_len4 x0 x1 x2 x3; omega) fun W k hW hO => ?_
    have hr := ha.below hW
    have := ipApp4_any w.heap.size g o c x0 x1 x2 x3 [] _ W g4 o4 g6 o6 (hz.below hW) hO hW.size (by simp) (.slice (some ⟨g, o, none⟩) 4 c) (to4_four _ c W) hcap (hr.cell_at (k := 0) rfl) (hr.cell_at (k := 1) rfl) (hr.cell_at (k := 2) rfl) (hr.cell_at (k := 3) rfl)
    exact this
  · obtain ⟨x0, x1, x2, x3, x4, x5, x6, x7, x8, x9, x10, x11, x12, x13, x14, x15, rfl⟩ : ∃ x0 x1 x2 x3 x4 x5 x6 x7 x8 x9 x10 x11 x12 x13 x14 x15, b = [x0, x1, x2, x3, x4, x5, x6, x7, x8, x9, x10, x11, x12, x13, x14, x15] := by
      match b, ha.len with
      | [x0, x1, x2, x3, x4, x5, x6, x7, x8, x9, x10, x11, x12, x13, x14, x15], _ => exact ⟨x0, x1, x2, x3, x4, x5, x6, x7, x8, x9, x10, x11, x12, x13, x14, x15, rfl⟩
    obtain ⟨g, o, _, rfl, _, _⟩ := ha.at_ (k := 0) (by omega)
    by_cases hm : mapd [x0, x1, x2, x3, x4, x5, x6, x7, x8, x9, x10, x11, x12, x13, x14, x15] = true
    · have ht : ipText [x0, x1, x2, x3, x4, x5, x6, x7, x8, x9, x10, x11, x12, x13, x14, x15] = dotsL [x12, x13, x14, x15] := by unfold ipText; rw [if_neg (by simp), if_pos hm]; rfl
      rw [ht]
      refine ipString_of _ 16 c _ w (Or.inr rfl) (by have := dotsL_len4 x12 x13 x14 x15; omega) fun W k hW hO => ?_
      have hr := ha.below hW
      have := ipApp4_any w.heap.size g (o + 12) (c - 12) x12 x13 x14 x15 [] _ W g4 o4 g6 o6 (hz.below hW) hO hW.size (by simp) (.slice (some ⟨g, o, none⟩) 16 c) (to4_mapped g o c _ W av hr hm) (by omega) (hr.cell_at (k := 12) rfl) (hr.cell_at (k := 13) rfl) (hr.cell_at (k := 14) rfl) (hr.cell_at (k := 15) rfl)
      exact this
    · have hm' : mapd [x0, x1, x2, x3, x4, x5, x6, x7, x8, x9, x10, x11, x12, x13, x14, x15] = false := by simpa using hm
      have ht : ipText [x0, x1, x2, x3, x4, x5, x6, x7, x8, x9, x10, x11, x12, x13, x14, x15] = txt6 (grpN [x0, x1, x2, x3, x4, x5, x6, x7, x8, x9, x10, x11, x12, x13, x14, x15]) := by unfold ipText; rw [if_neg (by simp), if_neg hm]
      rw [ht]
      refine ipString_of _ 16 c _ w (Or.inr rfl) (by have := txt6_len (grpN [x0, x1, x2, x3, x4, x5, x6, x7, x8, x9, x10, x11, x12, x13, x14, x15]) (grpN_lt _); omega) fun W k hW hO => ?_
      have hr := ha.below hW
      have := ipApp6_any w.heap.size g o c x0 x1 x2 x3 x4 x5 x6 x7 x8 x9 x10 x11 x12 x13 x14 x15 [] _ W av g4 o4 g6 o6 (hz.below hW) h6 hO hW.size (by simp) hr hm'
      exact this
end Go.Proofs.YtmfcgglgolajnaaDoor
/-
  The contracts of StringEach and fText at addresses of 4 or 16 bytes.
-/
namespace Go.Proofs.YtmfcgglgolajnaaDoor
open Go.RowKit
set_option linter.unusedVariables false

theorem string_info : (Tryd.prog.info? 9).map (fun i => (i.zero, i.size, i.bytes)) = some (some (.string ⟨#[]⟩), 1, 16) := by kernel_rfl
def txV (bss : List (List UInt8)) (k : Nat) : List Value := ((bss.take k).map ipText).map sv
theorem txV_snoc {bss : List (List UInt8)} {k : Nat} {b : List UInt8} (h : bss[k]? = some b) : txV bss (k + 1) = txV bss k ++ [.string ⟨(ipText b).toArray⟩] := by
  unfold txV; rw [take_snoc h]; simp [sv]

set_option maxRecDepth 100000 in
set_option maxHeartbeats 1600000 in
theorem stringEach_any (L : Option Addr) (N e : Nat) (bss : List (List UInt8)) (w : World) (g4 o4 g6 o6 : Nat) (hz : ZX w g4 o4 g6 o6) (hL : RBB w no L N e bss) (hN : N * 16 ≤ 140737488351232) (hall : ∀ b ∈ bss, b.length = 4 ∨ b.length = 16) :
    Calls Tryd.prog 19 #[.slice L N e] w (RetSF w (bss.map ipText)) := by
  obtain ⟨i0, hinf, hz0, hz1, hz2⟩ := info_parts string_info
  have HL := hide hL
  have Hz := hide hz
  have Hall := hide hall
  have Hst : Hid ((w.alloc (.cells #[] 9)).ownsRow w.heap.size 9 1 (.slice (some ⟨w.heap.size, 0, none⟩) 0 0) 0 (txV bss 0) ∧ Below w.heap.size w (w.alloc (.cells #[] 9))) :=
    hide ⟨own_empty w w.heap.size _ (Nat.le_refl _), (Below.refl _ _).alloc (Nat.le_refl _) _⟩
  clear hL hz hall
  go_enter Tryd.func19, Tryd.ntmps19
  go_wp2_with fail
  go_loopw [3, 9] (fun v i wr => ∃ k : Nat, k ≤ N ∧ i = .int .i64 k ∧ wr.ownsRow w.heap.size 9 1 v k (txV bss k) ∧ Below w.heap.size w wr) (fun _ i _ => N - (intOf i).toNat)
  case atStart => exact ⟨0, Nat.zero_le _, rfl, Hst.out⟩
  case round =>
    obtain ⟨k, hk, rfl, h1, h2⟩ := hrel
    have H1 := hide h1
    have H2 := hide h2
    by_cases hlt : k < N
    · obtain ⟨g, o, B, m, d, b, rfl, hbk, hc, hrb⟩ := (HL.out.below h2).at_ hlt
      have hb := Hall.out b (List.mem_of_getElem? hbk)
      have hm : m = 4 ∨ m = 16 := by rw [← hrb.len]; exact hb
      have Hm := hide hm
      have Hf := hide (formBytes_own B m d b wr no hrb (by omega))
      have Hsn := hide (txV_snoc hbk)
      have hsz := h2.size
      generalize txV bss k = nv at *
      clear h1 h2 hbk hb hrb hm
      go_wp2_with fail
      with_reducible refine Hf.out.mono ?_
      rintro e w1 ⟨vc, rfl, hcv, hb1⟩
      obtain ⟨A1, c1, rfl, hr1⟩ := RB.of_own hcv
      have hbw1 := H2.out.trans (hb1.mono H2.out.size)
      have Hs := hide (ipString_any A1 m c1 b w1 no g4 o4 g6 o6 (Hz.out.below hbw1) hr1 Hm.out)
      have Hbw1 := hide hbw1
      have Hb1 := hide hb1
      clear hcv hb1 hr1 hbw1 Hf
      generalize ipText b = tx at *
      go_wp2_with fail
      with_reducible refine Hs.out.mono ?_
      rintro e w2 ⟨rfl, hb2⟩
      have hb12 := Hb1.out.trans (hb2.mono Hb1.out.size)
      have hbw2 := Hbw1.out.trans (hb2.mono Hbw1.out.size)
      have hsz2 := hbw2.size
      have Ho := hide ((own_below H1.out hb12).alloc (.cells #[.string ⟨tx.toArray⟩] 9))
      have Hbw2 := hide hbw2
      clear hb2 hb12 hbw2 Hs
      go_wp2_with (at_builtin; refine wpList_append_rd _ rfl (.tmp 13) (.tmp 17) _ rfl w.heap.size 9 i0 _ 16 Tryd.underlying34 hinf hz0 hz1 hz2 rfl _ k _ rfl Ho.out no (some ⟨w2.heap.size, 0, none⟩) 1 1 [.string ⟨tx.toArray⟩] rfl ?p1 ?p2 ?p3 ?p4 ?p5 ?_)
      case p1 => exact Rd.one w2 _ _ no (fun h => h)
      case p2 => first | rfl | (intro u hu; simp at hu; subst hu; rfl)
      case p3 => unfold maxLen; omega
      case p4 => omega
      case p5 => first | omega | (simp; omega)
      intro v' w3 q1 q2 q3
      have HB := hide (below_append (Hbw2.out.alloc Hbw2.out.size _) q2 Ho.out (by simp; omega))
      have HO := hide q1
      rw [← Hsn.out] at HO
      clear q1 q2 q3 Ho
      go_wp2_with fail
      go_roundw
      case rel => exact ⟨k + 1, by omega, by go_num, HO.out, HB.out⟩
      case measure => simp [intOf]; omega
    · obtain rfl : k = N := by omega
      have hnv : txV bss k = (bss.map ipText).map sv := by unfold txV; rw [List.take_of_length_le (by rw [HL.out.len]; omega)]
      rw [hnv] at h1
      obtain ⟨AL, cL, rfl, hR⟩ := RS.of_own_av (av := fun g => g < w.heap.size) h1 (fun g h => h)
      have HR := hide hR
      have Hlen : Hid ((bss.map ipText).length = k) := hide (by rw [List.length_map, HL.out.len])
      clear h1 h2 hnv hR
      go_wp2_with fail
      go_ret
      exact ⟨AL, cL, by rw [Hlen.out]; rfl, by rw [Hlen.out]; exact HR.out, H2.out⟩

set_option maxRecDepth 100000 in
set_option maxHeartbeats 800000 in
theorem fText_any (A : Option Addr) (n c : Nat) (b : List UInt8) (w : World) (av : Nat → Prop) (g4 o4 g6 o6 : Nat) (hz : ZX w g4 o4 g6 o6) (ha : RB w av A n c b) (hn : n = 4 ∨ n = 16) :
    Calls Tryd.prog 15 #[.slice A n c] w fun e w' => e = .returned (.string ⟨(ipText b).toArray⟩) ∧ Below w.heap.size w w' := by
  have Hc := hide (copied_own A n c b w av ha (by omega))
  have Hz := hide hz
  have Hn : Hid (b.length = 4 ∨ b.length = 16) := hide (by rw [ha.len]; exact hn)
  clear ha hz hn
  go_enter Tryd.func15, Tryd.ntmps15
  go_wp2_with fail
  with_reducible refine Hc.out.mono ?_
  rintro e w1 ⟨vc, rfl, hcv, hb1⟩
  obtain ⟨A1, c1, rfl, hr1⟩ := RB.of_own hcv
  have hal : Below w.heap.size w (w1.alloc (.cells #[.slice A1 n c1] 22)) := hb1.alloc hb1.size _
  have Hs := hide (stringEach_any _ 1 1 [b] _ g4 o4 g6 o6 (Hz.out.below hal) (RBB.one 22 hr1) (by omega) (by intro x hx; simp at hx; subst hx; exact Hn.out))
  have Hal := hide hal
  clear hcv hb1 hr1 hal Hc
  go_wp2_with fail
  with_reducible refine Hs.out.mono ?_
  rintro e w2 ⟨A2, c2, rfl, hr2, hb2⟩
  rw [show ([b].map ipText).length = 1 from rfl] at hr2 ⊢
  obtain ⟨g, o, t, rfl, htk, hcell⟩ := hr2.at_ (k := 0) (by omega)
  obtain rfl : t = ipText b := by simp at htk; exact htk.symm
  rw [Nat.add_zero] at hcell
  have Hb2 := hide (Hal.out.trans (hb2.mono Hal.out.size))
  clear hr2 htk hb2 Hs
  go_wp2_with fail
  go_ret
  exact ⟨rfl, Hb2.out⟩
end Go.Proofs.YtmfcgglgolajnaaDoor
/-
  The text of an address tells the address. No program is named here.
-/
namespace Go.Proofs.YtmfcgglgolajnaaDoor
set_option linter.unusedVariables false

/-- What a text without a zone is read to. -/
def readAny (s : List UInt8) : Option (List UInt8) := if scanL s = some 46 then (v4go s 0 0 []).map (pre12 ++ ·) else if scanL s = some 58 then v6 s else none
theorem scan_d4 (a b c d : UInt8) : scanL (dotsL [a, b, c, d]) = some 46 := by
  have e := dotsL4 a b c d []
  rw [List.nil_append] at e
  rw [e]
  simp only [List.nil_append, List.append_assoc, List.cons_append]
  rw [scan_digs (decL_digs _), scan_dot]
theorem read_d4 (a b c d : UInt8) : readAny (dotsL [a, b, c, d]) = some (pre12 ++ [a, b, c, d]) := by
  unfold readAny
  rw [scan_d4, if_pos rfl, v4go_dots [a, b, c, d] [] (by simp) (by simp), if_pos (by simp)]
  rfl
theorem scan_txt6 (g : Nat → Nat) : scanL (txt6 g) = some 58 := by
  unfold txt6
  have hor := zfind_or g 8 (Nat.le_refl _)
  generalize hz : zfind g 8 = zf at *
  obtain ⟨zs, ze⟩ := zf
  have hzz : zs < 8 → zs < ze := by
    rcases hor with h | ⟨h1, h2, h3, h4⟩
    · injection h with e1 e2; omega
    · simp only at h1 h2 h3 h4; omega
  show scanL (w6 g zs ze 8 0) = some 58
  by_cases h0 : zs = 0
  · subst h0
    rw [w6_gap (hzz (by omega)) (by omega) (by omega)]
    rfl
  · have e : w6 g zs ze 8 0 = hexL (g 0) ++ w6 g zs ze 7 1 := by
      show (if 0 < 8 then (if 0 = zs then _ else (if 0 < 0 then [58] else []) ++ (hexL (g 0) ++ w6 g zs ze 7 (0 + 1))) else []) = _
      rw [if_pos (by omega), if_neg (by omega), if_neg (by omega)]
      rfl
    rw [e, scan_hex (hexL_hex _)]
    by_cases h1 : zs = 1
    · subst h1
      rw [w6_gap (hzz (by omega)) (by omega) (by omega)]
      rfl
    · rw [w6_at hzz (by omega) (by omega) (fun h => h1 h.symm) (by omega)]
      rfl
theorem two6_bytes (x y : UInt8) : two6 (x.toNat * 256 + y.toNat) = [x, y] := by
  have hx := x.toNat_lt
  have hy := y.toNat_lt
  unfold two6
  rw [ofNat_of (x := x) (by omega), ofNat_of (x := y) (by omega)]
theorem seg_grpN (x0 x1 x2 x3 x4 x5 x6 x7 x8 x9 x10 x11 x12 x13 x14 x15 : UInt8) : seg (grpN [x0, x1, x2, x3, x4, x5, x6, x7, x8, x9, x10, x11, x12, x13, x14, x15]) 0 8 = [x0, x1, x2, x3, x4, x5, x6, x7, x8, x9, x10, x11, x12, x13, x14, x15] := by
  show two6 (x0.toNat * 256 + x1.toNat) ++ (two6 (x2.toNat * 256 + x3.toNat) ++ (two6 (x4.toNat * 256 + x5.toNat) ++ (two6 (x6.toNat * 256 + x7.toNat) ++ (two6 (x8.toNat * 256 + x9.toNat) ++ (two6 (x10.toNat * 256 + x11.toNat) ++ (two6 (x12.toNat * 256 + x13.toNat) ++ (two6 (x14.toNat * 256 + x15.toNat) ++ []))))))) = _
  simp only [two6_bytes]
  rfl
theorem mapd_is (x0 x1 x2 x3 x4 x5 x6 x7 x8 x9 x10 x11 x12 x13 x14 x15 : UInt8) (h : mapd [x0, x1, x2, x3, x4, x5, x6, x7, x8, x9, x10, x11, x12, x13, x14, x15] = true) : [x0, x1, x2, x3, x4, x5, x6, x7, x8, x9, x10, x11, x12, x13, x14, x15] = pre12 ++ [x12, x13, x14, x15] := by
  unfold mapd at h
  simp [zerosB] at h
  obtain ⟨⟨h0, h1, h2, h3, h4, h5, h6, h7, h8, h9⟩, h10, h11⟩ := h
  subst h0 h1 h2 h3 h4 h5 h6 h7 h8 h9 h10 h11
  rfl
theorem read_ipText (b : List UInt8) (hb : b.length = 4 ∨ b.length = 16) : readAny (ipText b) = some (longOf b) := by
  rcases hb with h4 | h16
  · obtain ⟨x0, x1, x2, x3, rfl⟩ : ∃ x0 x1 x2 x3, b = [x0, x1, x2, x3] := by
      match b, h4 with
      | [x0, x1, x2, x3], _ => exact ⟨x0, x1, x2, x3, rfl⟩
    unfold ipText longOf
    rw [if_pos (by simp), if_pos (by simp), read_d4]
  · obtain ⟨x0, x1, x2, x3, x4, x5, x6, x7, x8, x9, x10, x11, x12, x13, x14, x15, rfl⟩ : ∃ x0 x1 x2 x3 x4 x5 x6 x7 x8 x9 x10 x11 x12 x13 x14 x15, b = [x0, x1, x2, x3, x4, x5, x6, x7, x8, x9, x10, x11, x12, x13, x14, x15] := by
      match b, h16 with
      | [x0, x1, x2, x3, x4, x5, x6, x7, x8, x9, x10, x11, x12, x13, x14, x15], _ => exact ⟨x0, x1, x2, x3, x4, x5, x6, x7, x8, x9, x10, x11, x12, x13, x14, x15, rfl⟩
    have hn : ¬ [x0, x1, x2, x3, x4, x5, x6, x7, x8, x9, x10, x11, x12, x13, x14, x15].length = 4 := by simp
    unfold ipText longOf
    rw [if_neg hn, if_neg hn]
    by_cases hm : mapd [x0, x1, x2, x3, x4, x5, x6, x7, x8, x9, x10, x11, x12, x13, x14, x15] = true
    · rw [if_pos hm, show List.drop 12 [x0, x1, x2, x3, x4, x5, x6, x7, x8, x9, x10, x11, x12, x13, x14, x15] = [x12, x13, x14, x15] from rfl, read_d4, ← mapd_is x0 x1 x2 x3 x4 x5 x6 x7 x8 x9 x10 x11 x12 x13 x14 x15 hm]
    · rw [if_neg hm]
      unfold readAny
      rw [scan_txt6, if_neg (by simp), if_pos rfl, v6_txt6 _ (grpN_lt _), seg_grpN]
/-- Two addresses have one text just if they are the same in 16 bytes. -/
theorem ipText_inj (b d : List UInt8) (hb : b.length = 4 ∨ b.length = 16) (hd : d.length = 4 ∨ d.length = 16) : ipText b = ipText d ↔ longOf b = longOf d := by
  constructor
  · intro h
    have h1 := read_ipText b hb
    rw [h, read_ipText d hd] at h1
    injection h1 with h1
    exact h1.symm
  · intro h
    have key : ∀ b : List UInt8, (b.length = 4 ∨ b.length = 16) → ipText b = ipText (longOf b) := by
      intro b hb
      rcases hb with h4 | h16
      · obtain ⟨x0, x1, x2, x3, rfl⟩ : ∃ x0 x1 x2 x3, b = [x0, x1, x2, x3] := by
          match b, h4 with
          | [x0, x1, x2, x3], _ => exact ⟨x0, x1, x2, x3, rfl⟩
        have e : longOf [x0, x1, x2, x3] = pre12 ++ [x0, x1, x2, x3] := by unfold longOf; rw [if_pos (by simp)]
        rw [e]
        unfold ipText
        rw [if_pos (by simp), if_neg (by simp [pre12]), if_pos (by unfold mapd pre12; simp [zerosB])]
        rfl
      · unfold longOf; rw [if_neg (by omega)]
    rw [key b hb, key d hd, h]
end Go.Proofs.YtmfcgglgolajnaaDoor
