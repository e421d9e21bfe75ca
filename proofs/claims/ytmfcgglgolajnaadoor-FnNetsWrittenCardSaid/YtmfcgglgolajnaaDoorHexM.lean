/-
  The contracts of hexString and of String of IPMask.
-/
import Derived.Test.YtmfcgglgolajnaaDoorMA
import Derived.Test.YtmfcgglgolajnaaDoorMB
namespace Go.Proofs.YtmfcgglgolajnaaDoor
open Go.RowKit
set_option linter.unusedVariables false

/-- The hexadecimal digit of m. -/
def hexC (m : Nat) : UInt8 := if h : m < 16 then (⟨#[48, 49, 50, 51, 52, 53, 54, 55, 56, 57, 97, 98, 99, 100, 101, 102]⟩ : ByteArray)[m]'h else 0
/-- Two digits for each byte. -/
def hexB : List UInt8 → List UInt8
  | [] => []
  | b :: r => hexC (b.toNat / 16) :: hexC (b.toNat % 16) :: hexB r
theorem hexB_append (xs ys : List UInt8) : hexB (xs ++ ys) = hexB xs ++ hexB ys := by
  induction xs with
  | nil => rfl
  | cons b r ih => simp [hexB, ih]
theorem hexB_length (xs : List UInt8) : (hexB xs).length = 2 * xs.length := by
  induction xs with
  | nil => rfl
  | cons b r ih => simp [hexB, ih]; omega
theorem hexC_inj {a b : Nat} (ha : a < 16) (hb : b < 16) (h : hexC a = hexC b) : a = b := by
  have key : ∀ x y : Fin 16, hexC x.val = hexC y.val → x = y := by decide
  have := key ⟨a, ha⟩ ⟨b, hb⟩ h
  injection this
theorem hexB_inj {xs ys : List UInt8} (h : hexB xs = hexB ys) : xs = ys := by
  induction xs generalizing ys with
  | nil =>
    cases ys with
    | nil => rfl
    | cons b r => simp [hexB] at h
  | cons a r ih =>
    cases ys with
    | nil => simp [hexB] at h
    | cons b q =>
      simp only [hexB, List.cons.injEq] at h
      obtain ⟨h1, h2, h3⟩ := h
      have l1 := a.toNat_lt
      have l2 := b.toNat_lt
      have e1 := hexC_inj (by omega) (by omega) h1
      have e2 := hexC_inj (by omega) (by omega) h2
      have : a = b := UInt8.toNat_inj.1 (by omega)
      rw [this, ih h3]

def hexTo (bs : List UInt8) (k : Nat) : List UInt8 := hexB (bs.take k) ++ List.replicate (2 * (bs.length - k)) 0
theorem hexTo_length {bs : List UInt8} {k : Nat} (h : k ≤ bs.length) : (hexTo bs k).length = 2 * bs.length := by
  unfold hexTo; rw [List.length_append, hexB_length, List.length_take, List.length_replicate]; omega
theorem hexTo_end (bs : List UInt8) : hexTo bs bs.length = hexB bs := by
  unfold hexTo; simp
theorem hexTo_set {bs : List UInt8} {k : Nat} {x : UInt8} (hx : bs[k]? = some x) : ((hexTo bs k).set (k * 2) (hexC (x.toNat / 16))).set (k * 2 + 1) (hexC (x.toNat % 16)) = hexTo bs (k + 1) := by
  have hk : k < bs.length := (List.getElem?_eq_some_iff.1 hx).1
  unfold hexTo
  have hl : (hexB (bs.take k)).length = k * 2 := by rw [hexB_length, List.length_take]; omega
  rw [take_snoc hx, hexB_append, show 2 * (bs.length - k) = 2 * (bs.length - (k + 1)) + 1 + 1 by omega, List.replicate_succ, List.replicate_succ]
  rw [List.set_append, if_neg (by omega), hl, Nat.sub_self, List.set_cons_zero, List.set_append, if_neg (by omega), hl, show k * 2 + 1 - k * 2 = 1 by omega, List.set_cons_succ, List.set_cons_zero, List.append_assoc]
  rfl

def HexR (w : World) (bs : List UInt8) (k : Nat) (wr : World) : Prop := Blk wr w.heap.size 5 ((hexTo bs k).map fun b => .int .u8 (b.toNat : Int)) ∧ Below w.heap.size w wr
theorem HexR.start (w : World) (bs : List UInt8) (n : Nat) (hn : bs.length = n) : HexR w bs 0 (w.alloc (.cells (timesOf (n * 2) (.int .u8 0)).toArray 5)) := by
  refine ⟨?_, (Below.refl _ _).alloc (Nat.le_refl _) _⟩
  have := Blk.new w 5 (timesOf (n * 2) (.int .u8 0))
  unfold hexTo
  rw [List.take_zero, Nat.sub_zero, hn, Nat.mul_comm 2 n]
  simp only [hexB, List.nil_append, List.map_replicate]
  exact this
theorem HexR.step {w wr : World} {bs : List UInt8} {k : Nat} {x : UInt8} (h : HexR w bs k wr) (hx : bs[k]? = some x) :
    HexR w bs (k + 1) ((wr.setCell ⟨w.heap.size, k * 2, none⟩ (.int .u8 ((hexC (x.toNat / 16)).toNat : Int))).setCell ⟨w.heap.size, k * 2 + 1, none⟩ (.int .u8 ((hexC (x.toNat % 16)).toNat : Int))).drew := by
  obtain ⟨h1, h2⟩ := h
  refine ⟨?_, ((h2.setCell (Nat.le_refl _) _).setCell (Nat.le_refl _) _).drew⟩
  have := (h1.set_ (k * 2) (.int .u8 ((hexC (x.toNat / 16)).toNat : Int))).set_ (k * 2 + 1) (.int .u8 ((hexC (x.toNat % 16)).toNat : Int))
  rw [← hexTo_set hx, List.map_set, List.map_set]
  exact this

set_option maxRecDepth 100000 in
set_option maxHeartbeats 1600000 in
theorem hexString_any (A : Option Addr) (n c : Nat) (bs : List UInt8) (w : World) (av : Nat → Prop) (ha : RB w av A n c bs) (hn : 2 * n ≤ 281474976710656) :
    Calls Tryd.prog 45 #[.slice A n c] w fun e w' => e = .returned (sv (hexB bs)) ∧ Below w.heap.size w w' := by
  obtain ⟨i0, hi, hz0, hz1, hz2⟩ := info_parts byte_info
  have hmk0 := fun W => run_make1 (P := Tryd.prog) 22 5 i0 (.int .u8 0) Tryd.underlying22 hi hz0 hz1 rfl (n * 2) (by rw [hz2]; omega) (by omega) W
  have hmk : ∀ W : World, (Instr.makeSlice 22 (.int .i64 ((n : Int) * 2)) (.int .i64 ((n : Int) * 2))).run Tryd.prog W = .ok (.slice (some ⟨W.heap.size, 0, none⟩) (n * 2) (n * 2)) (W.alloc (.cells (timesOf (n * 2) (.int .u8 0)).toArray 5)) := by
    intro W
    have := hmk0 W
    rwa [show ((n * 2 : Nat) : Int) = (n : Int) * 2 by omega] at this
  have Ha := hide ha.free
  have Hl := hide ha.len
  have Hst := hide (HexR.start w bs n ha.len)
  clear ha hmk0
  go_enter Tryd.func45, Tryd.ntmps45
  go_wp2_with fail
  clear hmk
  go_loopw [12] (fun i wr => ∃ k : Nat, k ≤ n ∧ i = .int .i64 k ∧ HexR w bs k wr) (fun i _ => n - (intOf i).toNat)
  case atStart => exact ⟨0, Nat.zero_le _, rfl, Hst.out⟩
  case round =>
    obtain ⟨k, hk, rfl, hr⟩ := hrel
    have Hr := hide hr
    by_cases hlt : k < n
    · obtain ⟨g, o, x, rfl, hx, hc⟩ := (Ha.out.below hr.2).at_ hlt
      have hx1 := lt_256 x
      have hl : (hexTo bs k).length = 2 * n := by rw [hexTo_length (by rw [Hl.out]; omega), Hl.out]
      obtain ⟨u1, hu1⟩ : ∃ u, ((hexTo bs k).map fun b : UInt8 => Value.int .u8 (b.toNat : Int))[k * 2]? = some u := ⟨_, List.getElem?_eq_getElem (by rw [List.length_map]; omega)⟩
      obtain ⟨u2, hu2⟩ : ∃ u, ((hexTo bs k).map fun b : UInt8 => Value.int .u8 (b.toNat : Int))[k * 2 + 1]? = some u := ⟨_, List.getElem?_eq_getElem (by rw [List.length_map]; omega)⟩
      have hc1 : wr.cell? ⟨w.heap.size, k * 2, none⟩ = some u1 := by rw [hr.1.cell, hu1]
      have hc2 : wr.cell? ⟨w.heap.size, k * 2 + 1, none⟩ = some u2 := by rw [hr.1.cell, hu2]
      have hf1 := hr.1.frozen (k * 2)
      have hf2 := hr.1.frozen (k * 2 + 1)
      have i1 : (0 : Int) ≤ k := by omega
      have i2 : (k : Int) < n := by omega
      have j1 : (0 : Int) ≤ (x.toNat : Int) / 16 := by omega
      have j2 : (x.toNat : Int) / 16 < 16 := by omega
      have j3 : (0 : Int) ≤ (x.toNat : Int) % 16 := by omega
      have j4 : (x.toNat : Int) % 16 < 16 := by omega
      have Hs := hide (Hr.out.step hx)
      unfold hexC at Hs
      rw [dif_pos (show x.toNat / 16 < 16 by omega), dif_pos (show x.toNat % 16 < 16 by omega)] at Hs
      clear hx hu1 hu2 hr hl
      go_wp2_with fail
      go_region
      go_wp2_with fail
      go_roundw
      case rel => exact ⟨k + 1, by omega, by go_num, Hs.out⟩
      case measure => simp [intOf]; omega
    · obtain rfl : k = n := by omega
      have h1 := hr.1
      rw [show hexTo bs k = hexB bs by rw [← hexTo_end, Hl.out]] at h1
      have hrb : RB wr no (some ⟨w.heap.size, 0, none⟩) (k * 2) (k * 2) (hexB bs) := h1.rb (fun h => h) (by rw [hexB_length, Hl.out]; omega) (Nat.le_refl _) (by unfold maxLen; omega)
      have hconv := run_string_rb (P := Tryd.prog) 22 9 5 Tryd.underlying22 Tryd.underlying5 Tryd.underlying9 hrb
      clear h1 hrb hr
      obtain ⟨hx, hhx⟩ : ∃ h, h = hexB bs := ⟨_, rfl⟩
      rw [← hhx] at hconv
      have Hhx := hide hhx
      clear hhx
      go_wp2_with fail
      go_ret
      exact ⟨by rw [← Hhx.out]; rfl, Hr.out.2⟩

/-- The text of a mask. -/
def maskText (bs : List UInt8) : List UInt8 := if bs.length = 0 then [60, 110, 105, 108, 62] else hexB bs

set_option maxHeartbeats 1600000 in
theorem maskString_any (A : Option Addr) (n c : Nat) (bs : List UInt8) (w : World) (av : Nat → Prop) (ha : RB w av A n c bs) (hn : 2 * n ≤ 281474976710656) :
    Calls Tryd.prog 52 #[.slice A n c] w fun e w' => e = .returned (sv (maskText bs)) ∧ Below w.heap.size w w' := by
  have Hc := hide (hexString_any A n c bs w av ha hn)
  unfold maskText
  rw [ha.len]
  clear ha
  by_cases h0 : n = 0
  · subst h0
    go_enter Tryd.func52, Tryd.ntmps52
    go_wp2_with fail
    go_ret
    exact ⟨rfl, Below.refl _ _⟩
  · rw [if_neg h0]
    have hne : ((n : Int) == 0) = false := by simp; omega
    generalize hexB bs = hx at *
    go_enter Tryd.func52, Tryd.ntmps52
    go_wp2_with fail
    with_reducible refine Hc.out.mono ?_
    rintro e w' ⟨rfl, hb⟩
    have Hb := hide hb
    clear hb
    unfold sv
    go_wp2_with fail
    go_ret
    exact ⟨rfl, Hb.out⟩
end Go.Proofs.YtmfcgglgolajnaaDoor
