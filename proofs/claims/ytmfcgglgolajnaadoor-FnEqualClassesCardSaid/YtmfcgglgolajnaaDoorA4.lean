/-
  The contracts of netip.AddrFrom4, byteorder.BEPutUint64 and Addr.As16.
-/
import Derived.Test.YtmfcgglgolajnaaDoorBase
import Derived.Test.YtmfcgglgolajnaaDoorBlk
import Derived.Test.YtmfcgglgolajnaaDoorV4
import Derived.Laws.BitsAllLaws
import Derived.Deep.RegionHeld3
import Derived.Deep.CutRange
import Derived.Deep.DeepCutAuto
namespace Go.Proofs.YtmfcgglgolajnaaDoor
open Go.RowKit
set_option linter.unusedVariables false

theorem or_u64 {x y : Nat} (hx : x < 2 ^ 64) (hy : y < 2 ^ 64) : bits .or .u64 (x : Int) (y : Int) = ((x ||| y : Nat) : Int) := u64_or_nat x y (by omega) (by omega)
theorem or_add {a b i : Nat} (h : b < 2 ^ i) : (2 ^ i * a) ||| b = 2 ^ i * a + b := (Nat.two_pow_add_eq_or_of_lt h a).symm
/-- The low half of an IPv4 address. -/
def lo4 (a b c d : UInt8) : Nat := 281470681743360 + a.toNat * 16777216 + b.toNat * 65536 + c.toNat * 256 + d.toNat
theorem lo4_bits (a b c d : UInt8) : bits .or .u64 (bits .or .u64 (bits .or .u64 (bits .or .u64 281470681743360 ((a.toNat : Int) * 16777216)) ((b.toNat : Int) * 65536)) ((c.toNat : Int) * 256)) (d.toNat : Int) = ((lo4 a b c d : Nat) : Int) := by
  have ha := a.toNat_lt
  have hb := b.toNat_lt
  have hc := c.toNat_lt
  have hd := d.toNat_lt
  have e1 : bits .or .u64 281470681743360 ((a.toNat : Int) * 16777216) = ((281470681743360 + a.toNat * 16777216 : Nat) : Int) := by
    have := or_u64 (x := 281470681743360) (y := a.toNat * 16777216) (by omega) (by omega)
    have h2 : 281470681743360 ||| a.toNat * 16777216 = 281470681743360 + a.toNat * 16777216 := by
      have := or_add (a := 65535) (b := a.toNat * 16777216) (i := 32) (by omega)
      simpa using this
    rw [h2] at this
    simpa using this
  have e2 : bits .or .u64 ((281470681743360 + a.toNat * 16777216 : Nat) : Int) ((b.toNat : Int) * 65536) = ((281470681743360 + a.toNat * 16777216 + b.toNat * 65536 : Nat) : Int) := by
    have := or_u64 (x := 281470681743360 + a.toNat * 16777216) (y := b.toNat * 65536) (by omega) (by omega)
    have h2 : (281470681743360 + a.toNat * 16777216) ||| b.toNat * 65536 = 281470681743360 + a.toNat * 16777216 + b.toNat * 65536 := by
      have := or_add (a := 16776960 + a.toNat) (b := b.toNat * 65536) (i := 24) (by omega)
      rw [show 2 ^ 24 * (16776960 + a.toNat) = 281470681743360 + a.toNat * 16777216 by omega] at this
      exact this
    rw [h2] at this
    rw [← this]; congr 1
  have e3 : bits .or .u64 ((281470681743360 + a.toNat * 16777216 + b.toNat * 65536 : Nat) : Int) ((c.toNat : Int) * 256) = ((281470681743360 + a.toNat * 16777216 + b.toNat * 65536 + c.toNat * 256 : Nat) : Int) := by
    have := or_u64 (x := 281470681743360 + a.toNat * 16777216 + b.toNat * 65536) (y := c.toNat * 256) (by omega) (by omega)
    have h2 : (281470681743360 + a.toNat * 16777216 + b.toNat * 65536) ||| c.toNat * 256 = 281470681743360 + a.toNat * 16777216 + b.toNat * 65536 + c.toNat * 256 := by
      have := or_add (a := 4294901760 + a.toNat * 256 + b.toNat) (b := c.toNat * 256) (i := 16) (by omega)
      rw [show 2 ^ 16 * (4294901760 + a.toNat * 256 + b.toNat) = 281470681743360 + a.toNat * 16777216 + b.toNat * 65536 by omega] at this
      exact this
    rw [h2] at this
    rw [← this]; congr 1
  have e4 : bits .or .u64 ((281470681743360 + a.toNat * 16777216 + b.toNat * 65536 + c.toNat * 256 : Nat) : Int) (d.toNat : Int) = ((lo4 a b c d : Nat) : Int) := by
    have := or_u64 (x := 281470681743360 + a.toNat * 16777216 + b.toNat * 65536 + c.toNat * 256) (y := d.toNat) (by omega) (by omega)
    have h2 : (281470681743360 + a.toNat * 16777216 + b.toNat * 65536 + c.toNat * 256) ||| d.toNat = lo4 a b c d := by
      have := or_add (a := 1099494850560 + a.toNat * 65536 + b.toNat * 256 + c.toNat) (b := d.toNat) (i := 8) (by omega)
      rw [show 2 ^ 8 * (1099494850560 + a.toNat * 65536 + b.toNat * 256 + c.toNat) = 281470681743360 + a.toNat * 16777216 + b.toNat * 65536 + c.toNat * 256 by omega] at this
      exact this
    rw [h2] at this
    exact this
  rw [e1, e2, e3, e4]

/-- An address, as a value. -/
def addrV (hi lo : Nat) (p : Option Addr) : Value := .agg #[.int .u64 (hi : Int), .int .u64 (lo : Int), .pointer p]

set_option maxRecDepth 100000 in
set_option maxHeartbeats 1600000 in
theorem addrFrom4_any (a b c d : UInt8) (w : World) (p : Option Addr) (hz4 : w.cell? ⟨3, 0, none⟩ = some (.pointer p)) :
    Calls Tryd.prog 62 #[.agg #[.int .u8 (a.toNat : Int), .int .u8 (b.toNat : Int), .int .u8 (c.toNat : Int), .int .u8 (d.toNat : Int)]] w fun e w' => e = .returned (addrV 0 (lo4 a b c d) p) ∧ Below w.heap.size w w' := by
  have ha := lt_256 a
  have hb := lt_256 b
  have hc := lt_256 c
  have hd := lt_256 d
  have hlt : 3 < w.heap.size := World.block_lt_of_cell? _ _ hz4
  have hz : ∀ o1 o2, ((w.alloc o1).alloc o2).cell? ⟨3, 0, none⟩ = some (.pointer p) := fun o1 o2 => by
    rw [World.cell?_of_block (w := w) (by rw [Below.heap_alloc _ _ _ (by simp; omega), Below.heap_alloc _ _ _ hlt])]; exact hz4
  have Hl := hide (lo4_bits a b c d)
  have hB : Hid (∀ o1 o2, Below w.heap.size w ((w.alloc o1).alloc o2)) := hide (fun o1 o2 => ((Below.refl _ _).alloc (Nat.le_refl _) _).alloc (by simp) _)
  go_enter Tryd.func62, Tryd.ntmps62
  go_wp2_with fail
  rw [Hl.out]
  refine bodyPost_ret (v := addrV 0 (lo4 a b c d) p) (by simp [results, Tryd.results62, addrV, go_sem]) rfl ⟨rfl, hB.out _ _⟩

/-- The bytes of 64 bits, the first one first. -/
def be8 (v : Nat) : List UInt8 := [UInt8.ofNat (v / 72057594037927936 % 256), UInt8.ofNat (v / 281474976710656 % 256), UInt8.ofNat (v / 1099511627776 % 256), UInt8.ofNat (v / 4294967296 % 256), UInt8.ofNat (v / 16777216 % 256), UInt8.ofNat (v / 65536 % 256), UInt8.ofNat (v / 256 % 256), UInt8.ofNat (v % 256)]
theorem ofNat_mod (x : Nat) : ((UInt8.ofNat (x % 256)).toNat : Int) = (x : Int) % 256 := by rw [UInt8.toNat_ofNat']; omega

theorem FW.cell_ {w wr : World} {g : Nat} {t : TypeId} {xs : List Value} {o : Nat} {done : List UInt8} (h : FW w g t xs o done wr) (hl : o + done.length ≤ xs.length) {k : Nat} (hk : k < xs.length) : ∃ u, wr.cell? ⟨g, k, none⟩ = some u :=
  ⟨_, by rw [h.1.cell]; exact List.getElem?_eq_getElem (by rw [put4_length hl]; exact hk)⟩

set_option maxRecDepth 100000 in
set_option maxHeartbeats 8000000 in
theorem bePut_any (v g o c : Nat) (x0 x1 x2 x3 x4 x5 x6 x7 : UInt8) (t : TypeId) (xs : List Value) (w : World) (hv : v < 18446744073709551616) (hB : Blk w g t xs) (ho : o + 8 ≤ xs.length) (hc : 8 ≤ c)
    (h0 : (v : Int) / 72057594037927936 = (x0.toNat : Int)) (h1 : (v : Int) / 281474976710656 % 256 = (x1.toNat : Int)) (h2 : (v : Int) / 1099511627776 % 256 = (x2.toNat : Int)) (h3 : (v : Int) / 4294967296 % 256 = (x3.toNat : Int)) (h4 : (v : Int) / 16777216 % 256 = (x4.toNat : Int)) (h5 : (v : Int) / 65536 % 256 = (x5.toNat : Int)) (h6 : (v : Int) / 256 % 256 = (x6.toNat : Int)) (h7 : (v : Int) % 256 = (x7.toNat : Int)) :
    Calls Tryd.prog 71 #[.slice (some ⟨g, o, none⟩) 8 c, .int .u64 (v : Int)] w fun e w' => e = .returned (.tuple #[]) ∧ FW w g t xs o [x0, x1, x2, x3, x4, x5, x6, x7] w' := by
  have H0 := hide (FW.start o hB)
  obtain ⟨r0, c0⟩ := H0.out.cell_ (by simp; omega) (show o < xs.length by omega)
  have f0 := H0.out.1.frozen (o)
  obtain ⟨r1, c1⟩ := H0.out.cell_ (by simp; omega) (show o + 1 < xs.length by omega)
  have f1 := H0.out.1.frozen (o + 1)
  obtain ⟨r2, c2⟩ := H0.out.cell_ (by simp; omega) (show o + 2 < xs.length by omega)
  have f2 := H0.out.1.frozen (o + 2)
  obtain ⟨r3, c3⟩ := H0.out.cell_ (by simp; omega) (show o + 3 < xs.length by omega)
  have f3 := H0.out.1.frozen (o + 3)
  obtain ⟨r4, c4⟩ := H0.out.cell_ (by simp; omega) (show o + 4 < xs.length by omega)
  have f4 := H0.out.1.frozen (o + 4)
  obtain ⟨r5, c5⟩ := H0.out.cell_ (by simp; omega) (show o + 5 < xs.length by omega)
  have f5 := H0.out.1.frozen (o + 5)
  obtain ⟨r6, c6⟩ := H0.out.cell_ (by simp; omega) (show o + 6 < xs.length by omega)
  have f6 := H0.out.1.frozen (o + 6)
  obtain ⟨r7, c7⟩ := H0.out.cell_ (by simp; omega) (show o + 7 < xs.length by omega)
  have f7 := H0.out.1.frozen (o + 7)
  have Hh := hide (⟨h0, h1, h2, h3, h4, h5, h6, h7⟩ : _ ∧ _ ∧ _ ∧ _ ∧ _ ∧ _ ∧ _ ∧ _)
  have Hfin : Hid (FW w g t xs o [x0, x1, x2, x3, x4, x5, x6, x7] ((((((((w.setCell ⟨g, o, none⟩ (.int .u8 (x0.toNat : Int))).setCell ⟨g, o + 1, none⟩ (.int .u8 (x1.toNat : Int))).setCell ⟨g, o + 2, none⟩ (.int .u8 (x2.toNat : Int))).setCell ⟨g, o + 3, none⟩ (.int .u8 (x3.toNat : Int))).setCell ⟨g, o + 4, none⟩ (.int .u8 (x4.toNat : Int))).setCell ⟨g, o + 5, none⟩ (.int .u8 (x5.toNat : Int))).setCell ⟨g, o + 6, none⟩ (.int .u8 (x6.toNat : Int))).setCell ⟨g, o + 7, none⟩ (.int .u8 (x7.toNat : Int)))) := hide (by
    have H1 : FW w g t xs o [x0] (w.setCell ⟨g, o, none⟩ (.int .u8 (x0.toNat : Int))) := H0.out.step x0 (by simp; omega)
    have H2 : FW w g t xs o [x0, x1] ((w.setCell ⟨g, o, none⟩ (.int .u8 (x0.toNat : Int))).setCell ⟨g, o + 1, none⟩ (.int .u8 (x1.toNat : Int))) := H1.step x1 (by simp; omega)
    have H3 : FW w g t xs o [x0, x1, x2] (((w.setCell ⟨g, o, none⟩ (.int .u8 (x0.toNat : Int))).setCell ⟨g, o + 1, none⟩ (.int .u8 (x1.toNat : Int))).setCell ⟨g, o + 2, none⟩ (.int .u8 (x2.toNat : Int))) := H2.step x2 (by simp; omega)
    have H4 : FW w g t xs o [x0, x1, x2, x3] ((((w.setCell ⟨g, o, none⟩ (.int .u8 (x0.toNat : Int))).setCell ⟨g, o + 1, none⟩ (.int .u8 (x1.toNat : Int))).setCell ⟨g, o + 2, none⟩ (.int .u8 (x2.toNat : Int))).setCell ⟨g, o + 3, none⟩ (.int .u8 (x3.toNat : Int))) := H3.step x3 (by simp; omega)
    have H5 : FW w g t xs o [x0, x1, x2, x3, x4] (((((w.setCell ⟨g, o, none⟩ (.int .u8 (x0.toNat : Int))).setCell ⟨g, o + 1, none⟩ (.int .u8 (x1.toNat : Int))).setCell ⟨g, o + 2, none⟩ (.int .u8 (x2.toNat : Int))).setCell ⟨g, o + 3, none⟩ (.int .u8 (x3.toNat : Int))).setCell ⟨g, o + 4, none⟩ (.int .u8 (x4.toNat : Int))) := H4.step x4 (by simp; omega)
    have H6 : FW w g t xs o [x0, x1, x2, x3, x4, x5] ((((((w.setCell ⟨g, o, none⟩ (.int .u8 (x0.toNat : Int))).setCell ⟨g, o + 1, none⟩ (.int .u8 (x1.toNat : Int))).setCell ⟨g, o + 2, none⟩ (.int .u8 (x2.toNat : Int))).setCell ⟨g, o + 3, none⟩ (.int .u8 (x3.toNat : Int))).setCell ⟨g, o + 4, none⟩ (.int .u8 (x4.toNat : Int))).setCell ⟨g, o + 5, none⟩ (.int .u8 (x5.toNat : Int))) := H5.step x5 (by simp; omega)
    have H7 : FW w g t xs o [x0, x1, x2, x3, x4, x5, x6] (((((((w.setCell ⟨g, o, none⟩ (.int .u8 (x0.toNat : Int))).setCell ⟨g, o + 1, none⟩ (.int .u8 (x1.toNat : Int))).setCell ⟨g, o + 2, none⟩ (.int .u8 (x2.toNat : Int))).setCell ⟨g, o + 3, none⟩ (.int .u8 (x3.toNat : Int))).setCell ⟨g, o + 4, none⟩ (.int .u8 (x4.toNat : Int))).setCell ⟨g, o + 5, none⟩ (.int .u8 (x5.toNat : Int))).setCell ⟨g, o + 6, none⟩ (.int .u8 (x6.toNat : Int))) := H6.step x6 (by simp; omega)
    have H8 : FW w g t xs o [x0, x1, x2, x3, x4, x5, x6, x7] ((((((((w.setCell ⟨g, o, none⟩ (.int .u8 (x0.toNat : Int))).setCell ⟨g, o + 1, none⟩ (.int .u8 (x1.toNat : Int))).setCell ⟨g, o + 2, none⟩ (.int .u8 (x2.toNat : Int))).setCell ⟨g, o + 3, none⟩ (.int .u8 (x3.toNat : Int))).setCell ⟨g, o + 4, none⟩ (.int .u8 (x4.toNat : Int))).setCell ⟨g, o + 5, none⟩ (.int .u8 (x5.toNat : Int))).setCell ⟨g, o + 6, none⟩ (.int .u8 (x6.toNat : Int))).setCell ⟨g, o + 7, none⟩ (.int .u8 (x7.toNat : Int))) := H7.step x7 (by simp; omega)
    exact H8)
  clear hB H0 h0 h1 h2 h3 h4 h5 h6 h7 hc
  go_enter Tryd.func71, Tryd.ntmps71
  go_wp2
  go_end0
  refine ⟨rfl, ?_⟩
  obtain ⟨h0, h1, h2, h3, h4, h5, h6, h7⟩ := Hh.out
  rw [h0, h1, h2, h3, h4, h5, h6, h7]
  exact Hfin.out
end Go.Proofs.YtmfcgglgolajnaaDoor
