/-
  The contract of Addr.appendTo4. (Written by wip/to4a.py.)
-/
import Derived.Test.YtmfcgglgolajnaaDoorV4At
namespace Go.Proofs.YtmfcgglgolajnaaDoor
open Go.RowKit
set_option linter.unusedVariables false

theorem dotsL4 (a b c d : UInt8) (L : List UInt8) : L ++ dotsL [a, b, c, d] = ((((((L ++ decL a.toNat) ++ [46]) ++ decL b.toNat) ++ [46]) ++ decL c.toNat) ++ [46]) ++ decL d.toNat := by
  unfold dotsL; simp [joinL, List.append_assoc]
/-- The row's block is none that was made behind it. -/
theorem moved_ne {base : Nat} {bs : List UInt8} {v v' : Value} {w w0 : World} {g : Nat} (ho : Own base bs v w) (hm : Moved v v' w0) (h1 : w.heap.size ≤ g) (h2 : g < w0.heap.size) : ¬ rowOf v' g := by
  intro e
  rcases hm g e with h | h
  · have := (ho.lt g h).2; omega
  · omega

set_option maxRecDepth 100000 in
set_option maxHeartbeats 3200000 in
theorem to4a_any (base : Nat) (a b c d : UInt8) (p : Option Addr) (L0 : List UInt8) (v : Value) (w : World) (ho : Own base L0 v w) (hb : base ≤ w.heap.size) (hl0 : L0.length ≤ 900) :
    Calls Tryd.prog 64 #[addrV 0 (lo4 a b c d) p, v] w (AppR base v w (L0 ++ dotsL [a, b, c, d])) := by
  obtain ⟨i0, hi, hz0, hz1, hz2⟩ := info_parts byte_info
  have Ho := hide ho
  obtain ⟨hx0, hx1, hx2, hx3⟩ := lo4_parts a b c d
  have hlt := lo4_lt a b c d
  have H0 := hide (fun W => v4_0 (lo4 a b c d) p a W hlt hx0)
  have H1 := hide (fun W => v4_1 (lo4 a b c d) p b W hlt hx1)
  have H2 := hide (fun W => v4_2 (lo4 a b c d) p c W hlt hx2)
  have H3 := hide (fun W => v4_3 (lo4 a b c d) p d W hlt hx3)
  have Hd := hide (dotsL4 a b c d L0)
  have l0 := decL_length_le (n := a.toNat) (k := 2) (by have := a.toNat_lt; omega)
  have l1 := decL_length_le (n := b.toNat) (k := 2) (by have := b.toNat_lt; omega)
  have l2 := decL_length_le (n := c.toNat) (k := 2) (by have := c.toNat_lt; omega)
  have l3 := decL_length_le (n := d.toNat) (k := 2) (by have := d.toNat_lt; omega)
  generalize lo4 a b c d = lo at *
  clear hx0 hx1 hx2 hx3 hlt ho
  unfold addrV at *
  rw [show ((0 : Nat) : Int) = (0 : Int) from rfl] at *
  go_enter Tryd.func64, Tryd.ntmps64
  go_wp2_with fail
  generalize hW : w.alloc (.cells #[.int .u64 0, .int .u64 (lo : Int), .pointer p] 89) = w0 at *
  have hbx : Blk w0 w.heap.size 89 [.int .u64 0, .int .u64 (lo : Int), .pointer p] := by rw [← hW]; exact Blk.new w _ _
  have hsz : w0.heap.size = w.heap.size + 1 := by rw [← hW]; simp
  have Hbx := hide hbx
  have Hg0 : Hid (Grew v w w0) := hide (by rw [← hW]; exact Grew.of_below ((Below.refl _ _).alloc (Nat.le_refl _) _))
  have Ho0 : Hid (Own base L0 v w0) := hide (by rw [← hW]; exact Ho.out.alloc _)
  have Gr0 := hide (Grew.refl v w0)
  have Mo0 := hide (Moved.refl v w0)
  have Hb0 : Hid (base ≤ w0.heap.size) := hide (by omega)
  clear hW hbx
  with_reducible refine (H0.out w0).mono ?_
  rintro e w1 ⟨rfl, hb1⟩
  have Ho1 := hide (Ho0.out.below hb1)
  have Gr1 := hide (Gr0.out.trans (Moved.refl v w0) (Grew.of_below (v := v) hb1))
  have Mo1 : Hid (Moved v v w0) := hide Mo0.out
  have Hb1 : Hid (base ≤ w1.heap.size) := hide (Nat.le_trans Hb0.out hb1.size)
  have Hap := hide (appDec_any base a L0 v w1 Ho1.out Hb1.out (by omega))
  clear hb1
  go_wp2_with fail
  with_reducible refine Hap.out.mono ?_
  rintro e w2 ⟨v2, rfl, y1, y2, y3⟩
  obtain ⟨L2, hL2⟩ : ∃ L, L = L0 ++ decL a.toNat := ⟨_, rfl⟩
  have hl2 : L2.length ≤ 903 := by rw [hL2, List.length_append]; omega
  rw [← hL2] at y1
  have HL2 := hide hL2
  have Ho2 := hide y1
  have Mo2 := hide (Mo1.out.trans y3 Gr1.out.kept.1)
  have Gr2 := hide (Gr1.out.trans Mo1.out y2)
  have Hb2 : Hid (base ≤ w2.heap.size) := hide (Nat.le_trans Hb1.out y2.kept.1)
  clear y1 y2 y3 hL2 hl0 Hap
  have Ha2 := hide (Ho2.out.alloc (.cells #[.int .u8 46] 5))
  have hw2 : base ≤ w2.heap.size := Hb2.out
  go_wp2_with (at_builtin; refine wpList_append_rd _ rfl (.tmp 9) (.tmp 10) _ rfl base 5 i0 _ 1 Tryd.underlying22 hi hz0 hz1 hz2 rfl _ L2.length _ rfl Ha2.out no (some ⟨w2.heap.size, 0, none⟩) 1 1 [.int .u8 46] rfl ?p1 ?p2 ?p3 ?p4 ?p5 ?_)
  case p1 => exact Rd.one w2 _ _ no (fun h => h)
  case p2 => first | rfl | (intro u hu; simp at hu; subst hu; rfl)
  case p3 => unfold maxLen; omega
  case p4 => omega
  case p5 => first | omega | (simp; omega)
  intro v3 w3 y1 y2 y3
  obtain ⟨z1, z2, z3⟩ := push_step (x := 46) y1 y2 y3
  obtain ⟨L3, hL3⟩ : ∃ L, L = L2 ++ [(46 : UInt8)] := ⟨_, rfl⟩
  have hl3 : L3.length ≤ 904 := by rw [hL3, List.length_append]; simp; omega
  rw [← hL3] at z1
  have HL3 := hide hL3
  have Ho3 := hide z1
  have Mo3 := hide (Mo2.out.trans z3 Gr2.out.kept.1)
  have Gr3 := hide (Gr2.out.trans Mo2.out z2)
  have Hb3 : Hid (base ≤ w3.heap.size) := hide (Nat.le_trans Hb2.out z2.kept.1)
  clear y1 y2 y3 z1 z2 z3 Ha2 hw2 hL3 hl2
  have hbk3 := Gr3.out.blk Hbx.out (moved_ne Ho.out (Moved.refl v w0) (Nat.le_refl _) (by omega))
  have c0 : w3.cell? ⟨w.heap.size, 0, none⟩ = some (.int .u64 0) := hbk3.cell 0
  have c1 : w3.cell? ⟨w.heap.size, 1, none⟩ = some (.int .u64 (lo : Int)) := hbk3.cell 1
  have c2 : w3.cell? ⟨w.heap.size, 2, none⟩ = some (.pointer p) := hbk3.cell 2
  clear hbk3
  go_wp2_with fail
  with_reducible refine (H1.out w3).mono ?_
  rintro e w4 ⟨rfl, hb4⟩
  have Ho4 := hide (Ho3.out.below hb4)
  have Gr4 := hide (Gr3.out.trans (Moved.refl v w0) (Grew.of_below (v := v) hb4))
  have Mo4 : Hid (Moved v v3 w0) := hide Mo3.out
  have Hb4 : Hid (base ≤ w4.heap.size) := hide (Nat.le_trans Hb3.out hb4.size)
  have Hap := hide (appDec_any base b L3 v3 w4 Ho4.out Hb4.out (by omega))
  clear hb4 c0 c1 c2
  go_wp2_with fail
  with_reducible refine Hap.out.mono ?_
  rintro e w5 ⟨v5, rfl, y1, y2, y3⟩
  obtain ⟨L5, hL5⟩ : ∃ L, L = L3 ++ decL b.toNat := ⟨_, rfl⟩
  have hl5 : L5.length ≤ 907 := by rw [hL5, List.length_append]; omega
  rw [← hL5] at y1
  have HL5 := hide hL5
  have Ho5 := hide y1
  have Mo5 := hide (Mo4.out.trans y3 Gr4.out.kept.1)
  have Gr5 := hide (Gr4.out.trans Mo4.out y2)
  have Hb5 : Hid (base ≤ w5.heap.size) := hide (Nat.le_trans Hb4.out y2.kept.1)
  clear y1 y2 y3 hL5 hl3 Hap
  have Ha5 := hide (Ho5.out.alloc (.cells #[.int .u8 46] 5))
  have hw5 : base ≤ w5.heap.size := Hb5.out
  go_wp2_with (at_builtin; refine wpList_append_rd _ rfl (.tmp 16) (.tmp 17) _ rfl base 5 i0 _ 1 Tryd.underlying22 hi hz0 hz1 hz2 rfl _ L5.length _ rfl Ha5.out no (some ⟨w5.heap.size, 0, none⟩) 1 1 [.int .u8 46] rfl ?p1 ?p2 ?p3 ?p4 ?p5 ?_)
  case p1 => exact Rd.one w5 _ _ no (fun h => h)
  case p2 => first | rfl | (intro u hu; simp at hu; subst hu; rfl)
  case p3 => unfold maxLen; omega
  case p4 => omega
  case p5 => first | omega | (simp; omega)
  intro v6 w6 y1 y2 y3
  obtain ⟨z1, z2, z3⟩ := push_step (x := 46) y1 y2 y3
  obtain ⟨L6, hL6⟩ : ∃ L, L = L5 ++ [(46 : UInt8)] := ⟨_, rfl⟩
  have hl6 : L6.length ≤ 908 := by rw [hL6, List.length_append]; simp; omega
  rw [← hL6] at z1
  have HL6 := hide hL6
  have Ho6 := hide z1
  have Mo6 := hide (Mo5.out.trans z3 Gr5.out.kept.1)
  have Gr6 := hide (Gr5.out.trans Mo5.out z2)
  have Hb6 : Hid (base ≤ w6.heap.size) := hide (Nat.le_trans Hb5.out z2.kept.1)
  clear y1 y2 y3 z1 z2 z3 Ha5 hw5 hL6 hl5
  have hbk6 := Gr6.out.blk Hbx.out (moved_ne Ho.out (Moved.refl v w0) (Nat.le_refl _) (by omega))
  have c0 : w6.cell? ⟨w.heap.size, 0, none⟩ = some (.int .u64 0) := hbk6.cell 0
  have c1 : w6.cell? ⟨w.heap.size, 1, none⟩ = some (.int .u64 (lo : Int)) := hbk6.cell 1
  have c2 : w6.cell? ⟨w.heap.size, 2, none⟩ = some (.pointer p) := hbk6.cell 2
  clear hbk6
  go_wp2_with fail
  with_reducible refine (H2.out w6).mono ?_
  rintro e w7 ⟨rfl, hb7⟩
  have Ho7 := hide (Ho6.out.below hb7)
  have Gr7 := hide (Gr6.out.trans (Moved.refl v w0) (Grew.of_below (v := v) hb7))
  have Mo7 : Hid (Moved v v6 w0) := hide Mo6.out
  have Hb7 : Hid (base ≤ w7.heap.size) := hide (Nat.le_trans Hb6.out hb7.size)
  have Hap := hide (appDec_any base c L6 v6 w7 Ho7.out Hb7.out (by omega))
  clear hb7 c0 c1 c2
  go_wp2_with fail
  with_reducible refine Hap.out.mono ?_
  rintro e w8 ⟨v8, rfl, y1, y2, y3⟩
  obtain ⟨L8, hL8⟩ : ∃ L, L = L6 ++ decL c.toNat := ⟨_, rfl⟩
  have hl8 : L8.length ≤ 911 := by rw [hL8, List.length_append]; omega
  rw [← hL8] at y1
  have HL8 := hide hL8
  have Ho8 := hide y1
  have Mo8 := hide (Mo7.out.trans y3 Gr7.out.kept.1)
  have Gr8 := hide (Gr7.out.trans Mo7.out y2)
  have Hb8 : Hid (base ≤ w8.heap.size) := hide (Nat.le_trans Hb7.out y2.kept.1)
  clear y1 y2 y3 hL8 hl6 Hap
  have Ha8 := hide (Ho8.out.alloc (.cells #[.int .u8 46] 5))
  have hw8 : base ≤ w8.heap.size := Hb8.out
  go_wp2_with (at_builtin; refine wpList_append_rd _ rfl (.tmp 23) (.tmp 24) _ rfl base 5 i0 _ 1 Tryd.underlying22 hi hz0 hz1 hz2 rfl _ L8.length _ rfl Ha8.out no (some ⟨w8.heap.size, 0, none⟩) 1 1 [.int .u8 46] rfl ?p1 ?p2 ?p3 ?p4 ?p5 ?_)
  case p1 => exact Rd.one w8 _ _ no (fun h => h)
  case p2 => first | rfl | (intro u hu; simp at hu; subst hu; rfl)
  case p3 => unfold maxLen; omega
  case p4 => omega
  case p5 => first | omega | (simp; omega)
  intro v9 w9 y1 y2 y3
  obtain ⟨z1, z2, z3⟩ := push_step (x := 46) y1 y2 y3
  obtain ⟨L9, hL9⟩ : ∃ L, L = L8 ++ [(46 : UInt8)] := ⟨_, rfl⟩
  have hl9 : L9.length ≤ 912 := by rw [hL9, List.length_append]; simp; omega
  rw [← hL9] at z1
  have HL9 := hide hL9
  have Ho9 := hide z1
  have Mo9 := hide (Mo8.out.trans z3 Gr8.out.kept.1)
  have Gr9 := hide (Gr8.out.trans Mo8.out z2)
  have Hb9 : Hid (base ≤ w9.heap.size) := hide (Nat.le_trans Hb8.out z2.kept.1)
  clear y1 y2 y3 z1 z2 z3 Ha8 hw8 hL9 hl8
  have hbk9 := Gr9.out.blk Hbx.out (moved_ne Ho.out (Moved.refl v w0) (Nat.le_refl _) (by omega))
  have c0 : w9.cell? ⟨w.heap.size, 0, none⟩ = some (.int .u64 0) := hbk9.cell 0
  have c1 : w9.cell? ⟨w.heap.size, 1, none⟩ = some (.int .u64 (lo : Int)) := hbk9.cell 1
  have c2 : w9.cell? ⟨w.heap.size, 2, none⟩ = some (.pointer p) := hbk9.cell 2
  clear hbk9
  go_wp2_with fail
  with_reducible refine (H3.out w9).mono ?_
  rintro e w10 ⟨rfl, hb10⟩
  have Ho10 := hide (Ho9.out.below hb10)
  have Gr10 := hide (Gr9.out.trans (Moved.refl v w0) (Grew.of_below (v := v) hb10))
  have Mo10 : Hid (Moved v v9 w0) := hide Mo9.out
  have Hb10 : Hid (base ≤ w10.heap.size) := hide (Nat.le_trans Hb9.out hb10.size)
  have Hap := hide (appDec_any base d L9 v9 w10 Ho10.out Hb10.out (by omega))
  clear hb10 c0 c1 c2
  go_wp2_with fail
  with_reducible refine Hap.out.mono ?_
  rintro e w11 ⟨v11, rfl, y1, y2, y3⟩
  obtain ⟨L11, hL11⟩ : ∃ L, L = L9 ++ decL d.toNat := ⟨_, rfl⟩
  have hl11 : L11.length ≤ 915 := by rw [hL11, List.length_append]; omega
  rw [← hL11] at y1
  have HL11 := hide hL11
  have Ho11 := hide y1
  have Mo11 := hide (Mo10.out.trans y3 Gr10.out.kept.1)
  have Gr11 := hide (Gr10.out.trans Mo10.out y2)
  have Hb11 : Hid (base ≤ w11.heap.size) := hide (Nat.le_trans Hb10.out y2.kept.1)
  clear y1 y2 y3 hL11 hl9 Hap
  go_wp2_with fail
  go_ret
  refine ⟨v11, rfl, ?_, Hg0.out.trans (Moved.refl v w) Gr11.out, ?_⟩
  · rw [Hd.out, ← HL2.out, ← HL3.out, ← HL5.out, ← HL6.out, ← HL8.out, ← HL9.out, ← HL11.out]; exact Ho11.out
  · intro g hg
    rcases Mo11.out g hg with h | h
    · exact Or.inl h
    · exact Or.inr (by omega)
end Go.Proofs.YtmfcgglgolajnaaDoor
