/-
  The contract of IP.String at addresses of 4 or 16 bytes.
-/
import Derived.Test.YtmfcgglgolajnaaDoorIPA
import Derived.Test.YtmfcgglgolajnaaDoorFormBytes
namespace Go.Proofs.YtmfcgglgolajnaaDoor
open Go.RowKit
set_option linter.unusedVariables false

theorem own_made (w : World) (cs : Array Value) (n : Nat) (hn : n ≤ 100) (hs : cs.size = n) : Own w.heap.size [] (.slice (some ⟨w.heap.size, 0, none⟩) 0 n) (w.alloc (.cells cs 5)) :=
  World.ownsRow_made (base := w.heap.size) (e := 5) (size := 1) w cs n (Nat.le_refl _) (by unfold maxLen; omega) (by omega)
/-- A row of the call's own as a slice that reads as its bytes. -/
theorem Own.rb {base : Nat} {bs : List UInt8} {v : Value} {w : World} (h : Own base bs v w) : ∃ A c, v = .slice A bs.length c ∧ RB w no A bs.length c bs := RB.of_own h

theorem mk4 (w : World) : (Instr.makeSlice 22 (.int .i64 0) (.int .i64 15)).run Tryd.prog w = .ok (.slice (some ⟨w.heap.size, 0, none⟩) 0 15) (w.alloc (.cells (List.replicate 15 (.int .u8 0)).toArray 5)) := by kernel_rfl
theorem mk16 (w : World) : (Instr.makeSlice 22 (.int .i64 0) (.int .i64 39)).run Tryd.prog w = .ok (.slice (some ⟨w.heap.size, 0, none⟩) 0 39) (w.alloc (.cells (List.replicate 39 (.int .u8 0)).toArray 5)) := by kernel_rfl

set_option maxRecDepth 100000 in
set_option maxHeartbeats 1600000 in
theorem ipString_of (A : Option Addr) (n c : Nat) (tx : List UInt8) (w : World) (hn : n = 4 ∨ n = 16) (hl : tx.length ≤ 600)
    (hc : ∀ (W : World) (k : Nat), Below w.heap.size w W → Own w.heap.size [] (.slice (some ⟨w.heap.size, 0, none⟩) 0 k) W → Calls Tryd.prog 46 #[.slice A n c, .slice (some ⟨w.heap.size, 0, none⟩) 0 k] W (AppR w.heap.size (.slice (some ⟨w.heap.size, 0, none⟩) 0 k) W tx)) :
    Calls Tryd.prog 36 #[.slice A n c] w fun e w' => e = .returned (.string ⟨tx.toArray⟩) ∧ Below w.heap.size w w' := by
  have Hc := hide hc
  have hB : Hid (∀ ob, Below w.heap.size w (w.alloc ob)) := hide (fun ob => (Below.refl _ _).alloc (Nat.le_refl _) _)
  have m4 := mk4
  have m16 := mk16
  have o4 := own_made w (List.replicate 15 (.int .u8 0)).toArray 15 (by omega) (by simp)
  have o16 := own_made w (List.replicate 39 (.int .u8 0)).toArray 39 (by omega) (by simp)
  clear hc
  rcases hn with rfl | rfl
  · have H4 := hide (Hc.out _ 15 (hB.out _) o4)
    have Hob := hide o4
    clear o4 o16 Hc
    generalize (List.replicate 15 (Value.int .u8 0)).toArray = cs at *
    go_enter Tryd.func36, Tryd.ntmps36
    go_wp2_with fail
    with_reducible refine H4.out.mono ?_
    rintro e w1 ⟨v', rfl, y1, y2, y3⟩
    have hbel : Below w.heap.size w w1 := (hB.out _).trans (y2.below Hob.out (by simp))
    obtain ⟨A1, c1, rfl, hr⟩ := y1.rb
    have hrun := run_string_rb (P := Tryd.prog) 22 9 5 Tryd.underlying22 Tryd.underlying5 Tryd.underlying9 hr
    have Hbel := hide hbel
    clear y1 y2 y3 hbel hr H4 Hob
    go_wp2_with fail
    go_ret
    exact ⟨rfl, Hbel.out⟩
  · have H4 := hide (Hc.out _ 39 (hB.out _) o16)
    have Hob := hide o16
    clear o4 o16 Hc
    generalize (List.replicate 39 (Value.int .u8 0)).toArray = cs at *
    go_enter Tryd.func36, Tryd.ntmps36
    go_wp2_with fail
    with_reducible refine H4.out.mono ?_
    rintro e w1 ⟨v', rfl, y1, y2, y3⟩
    have hbel : Below w.heap.size w w1 := (hB.out _).trans (y2.below Hob.out (by simp))
    obtain ⟨A1, c1, rfl, hr⟩ := y1.rb
    have hrun := run_string_rb (P := Tryd.prog) 22 9 5 Tryd.underlying22 Tryd.underlying5 Tryd.underlying9 hr
    have Hbel := hide hbel
    clear y1 y2 y3 hbel hr H4 Hob
    go_wp2_with fail
    go_ret
    exact ⟨rfl, Hbel.out⟩

theorem dotsL_len4 (a b c d : UInt8) : (dotsL [a, b, c, d]).length ≤ 15 := by
  have l0 := decL_length_le (n := a.toNat) (k := 2) (by have := a.toNat_lt; omega)
  have l1 := decL_length_le (n := b.toNat) (k := 2) (by have := b.toNat_lt; omega)
  have l2 := decL_length_le (n := c.toNat) (k := 2) (by have := c.toNat_lt; omega)
  have l3 := decL_length_le (n := d.toNat) (k := 2) (by have := d.toNat_lt; omega)
  have := congrArg List.length (dotsL4 a b c d [])
  simp only [List.nil_append, List.length_append, List.length_cons, List.length_nil] at this
  omega

theorem ipString_any (A : Option Addr) (n c : Nat) (b : List UInt8) (w : World) (av : Nat → Prop) (g4 o4 g6 o6 : Nat) (hz : ZX w g4 o4 g6 o6) (ha : RB w av A n c b) (hn : n = 4 ∨ n = 16) :
    Calls Tryd.prog 36 #[.slice A n c] w fun e w' => e = .returned (.string ⟨(ipText b).toArray⟩) ∧ Below w.heap.size w w' := by
  have hcap := ha.cap
  have h6 : 4 < w.heap.size := World.block_lt_of_cell? _ _ hz.z.z6
  rcases hn with rfl | rfl
  · obtain ⟨x0, x1, x2, x3, rfl⟩ : ∃ x0 x1 x2 x3, b = [x0, x1, x2, x3] := by
      match b, ha.len with
      | [x0, x1, x2, x3], _ => exact ⟨x0, x1, x2, x3, rfl⟩
    obtain ⟨g, o, _, rfl, _, _⟩ := ha.at_ (k := 0) (by omega)
    have ht : ipText [x0, x1, x2, x3] = dotsL [x0, x1, x2, x3] := by unfold ipText; rw [if_pos (by simp)]
    rw [ht]
    refine ipString_of _ 4 c _ w (Or.inl rfl) (by have := dotsL_len4 x0 x1 x2 x3; omega) fun W k hW hO => ?_
    have hr := ha.below hW
    have := ipApp4_any w.heap.size g o c x0 x1 x2 x3 [] _ W g4 o4 g6 o6 (hz.below hW) hO hW.size (by simp) (.slice (some ⟨g, o, none⟩) 4 c) (to4_four _ c W) hcap (hr.cell_at (k := 0) rfl) (hr.cell_at (k := 1) rfl) (hr.cell_at (k := 2) rfl) (hr.cell_at (k := 3) rfl)
    exact this
  · obtain ⟨x0, x1, x2, x3, x4, x5, x6, x7, x8, x9, x10, x11, x12, x13, x14, x15, rfl⟩ : ∃ x0 x1 x2 x3 x4 x5 x6 x7 x8 x9 x10 x11 x12 x13 x14 x15, b = [x0, x1, x2, x3, x4, x5, x6, x7, x8, x9, x10, x11, x12, x13, x14, x15] := by
      match b, ha.len with
      | [x0, x1, x2, x3, x4, x5, x6, x7, x8, x9, x10, x11, x12, x13, x14, x15], _ => exact ⟨x0, x1, x2, x3, x4, x5, x6, x7, x8, x9, x10, x11, x12, x13, x14, x15, rfl⟩
    obtain ⟨g, o, _, rfl, _, _⟩ := ha.at_ (k := 0) (by omega)
    by_cases hm : mapd [x0, x1, x2, x3, x4, x5, x6, x7, x8, x9, x10, x11, x12, x13, x14, x15] = true
    · have ht : ipText [x0, x1, x2, x3, x4, x5, x6, x7, x8, x9, x10, x11, x12, x13, x14, x15] = dotsL [x12, x13, x14, x15] := by unfold ipText; rw [if_neg (by simp), if_pos hm]; rfl
      rw [ht]
      refine ipString_of _ 16 c _ w (Or.inr rfl) (by have := dotsL_len4 x12 x13 x14 x15; omega) fun W k hW hO => ?_
      have hr := ha.below hW
      have := ipApp4_any w.heap.size g (o + 12) (c - 12) x12 x13 x14 x15 [] _ W g4 o4 g6 o6 (hz.below hW) hO hW.size (by simp) (.slice (some ⟨g, o, none⟩) 16 c) (to4_mapped g o c _ W av hr hm) (by omega) (hr.cell_at (k := 12) rfl) (hr.cell_at (k := 13) rfl) (hr.cell_at (k := 14) rfl) (hr.cell_at (k := 15) rfl)
      exact this
    · have hm' : mapd [x0, x1, x2, x3, x4, x5, x6, x7, x8, x9, x10, x11, x12, x13, x14, x15] = false := by simpa using hm
      have ht : ipText [x0, x1, x2, x3, x4, x5, x6, x7, x8, x9, x10, x11, x12, x13, x14, x15] = txt6 (grpN [x0, x1, x2, x3, x4, x5, x6, x7, x8, x9, x10, x11, x12, x13, x14, x15]) := by unfold ipText; rw [if_neg (by simp), if_neg hm]
      rw [ht]
      refine ipString_of _ 16 c _ w (Or.inr rfl) (by have := txt6_len (grpN [x0, x1, x2, x3, x4, x5, x6, x7, x8, x9, x10, x11, x12, x13, x14, x15]) (grpN_lt _); omega) fun W k hW hO => ?_
      have hr := ha.below hW
      have := ipApp6_any w.heap.size g o c x0 x1 x2 x3 x4 x5 x6 x7 x8 x9 x10 x11 x12 x13 x14 x15 [] _ W av g4 o4 g6 o6 (hz.below hW) h6 hO hW.size (by simp) hr hm'
      exact this
end Go.Proofs.YtmfcgglgolajnaaDoor
