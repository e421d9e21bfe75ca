/-
  The contracts of Addr.AppendTo, IP.appendTo and IP.String at addresses of 4 or 16 bytes.
-/
import Derived.Test.YtmfcgglgolajnaaDoorFrom
import Derived.Test.YtmfcgglgolajnaaDoorStrs
namespace Go.Proofs.YtmfcgglgolajnaaDoor
open Go.RowKit
set_option linter.unusedVariables false

theorem AppR.pre {base : Nat} {v : Value} {w w0 w' : World} {bs : List UInt8} {e : Ending} (hb : Below w.heap.size w w0) (h : AppR base v w0 bs e w') : AppR base v w bs e w' := by
  obtain ⟨v', rfl, h1, h2, h3⟩ := h
  refine ⟨v', rfl, h1, (Grew.of_below hb).trans (Moved.refl v w) h2, fun g hg => ?_⟩
  rcases h3 g hg with h | h
  · exact Or.inl h
  · exact Or.inr (Nat.le_trans hb.size h)

set_option maxRecDepth 100000 in
set_option maxHeartbeats 1600000 in
theorem appTo4_any (base : Nat) (a b c d : UInt8) (L0 : List UInt8) (v : Value) (w : World) (g4 o4 g6 o6 : Nat) (hz : ZX w g4 o4 g6 o6) (ho : Own base L0 v w) (hb : base ≤ w.heap.size) (hl0 : L0.length ≤ 500) :
    Calls Tryd.prog 57 #[addrV 0 (lo4 a b c d) (some ⟨g4, o4, none⟩), v] w (AppR base v w (L0 ++ dotsL [a, b, c, d])) := by
  have q0 := run_eq_nil g4 o4
  have q4 := run_same g4 o4
  have k0 := fun ob => (hz.alloc ob).z.z0
  have k4 := fun ob => (hz.alloc ob).z.z4
  have Hc := hide (fun ob => to4a_any base a b c d (some ⟨g4, o4, none⟩) L0 v (w.alloc ob) (ho.alloc ob) (Nat.le_trans hb (by simp)) (by omega))
  have hB : Hid (∀ o1, Below w.heap.size w (w.alloc o1)) := hide (fun o1 => (Below.refl _ _).alloc (Nat.le_refl _) _)
  generalize lo4 a b c d = lo at *
  clear hz ho
  unfold addrV at *
  rw [show ((0 : Nat) : Int) = (0 : Int) from rfl] at *
  go_enter Tryd.func57, Tryd.ntmps57
  go_wp2_with fail
  refine (Hc.out _).mono ?_
  intro e w1 h1
  have h2 := AppR.pre (hB.out _) h1
  obtain ⟨v', rfl, y1, y2, y3⟩ := h2
  have Hy := hide (⟨y1, y2, y3⟩ : _ ∧ _ ∧ _)
  clear h1 y1 y2 y3 Hc
  go_wp2_with fail
  go_ret
  exact ⟨v', rfl, Hy.out.1, Hy.out.2.1, Hy.out.2.2⟩

set_option maxRecDepth 100000 in
set_option maxHeartbeats 1600000 in
theorem appTo6_any (base : Nat) (bs : List UInt8) (L0 : List UInt8) (v : Value) (w : World) (g4 o4 g6 o6 : Nat) (hz : ZX w g4 o4 g6 o6) (hb6 : 4 < base) (ho : Own base L0 v w) (hb : base ≤ w.heap.size) (hl0 : L0.length ≤ 500) (hno : ¬ (hi6 bs = 0 ∧ lo6 bs / 4294967296 = 65535)) :
    Calls Tryd.prog 57 #[addrV (hi6 bs) (lo6 bs) (some ⟨g6, o6, none⟩), v] w (AppR base v w (L0 ++ txt6 (grpN bs))) := by
  have q0 := run_eq_nil g6 o6
  have q4 := fun ob => (hz.alloc ob).eq46
  have k0 := fun ob => (hz.alloc ob).z.z0
  have k4 := fun ob => (hz.alloc ob).z.z4
  have Hi := hide (fun W hW => is4in6_any (hi6 bs) (lo6 bs) W g4 o4 g6 o6 (hz.below hW) hno (num8_lt ..))
  have Hc := hide (fun W (hW : Below w.heap.size w W) => to6a_any base bs L0 v W g4 o4 g6 o6 (hz.below hW) hb6 (ho.below hW) (Nat.le_trans hb hW.size) hl0)
  have hB : Hid (∀ o1, Below w.heap.size w (w.alloc o1)) := hide (fun o1 => (Below.refl _ _).alloc (Nat.le_refl _) _)
  generalize hi6 bs = hh at *
  generalize lo6 bs = ll at *
  generalize txt6 (grpN bs) = tx at *
  clear hz ho
  unfold addrV at *
  go_enter Tryd.func57, Tryd.ntmps57
  go_wp2_with fail
  refine (Hi.out _ (hB.out _)).mono ?_
  rintro e w1 ⟨rfl, hb1⟩
  have hbw1 := (hB.out _).trans (hb1.mono (hB.out _).size)
  have hbk := (Blk.new w 89 [.int .u64 (hh : Int), .int .u64 (ll : Int), .pointer (some ⟨g6, o6, none⟩)]).below hb1
  have c0 : w1.cell? ⟨w.heap.size, 0, none⟩ = some (.int .u64 (hh : Int)) := hbk.cell 0
  have c1 : w1.cell? ⟨w.heap.size, 1, none⟩ = some (.int .u64 (ll : Int)) := hbk.cell 1
  have c2 : w1.cell? ⟨w.heap.size, 2, none⟩ = some (.pointer (some ⟨g6, o6, none⟩)) := hbk.cell 2
  have Hbw1 := hide hbw1
  have Hc1 := hide (Hc.out w1 hbw1)
  clear hb1 hbw1 hbk Hi Hc q4 k0 k4
  go_wp2_with fail
  with_reducible refine Hc1.out.mono ?_
  intro e w2 h1
  have h2 := AppR.pre Hbw1.out h1
  obtain ⟨v', rfl, y1, y2, y3⟩ := h2
  have Hy := hide (⟨y1, y2, y3⟩ : _ ∧ _ ∧ _)
  clear h1 y1 y2 y3 Hc1
  go_wp2_with fail
  go_ret
  exact ⟨v', rfl, Hy.out.1, Hy.out.2.1, Hy.out.2.2⟩

/-- The text of an address of 4 or 16 bytes. -/
def ipText (b : List UInt8) : List UInt8 := if b.length = 4 then dotsL b else if mapd b = true then dotsL (b.drop 12) else txt6 (grpN b)

/-- A cell of a slice of bytes. -/
theorem RB.cell_at {w : World} {av : Nat → Prop} {g o n c k : Nat} {bs : List UInt8} {x : UInt8} (h : RB w av (some ⟨g, o, none⟩) n c bs) (hk : bs[k]? = some x) : w.cell? ⟨g, o + k, none⟩ = some (.int .u8 (x.toNat : Int)) := by
  have hlt : k < n := by have := (List.getElem?_eq_some_iff.1 hk).1; rw [h.len] at this; exact this
  obtain ⟨q, p, u, e, f, l⟩ := h.at_ hlt
  injection e with e
  injection e with e e'
  subst e e'
  rw [hk] at f
  injection f with f
  subst f
  exact l

set_option maxRecDepth 100000 in
set_option maxHeartbeats 1600000 in
theorem ipApp4_any (base g o c : Nat) (x0 x1 x2 x3 : UInt8) (L0 : List UInt8) (v : Value) (w : World) (g4 o4 g6 o6 : Nat) (hz : ZX w g4 o4 g6 o6) (ho : Own base L0 v w) (hb : base ≤ w.heap.size) (hl0 : L0.length ≤ 500) (ip : Value)
    (hto : Calls Tryd.prog 42 #[ip] w fun e w' => e = .returned (.slice (some ⟨g, o, none⟩) 4 c) ∧ w = w') (hcap : 4 ≤ c)
    (c0 : w.cell? ⟨g, o, none⟩ = some (.int .u8 (x0.toNat : Int))) (c1 : w.cell? ⟨g, o + 1, none⟩ = some (.int .u8 (x1.toNat : Int))) (c2 : w.cell? ⟨g, o + 2, none⟩ = some (.int .u8 (x2.toNat : Int))) (c3 : w.cell? ⟨g, o + 3, none⟩ = some (.int .u8 (x3.toNat : Int))) :
    Calls Tryd.prog 46 #[ip, v] w (AppR base v w (L0 ++ dotsL [x0, x1, x2, x3])) := by
  have Ht := hide hto
  have Hf := hide (fromSlice4_any g o c x0 x1 x2 x3 w g4 o4 g6 o6 hz c0 c1 c2 c3)
  have Ha := hide (fun W (hW : Below w.heap.size w W) => appTo4_any base x0 x1 x2 x3 L0 v W g4 o4 g6 o6 (hz.below hW) (ho.below hW) (Nat.le_trans hb hW.size) hl0)
  generalize lo4 x0 x1 x2 x3 = lo at *
  generalize L0 ++ dotsL [x0, x1, x2, x3] = tx at *
  clear hto hz ho c0 c1 c2 c3
  unfold addrV at *
  go_enter Tryd.func46, Tryd.ntmps46
  go_wp2_with fail
  with_reducible refine Ht.out.mono ?_
  rintro e w' ⟨rfl, rfl⟩
  go_wp2_with fail
  with_reducible refine Hf.out.mono ?_
  rintro e w1 ⟨rfl, hb1⟩
  have Hal : Hid (∀ ob, Below w.heap.size w (w1.alloc ob)) := hide (fun ob => hb1.alloc hb1.size ob)
  have Hc := hide (fun ob => Ha.out (w1.alloc ob) (Hal.out ob))
  clear hb1 Hf Ha Ht
  go_wp2_with fail
  refine (Hc.out _).mono ?_
  intro e w2 h1
  have h2 := AppR.pre (Hal.out _) h1
  obtain ⟨v', rfl, y1, y2, y3⟩ := h2
  have Hy := hide (⟨y1, y2, y3⟩ : _ ∧ _ ∧ _)
  clear h1 y1 y2 y3 Hc
  go_wp2_with fail
  go_ret
  exact ⟨v', rfl, Hy.out.1, Hy.out.2.1, Hy.out.2.2⟩

set_option maxRecDepth 100000 in
set_option maxHeartbeats 1600000 in
theorem ipApp6_any (base g o c : Nat) (x0 x1 x2 x3 x4 x5 x6 x7 x8 x9 x10 x11 x12 x13 x14 x15 : UInt8) (L0 : List UInt8) (v : Value) (w : World) (av : Nat → Prop) (g4 o4 g6 o6 : Nat) (hz : ZX w g4 o4 g6 o6) (hb6 : 4 < base) (ho : Own base L0 v w) (hb : base ≤ w.heap.size) (hl0 : L0.length ≤ 500)
    (ha : RB w av (some ⟨g, o, none⟩) 16 c [x0, x1, x2, x3, x4, x5, x6, x7, x8, x9, x10, x11, x12, x13, x14, x15]) (hm : mapd [x0, x1, x2, x3, x4, x5, x6, x7, x8, x9, x10, x11, x12, x13, x14, x15] = false) :
    Calls Tryd.prog 46 #[.slice (some ⟨g, o, none⟩) 16 c, v] w (AppR base v w (L0 ++ txt6 (grpN [x0, x1, x2, x3, x4, x5, x6, x7, x8, x9, x10, x11, x12, x13, x14, x15]))) := by
  have Ht := hide (to4_six (some ⟨g, o, none⟩) c _ w av ha hm)
  have Hf := hide (fromSlice16_any g o c x0 x1 x2 x3 x4 x5 x6 x7 x8 x9 x10 x11 x12 x13 x14 x15 w g4 o4 g6 o6 hz (ha.cell_at (k := 0) rfl) (ha.cell_at (k := 1) rfl) (ha.cell_at (k := 2) rfl) (ha.cell_at (k := 3) rfl) (ha.cell_at (k := 4) rfl) (ha.cell_at (k := 5) rfl) (ha.cell_at (k := 6) rfl) (ha.cell_at (k := 7) rfl) (ha.cell_at (k := 8) rfl) (ha.cell_at (k := 9) rfl) (ha.cell_at (k := 10) rfl) (ha.cell_at (k := 11) rfl) (ha.cell_at (k := 12) rfl) (ha.cell_at (k := 13) rfl) (ha.cell_at (k := 14) rfl) (ha.cell_at (k := 15) rfl))
  have Ha := hide (fun W (hW : Below w.heap.size w W) => appTo6_any base [x0, x1, x2, x3, x4, x5, x6, x7, x8, x9, x10, x11, x12, x13, x14, x15] L0 v W g4 o4 g6 o6 (hz.below hW) hb6 (ho.below hW) (Nat.le_trans hb hW.size) hl0 (map6 x0 x1 x2 x3 x4 x5 x6 x7 x8 x9 x10 x11 x12 x13 x14 x15 hm))
  rw [show hi6 [x0, x1, x2, x3, x4, x5, x6, x7, x8, x9, x10, x11, x12, x13, x14, x15] = num8 x0 x1 x2 x3 x4 x5 x6 x7 from rfl, show lo6 [x0, x1, x2, x3, x4, x5, x6, x7, x8, x9, x10, x11, x12, x13, x14, x15] = num8 x8 x9 x10 x11 x12 x13 x14 x15 from rfl] at Ha
  generalize num8 x0 x1 x2 x3 x4 x5 x6 x7 = hh at *
  generalize num8 x8 x9 x10 x11 x12 x13 x14 x15 = ll at *
  generalize L0 ++ txt6 (grpN [x0, x1, x2, x3, x4, x5, x6, x7, x8, x9, x10, x11, x12, x13, x14, x15]) = tx at *
  clear hz ho ha hm
  unfold addrV at *
  go_enter Tryd.func46, Tryd.ntmps46
  go_wp2_with fail
  with_reducible refine Ht.out.mono ?_
  rintro e w' ⟨rfl, rfl⟩
  go_wp2_with fail
  with_reducible refine Hf.out.mono ?_
  rintro e w1 ⟨rfl, hb1⟩
  have Hal : Hid (∀ ob, Below w.heap.size w (w1.alloc ob)) := hide (fun ob => hb1.alloc hb1.size ob)
  have Hc := hide (fun ob => Ha.out (w1.alloc ob) (Hal.out ob))
  clear hb1 Hf Ha Ht
  go_wp2_with fail
  refine (Hc.out _).mono ?_
  intro e w2 h1
  have h2 := AppR.pre (Hal.out _) h1
  obtain ⟨v', rfl, y1, y2, y3⟩ := h2
  have Hy := hide (⟨y1, y2, y3⟩ : _ ∧ _ ∧ _)
  clear h1 y1 y2 y3 Hc
  go_wp2_with fail
  go_ret
  exact ⟨v', rfl, Hy.out.1, Hy.out.2.1, Hy.out.2.2⟩
end Go.Proofs.YtmfcgglgolajnaaDoor
