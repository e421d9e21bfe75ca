/-
  The contracts of AppendText, MarshalText, MarshalEach and sameTexts at addresses of 4 or 16 bytes.
-/
import Derived.Test.YtmfcgglgolajnaaDoorMG
import Derived.Test.YtmfcgglgolajnaaDoorMH
namespace Go.Proofs.YtmfcgglgolajnaaDoor
open Go.RowKit
set_option linter.unusedVariables false

theorem ipApp_any (A : Option Addr) (n c : Nat) (b : List UInt8) (base : Nat) (L0 : List UInt8) (v : Value) (w : World) (av : Nat → Prop) (g4 o4 g6 o6 : Nat) (hz : ZX w g4 o4 g6 o6) (ha : RB w av A n c b) (hn : n = 4 ∨ n = 16) (h6 : 4 < base) (ho : Own base L0 v w) (hb : base ≤ w.heap.size) (hl0 : L0.length ≤ 500) :
    Calls Tryd.prog 46 #[.slice A n c, v] w (AppR base v w (L0 ++ ipText b)) := by
  have hcap := ha.cap
  rcases hn with rfl | rfl
  · obtain ⟨x0, x1, x2, x3, rfl⟩ : ∃ x0 x1 x2 x3, b = [x0, x1, x2, x3] := by
      match b, ha.len with
      | [x0, x1, x2, x3], _ => exact ⟨x0, x1, x2, x3, rfl⟩
    obtain ⟨g, o, _, rfl, _, _⟩ := ha.at_ (k := 0) (by omega)
    have ht : ipText [x0, x1, x2, x3] = dotsL [x0, x1, x2, x3] := by unfold ipText; rw [if_pos (by simp)]
    rw [ht]
    exact ipApp4_any base g o c x0 x1 x2 x3 L0 v w g4 o4 g6 o6 hz ho hb hl0 (.slice (some ⟨g, o, none⟩) 4 c) (to4_four _ c w) hcap (ha.cell_at (k := 0) rfl) (ha.cell_at (k := 1) rfl) (ha.cell_at (k := 2) rfl) (ha.cell_at (k := 3) rfl)
  · obtain ⟨x0, x1, x2, x3, x4, x5, x6, x7, x8, x9, x10, x11, x12, x13, x14, x15, rfl⟩ : ∃ x0 x1 x2 x3 x4 x5 x6 x7 x8 x9 x10 x11 x12 x13 x14 x15, b = [x0, x1, x2, x3, x4, x5, x6, x7, x8, x9, x10, x11, x12, x13, x14, x15] := by
      match b, ha.len with
      | [x0, x1, x2, x3, x4, x5, x6, x7, x8, x9, x10, x11, x12, x13, x14, x15], _ => exact ⟨x0, x1, x2, x3, x4, x5, x6, x7, x8, x9, x10, x11, x12, x13, x14, x15, rfl⟩
    obtain ⟨g, o, _, rfl, _, _⟩ := ha.at_ (k := 0) (by omega)
    by_cases hm : mapd [x0, x1, x2, x3, x4, x5, x6, x7, x8, x9, x10, x11, x12, x13, x14, x15] = true
    · have ht : ipText [x0, x1, x2, x3, x4, x5, x6, x7, x8, x9, x10, x11, x12, x13, x14, x15] = dotsL [x12, x13, x14, x15] := by unfold ipText; rw [if_neg (by simp), if_pos hm]; rfl
      rw [ht]
      exact ipApp4_any base g (o + 12) (c - 12) x12 x13 x14 x15 L0 v w g4 o4 g6 o6 hz ho hb hl0 (.slice (some ⟨g, o, none⟩) 16 c) (to4_mapped g o c _ w av ha hm) (by omega) (ha.cell_at (k := 12) rfl) (ha.cell_at (k := 13) rfl) (ha.cell_at (k := 14) rfl) (ha.cell_at (k := 15) rfl)
    · have hm' : mapd [x0, x1, x2, x3, x4, x5, x6, x7, x8, x9, x10, x11, x12, x13, x14, x15] = false := by simpa using hm
      have ht : ipText [x0, x1, x2, x3, x4, x5, x6, x7, x8, x9, x10, x11, x12, x13, x14, x15] = txt6 (grpN [x0, x1, x2, x3, x4, x5, x6, x7, x8, x9, x10, x11, x12, x13, x14, x15]) := by unfold ipText; rw [if_neg (by simp), if_neg hm]
      rw [ht]
      exact ipApp6_any base g o c x0 x1 x2 x3 x4 x5 x6 x7 x8 x9 x10 x11 x12 x13 x14 x15 L0 v w av g4 o4 g6 o6 hz h6 ho hb hl0 ha hm'

theorem mk24 (w : World) : (Instr.makeSlice 22 (.int .i64 0) (.int .i64 24)).run Tryd.prog w = .ok (.slice (some ⟨w.heap.size, 0, none⟩) 0 24) (w.alloc (.cells (List.replicate 24 (.int .u8 0)).toArray 5)) := by kernel_rfl

set_option maxRecDepth 100000 in
set_option maxHeartbeats 1600000 in
theorem appText_any (A : Option Addr) (n c : Nat) (b : List UInt8) (base : Nat) (L0 : List UInt8) (v : Value) (w : World) (av : Nat → Prop) (g4 o4 g6 o6 : Nat) (hz : ZX w g4 o4 g6 o6) (ha : RB w av A n c b) (hn : n = 4 ∨ n = 16) (h6 : 4 < base) (ho : Own base L0 v w) (hb : base ≤ w.heap.size) (hl0 : L0.length ≤ 500) :
    Calls Tryd.prog 54 #[.slice A n c, v] w fun e w' => ∃ v', e = .returned (.tuple #[v', .nilIface]) ∧ Own base (L0 ++ ipText b) v' w' ∧ Grew v w w' ∧ Moved v v' w := by
  have Hc := hide (ipApp_any A n c b base L0 v w av g4 o4 g6 o6 hz ha hn h6 ho hb hl0)
  generalize L0 ++ ipText b = tx at *
  clear hz ha ho hb hl0 h6
  rcases hn with rfl | rfl
  all_goals
    go_enter Tryd.func54, Tryd.ntmps54
    go_wp2_with fail
    with_reducible refine Hc.out.mono ?_
    rintro e w1 ⟨v', rfl, y1, y2, y3⟩
    have Hy := hide (⟨y1, y2, y3⟩ : _ ∧ _ ∧ _)
    clear y1 y2 y3 Hc
    go_wp2_with fail
    go_ret2
    exact ⟨v', rfl, Hy.out.1, Hy.out.2.1, Hy.out.2.2⟩

set_option maxRecDepth 100000 in
set_option maxHeartbeats 1600000 in
theorem marshalText_any (A : Option Addr) (n c : Nat) (b : List UInt8) (w : World) (av : Nat → Prop) (g4 o4 g6 o6 : Nat) (hz : ZX w g4 o4 g6 o6) (ha : RB w av A n c b) (hn : n = 4 ∨ n = 16) :
    Calls Tryd.prog 41 #[.slice A n c] w fun e w' => ∃ v', e = .returned (.tuple #[v', .nilIface]) ∧ Own w.heap.size (ipText b) v' w' ∧ Below w.heap.size w w' := by
  have h6 : 4 < w.heap.size := World.block_lt_of_cell? _ _ hz.z.z6
  have m24 := mk24
  have o24 := own_made w (List.replicate 24 (.int .u8 0)).toArray 24 (by omega) (by simp)
  have hB : Below w.heap.size w (w.alloc (.cells (List.replicate 24 (.int .u8 0)).toArray 5)) := (Below.refl _ _).alloc (Nat.le_refl _) _
  have Hc := hide (appText_any A n c b w.heap.size [] _ _ av g4 o4 g6 o6 (hz.below hB) (ha.below hB) hn h6 o24 hB.size (by simp))
  have HB := hide hB
  have HO := hide o24
  generalize (List.replicate 24 (Value.int .u8 0)).toArray = cs at *
  clear hz ha h6 o24 hB hn
  go_enter Tryd.func41, Tryd.ntmps41
  go_wp2_with fail
  with_reducible refine Hc.out.mono ?_
  rintro e w1 ⟨v', rfl, y1, y2, y3⟩
  have Hy := hide (⟨y1, HB.out.trans (y2.below HO.out (by simp))⟩ : _ ∧ Below w.heap.size w w1)
  clear y1 y2 y3 Hc
  go_wp2_with fail
  go_ret2
  exact ⟨v', rfl, Hy.out.1, Hy.out.2⟩

/-- A row of texts and a row of bools of the call's own, apart. -/
def RowsTB (w : World) (ss : List (List UInt8)) (ys : List Bool) (v u : Value) (wr : World) : Prop :=
  wr.ownsRow w.heap.size 9 1 v ss.length (ss.map sv) ∧ wr.ownsRow w.heap.size 4 1 u ys.length (ys.map Value.bool) ∧ (u.ownBlock = none ∨ u.ownBlock ≠ v.ownBlock) ∧ Below w.heap.size w wr
theorem RowsTB.start (w : World) : RowsTB w [] [] (.slice (some ⟨w.heap.size, 0, none⟩) 0 0) (.slice (some ⟨w.heap.size + 1, 0, none⟩) 0 0) ((w.alloc (.cells #[] 9)).alloc (.cells #[] 4)) := by
  refine ⟨(own_empty w w.heap.size _ (Nat.le_refl _)).alloc _, ?_, Or.inr (by simp [Value.ownBlock]), ((Below.refl _ _).alloc (Nat.le_refl _) _).alloc (by simp) _⟩
  have := own_empty (w.alloc (.cells #[] 9)) w.heap.size 4 (by simp)
  rw [show (w.alloc (.cells #[] 9)).heap.size = w.heap.size + 1 by simp] at this
  exact this
theorem RowsTB.first {w wr w' : World} {ss : List (List UInt8)} {ys : List Bool} {v u v' : Value} {z : List UInt8} (h : RowsTB w ss ys v u wr) (ho : w'.ownsRow w.heap.size 9 1 v' (ss.length + 1) (ss.map sv ++ [.string ⟨z.toArray⟩])) (hg : (wr.alloc (.cells #[.string ⟨z.toArray⟩] 9)).grownBy w' v.ownBlock)
    (hv : v'.ownBlock = v.ownBlock ∨ v'.ownBlock = some (wr.heap.size + 1)) : RowsTB w (ss ++ [z]) ys v' u w' := by
  obtain ⟨h1, h2, h3, h4⟩ := h
  refine ⟨by simpa [sv] using ho, (h2.alloc _).kept hg h3, ?_, below_append (h4.alloc h4.size _) hg (h1.alloc _) (by simp; have := h4.size; omega)⟩
  rcases hv with hv | hv
  · rw [hv]; exact h3
  · cases hu : u.ownBlock with
    | none => exact Or.inl rfl
    | some g =>
      right
      rw [hv]
      have := (h2.lt g hu).2
      simp; omega
theorem RowsTB.second {w wr w' : World} {ss : List (List UInt8)} {ys : List Bool} {v u u' : Value} {z : Bool} (h : RowsTB w ss ys v u wr) (ho : w'.ownsRow w.heap.size 4 1 u' (ys.length + 1) (ys.map Value.bool ++ [.bool z])) (hg : (wr.alloc (.cells #[.bool z] 4)).grownBy w' u.ownBlock)
    (hv : u'.ownBlock = u.ownBlock ∨ u'.ownBlock = some (wr.heap.size + 1)) : RowsTB w ss (ys ++ [z]) v u' w' := by
  obtain ⟨h1, h2, h3, h4⟩ := h
  have h3' : v.ownBlock = none ∨ v.ownBlock ≠ u.ownBlock := by
    rcases h3 with h3 | h3
    · cases hv : v.ownBlock with
      | none => exact Or.inl rfl
      | some g => right; rw [h3]; simp
    · exact Or.inr (fun e => h3 e.symm)
  refine ⟨(h1.alloc _).kept hg h3', by simpa using ho, ?_, below_append (h4.alloc h4.size _) hg (h2.alloc _) (by simp; have := h4.size; omega)⟩
  rcases hv with hv | hv
  · rw [hv]; exact h3
  · right
    rw [hv]
    intro e
    have := (h1.lt _ e.symm).2
    omega
theorem RowsTB.below {w wr w' : World} {ss : List (List UInt8)} {ys : List Bool} {v u : Value} (h : RowsTB w ss ys v u wr) (hb : Below wr.heap.size wr w') : RowsTB w ss ys v u w' :=
  ⟨own_below h.1 hb, own_below h.2.1 hb, h.2.2.1, h.2.2.2.trans (hb.mono h.2.2.2.size)⟩

def mTxt (bss : List (List UInt8)) : List (List UInt8) := bss.map ipText
def mYes (bss : List (List UInt8)) : List Bool := bss.map fun _ => true
theorem mTxt_snoc {bss : List (List UInt8)} {k : Nat} {b : List UInt8} (h : bss[k]? = some b) : mTxt (bss.take (k + 1)) = mTxt (bss.take k) ++ [ipText b] := by unfold mTxt; rw [take_snoc h]; simp
theorem mYes_snoc {bss : List (List UInt8)} {k : Nat} {b : List UInt8} (h : bss[k]? = some b) : mYes (bss.take (k + 1)) = mYes (bss.take k) ++ [true] := by unfold mYes; rw [take_snoc h]; simp
/-- Texts and bools come back, in new memory. -/
def RetTB (w : World) (ss : List (List UInt8)) (ys : List Bool) (N : Nat) (e : Ending) (w' : World) : Prop :=
  ∃ A c B d, e = .returned (.tuple #[.slice A N c, .slice B N d]) ∧ RS w' (fun g => g < w.heap.size) A N c ss ∧ RL w' (fun g => g < w.heap.size) B N d ys ∧ Below w.heap.size w w'

set_option maxRecDepth 100000 in
set_option maxHeartbeats 3200000 in
theorem marshalEach_any (L : Option Addr) (N e : Nat) (bss : List (List UInt8)) (w : World) (g4 o4 g6 o6 : Nat) (hz : ZX w g4 o4 g6 o6) (hL : RBB w no L N e bss) (hN : N * 16 ≤ 140737488351232) (hall : ∀ b ∈ bss, b.length = 4 ∨ b.length = 16) :
    Calls Tryd.prog 28 #[.slice L N e] w (RetTB w (mTxt bss) (mYes bss) N) := by
  obtain ⟨i0, hinf, hz0, hz1, hz2⟩ := info_parts string_info
  obtain ⟨i1, hinf', hz0', hz1', hz2'⟩ := info_parts bool_info
  have HL := hide hL
  have Hz := hide hz
  have Hall := hide hall
  have Hst := hide (RowsTB.start w)
  clear hL hz hall
  go_enter Tryd.func28, Tryd.ntmps28
  go_wp2_with fail
  go_loopw [4, 5, 14] (fun v u i wr => ∃ k : Nat, k ≤ N ∧ i = .int .i64 k ∧ RowsTB w (mTxt (bss.take k)) (mYes (bss.take k)) v u wr) (fun _ _ i _ => N - (intOf i).toNat)
  case atStart => exact ⟨0, Nat.zero_le _, rfl, Hst.out⟩
  case round =>
    obtain ⟨k, hk, rfl, hr⟩ := hrel
    have Hr := hide hr
    by_cases hlt : k < N
    · have h2 := hr.2.2.2
      obtain ⟨g, o, B, m, d, b, rfl, hbk, hc, hrb⟩ := (HL.out.below h2).at_ hlt
      have hb := Hall.out b (List.mem_of_getElem? hbk)
      have hm : m = 4 ∨ m = 16 := by rw [← hrb.len]; exact hb
      have Hm := hide hm
      have Hf := hide (formBytes_own B m d b wr no hrb (by omega))
      have Ht := hide (mTxt_snoc hbk)
      have Hy := hide (mYes_snoc hbk)
      have hl1 : (mTxt (bss.take k)).length = k := by unfold mTxt; rw [List.length_map, List.length_take, HL.out.len]; omega
      have hl2 : (mYes (bss.take k)).length = k := by unfold mYes; rw [List.length_map, List.length_take, HL.out.len]; omega
      have Hl1 := hide hl1
      have Hl2 := hide hl2
      have hsz := h2.size
      generalize mTxt (bss.take k) = os at *
      generalize mYes (bss.take k) = bz at *
      generalize hom : os.map sv = om at *
      generalize hbm : bz.map Value.bool = bm at *
      have Hom := hide hom
      have Hbm := hide hbm
      clear hr h2 hbk hb hrb hm hl1 hl2 hom hbm
      go_wp2_with fail
      with_reducible refine Hf.out.mono ?_
      rintro e w1 ⟨vc, rfl, hcv, hb1⟩
      obtain ⟨A1, c1, rfl, hr1⟩ := RB.of_own hcv
      have hbw1 := Hr.out.2.2.2.trans (hb1.mono Hr.out.2.2.2.size)
      have Hs := hide (marshalText_any A1 m c1 b w1 no g4 o4 g6 o6 (Hz.out.below hbw1) hr1 Hm.out)
      have Hb1 := hide hb1
      clear hcv hb1 hr1 hbw1 Hf
      generalize ipText b = tx at *
      go_wp2_with fail
      with_reducible refine Hs.out.mono ?_
      rintro e w2 ⟨v', rfl, ho2, hb2⟩
      obtain ⟨A2, c2, rfl, hr2⟩ := ho2.rb
      have hrun := run_string_rb (P := Tryd.prog) 22 9 5 Tryd.underlying22 Tryd.underlying5 Tryd.underlying9 hr2
      have hR2 := Hr.out.below (Hb1.out.trans (hb2.mono Hb1.out.size))
      have HR2 := hide hR2
      have hsz2 := hR2.2.2.2.size
      have Ho := hide (hR2.1.alloc (.cells #[.string ⟨tx.toArray⟩] 9))
      rw [Hl1.out, Hom.out] at Ho
      clear ho2 hb2 hr2 hR2 Hs Hr
      go_wp2_with (at_builtin; refine wpList_append_rd _ rfl (.tmp 24) (.tmp 27) _ rfl w.heap.size 9 i0 _ 16 Tryd.underlying34 hinf hz0 hz1 hz2 rfl _ k _ rfl Ho.out no (some ⟨w2.heap.size, 0, none⟩) 1 1 [.string ⟨tx.toArray⟩] rfl ?p1 ?p2 ?p3 ?p4 ?p5 ?_)
      case p1 => exact Rd.one w2 _ _ no (fun h => h)
      case p2 => first | rfl | (intro u hu; simp at hu; subst hu; rfl)
      case p3 => unfold maxLen; omega
      case p4 => omega
      case p5 => first | omega | (simp; omega)
      intro v' w3 q1 q2 q3
      have HS := hide (RowsTB.first HR2.out (by rw [Hl1.out, Hom.out]; exact q1) q2 q3)
      have hsz3 := HS.out.2.2.2.size
      have Ho2 := hide (HS.out.2.1.alloc (.cells #[.bool true] 4))
      rw [Hl2.out, Hbm.out] at Ho2
      clear q1 q2 q3 Ho HR2 hrun
      go_wp2_with (at_builtin; refine wpList_append_rd _ rfl (.tmp 29) (.tmp 32) _ rfl w.heap.size 4 i1 _ 1 Tryd.underlying25 hinf' hz0' hz1' hz2' rfl _ k _ rfl Ho2.out no (some ⟨w3.heap.size, 0, none⟩) 1 1 [.bool true] rfl ?p1 ?p2 ?p3 ?p4 ?p5 ?_)
      case p1 => exact Rd.one w3 _ _ no (fun h => h)
      case p2 => first | rfl | (intro u hu; simp at hu; subst hu; rfl)
      case p3 => unfold maxLen; omega
      case p4 => omega
      case p5 => first | omega | (simp; omega)
      intro v'' w4 q1 q2 q3
      have HS2 := hide (RowsTB.second HS.out (by rw [Hl2.out, Hbm.out]; exact q1) q2 q3)
      clear q1 q2 q3 Ho2
      go_wp2_with fail
      go_roundw
      case rel => exact ⟨k + 1, by omega, by go_num, by rw [Ht.out, Hy.out]; exact HS2.out⟩
      case measure => simp [intOf]; omega
    · obtain rfl : k = N := by omega
      rw [List.take_of_length_le (by rw [HL.out.len]; omega)] at hr
      have hl1 : (mTxt bss).length = k := by unfold mTxt; rw [List.length_map, HL.out.len]
      have hl2 : (mYes bss).length = k := by unfold mYes; rw [List.length_map, HL.out.len]
      obtain ⟨h1, h2, h3, h4⟩ := hr
      rw [hl1] at h1
      rw [hl2] at h2
      obtain ⟨A1, d1, rfl, hR1⟩ := RS.of_own_av (av := fun g => g < w.heap.size) h1 (fun g h => h)
      obtain ⟨A2, d2, rfl, hR2⟩ := RL.of_own_av (av := fun g => g < w.heap.size) h2 (fun g h => h)
      have HR1 := hide hR1
      have HR2 := hide hR2
      have H4 := hide h4
      clear h1 h2 h3 h4 hl1 hl2 hR1 hR2 Hr
      go_wp2_with fail
      go_ret2
      exact ⟨A1, d1, A2, d2, rfl, HR1.out, HR2.out, H4.out⟩

set_option maxHeartbeats 400000 in
theorem sameTexts_eq (A B : Option Addr) (n c m d : Nat) (xs : List (List UInt8)) (w : World) (av bv : Nat → Prop) (ha : RS w av A n c xs) (hb : RS w bv B m d xs) :
    Calls Tryd.prog 30 #[.slice A n c, .slice B m d] w fun e w' => e = .returned (.bool true) ∧ ∃ q, w' = w.drewN q := by
  have hn := ha.cap
  have hn2 := ha.max
  obtain rfl : n = m := by rw [← ha.len, ← hb.len]
  unfold maxLen at hn2
  have hne : ((n : Int) != (n : Int)) = false := by simp
  go_enter Tryd.func30, Tryd.ntmps30
  go_wp2
  go_loopw [13] (fun i wr => ∃ k q : Nat, k ≤ n ∧ i = .int .i64 k ∧ wr = w.drewN q) (fun i _ => n - (intOf i).toNat)
  case atStart => exact ⟨0, 0, Nat.zero_le _, rfl, rfl⟩
  case round =>
    obtain ⟨k, q, hk, rfl, rfl⟩ := hrel
    by_cases hlt : k < n
    · obtain ⟨g, o, x, rfl, hx, hc⟩ := ha.at_ hlt
      obtain ⟨g2, o2, y, rfl, hy, hd⟩ := hb.at_ hlt
      obtain rfl : x = y := by rw [hx] at hy; injection hy
      have i1 : (0 : Int) ≤ k := by omega
      have i2 : (k : Int) < n := by omega
      clear hx hy ha hb
      go_wp2
      go_quiet (fail)
      go_wp2
      go_roundw
      case rel => exact ⟨k + 1, _, by omega, by go_num, rfl⟩
      case measure => simp [intOf]; omega
    · go_wp2
      go_ret
      exact ⟨rfl, _, rfl⟩
end Go.Proofs.YtmfcgglgolajnaaDoor
