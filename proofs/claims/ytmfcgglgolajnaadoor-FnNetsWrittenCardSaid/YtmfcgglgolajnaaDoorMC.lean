/-
  Joined: V4, A4, As16, Zone, P4, ZX, B6, A16.
-/
import Derived.Test.YtmfcgglgolajnaaDoorMB
import Derived.Test.YtmfcgglgolajnaaDoorMA
import Derived.Laws.BitsAllLaws
import Derived.Deep.RegionHeld3
import Derived.Deep.CutRange
import Derived.Deep.DeepCutAuto
import Derived.StillTailTactics
import Derived.LaidEql
/-
  The contract of netip.parseIPv4Fields. (In the making.)
-/
namespace Go.Proofs.YtmfcgglgolajnaaDoor
open Go.RowKit
set_option linter.unusedVariables false

theorem ba_extract (s : List UInt8) (a b : Nat) : (ByteArray.mk s.toArray).extract a b = ⟨((s.take b).drop a).toArray⟩ := by
  apply ByteArray.ext
  rw [ByteArray.data_extract]
  apply Array.toList_inj.1
  rw [Array.toList_extract]
  simp [List.extract, List.take_drop]
  by_cases h : a ≤ b
  · rw [show a + (b - a) = b by omega]
  · rw [show a + (b - a) = a by omega, List.drop_eq_nil_of_le (by rw [List.length_take]; omega), List.drop_eq_nil_of_le (by rw [List.length_take]; omega)]

/-- The numbers so far lie in the fields. -/
def put4 (xs : List Value) (o : Nat) (done : List UInt8) : List Value := xs.take o ++ (done.map fun b => .int .u8 (b.toNat : Int)) ++ xs.drop (o + done.length)
theorem put4_nil (xs : List Value) (o : Nat) : put4 xs o [] = xs := by unfold put4; simp
theorem put4_length {xs : List Value} {o : Nat} {done : List UInt8} (h : o + done.length ≤ xs.length) : (put4 xs o done).length = xs.length := by unfold put4; simp; omega
theorem put4_set {xs : List Value} {o : Nat} {done : List UInt8} (x : UInt8) (h : o + done.length < xs.length) : (put4 xs o done).set (o + done.length) (.int .u8 (x.toNat : Int)) = put4 xs o (done ++ [x]) := by
  unfold put4
  have h1 : (xs.take o ++ (done.map fun b => Value.int .u8 (b.toNat : Int))).length = o + done.length := by simp; omega
  rw [List.set_append, if_neg (by omega), h1, Nat.sub_self, List.drop_eq_getElem_cons h, List.set_cons_zero]
  simp [Nat.add_assoc]

/-- What parseIPv4Fields has written so far. -/
def FW (w : World) (g : Nat) (t : TypeId) (xs : List Value) (o : Nat) (done : List UInt8) (wr : World) : Prop :=
  Blk wr g t (put4 xs o done) ∧ Kept (just g) w wr ∧ wr.os = w.os ∧ wr.tape = w.tape ∧ wr.output = w.output ∧ wr.heap.size = w.heap.size
theorem FW.start {w : World} {g : Nat} {t : TypeId} {xs : List Value} (o : Nat) (h : Blk w g t xs) : FW w g t xs o [] w := ⟨by rw [put4_nil]; exact h, Kept.refl _ _, rfl, rfl, rfl, rfl⟩
theorem FW.step {w wr : World} {g : Nat} {t : TypeId} {xs : List Value} {o : Nat} {done : List UInt8} (h : FW w g t xs o done wr) (x : UInt8) (hl : o + done.length < xs.length) : FW w g t xs o (done ++ [x]) (wr.setCell ⟨g, o + done.length, none⟩ (.int .u8 (x.toNat : Int))) := by
  obtain ⟨h1, h2, h3, h4, h5, h6⟩ := h
  exact ⟨by rw [← put4_set x hl]; exact h1.set_ _ _, h2.trans Kept.setCell, h3, h4, h5, by simp [World.setCell, h6]⟩

/-- A digit's index, as the loop sees it. -/
def AtDot (u : List UInt8) (i dl : Nat) : Prop := (dl = 0 ↔ i = 0 ∨ u[i - 1]? = some 46) ∧ dl ≤ i

set_option maxRecDepth 100000 in
set_option maxHeartbeats 1600000 in
theorem v4fields_any (s : List UInt8) (off fin g o c : Nat) (t : TypeId) (xs : List Value) (w : World) (hB : Blk w g t xs) (ho : o + 4 ≤ xs.length) (hc : 4 ≤ c) (h1 : off ≤ fin) (h2 : fin ≤ s.length) (h3 : s.length ≤ 140737488351232) (u : List UInt8) (hu : (s.take fin).drop off = u) :
    Calls Tryd.prog 83 #[.string ⟨s.toArray⟩, .int .i64 (off : Int), .int .i64 (fin : Int), .slice (some ⟨g, o, none⟩) 4 c] w fun e w' =>
      (∃ fs, v4go u 0 0 [] = some fs ∧ fs.length = 4 ∧ e = .returned .nilIface ∧ FW w g t xs o fs w') ∨ (v4go u 0 0 [] = none ∧ (∃ T v, e = .returned (.iface T v)) ∧ ∃ done, done.length ≤ 4 ∧ FW w g t xs o done w') := by
  have i1 : (off : Int) ≤ fin := by omega
  have i2 : (fin : Int) ≤ s.length := by omega
  have HB := hide hB
  have Hu := hide hu
  have hul : u.length ≤ 140737488351232 := by rw [← hu]; simp; omega
  clear hB hu
  go_enter Tryd.func83, Tryd.ntmps83
  go_wp2_with fail
  rw [ba_extract, Hu.out]
  go_loopw [9, 10, 11, 13] (fun s9 s10 s11 s13 wr => ∃ (i val dl : Nat) (done : List UInt8), i ≤ u.length ∧ s9 = .int .i64 val ∧ s10 = .int .i64 done.length ∧ s11 = .int .i64 dl ∧ s13 = .int .i64 i ∧ val ≤ 255 ∧ done.length ≤ 3 ∧ v4go (u.drop i) val dl done = v4go u 0 0 [] ∧ AtDot u i dl ∧ FW w g t xs o done wr) (fun _ _ _ s13 _ => u.length - (intOf s13).toNat)
  case atStart => exact ⟨0, 0, 0, [], Nat.zero_le _, rfl, rfl, rfl, rfl, by omega, by simp, rfl, ⟨by simp, Nat.le_refl _⟩, FW.start o HB.out⟩
  case round =>
    obtain ⟨i, val, dl, done, hi, rfl, rfl, rfl, rfl, hval, hdone, hgo, hdot, hfw⟩ := hrel
    have Hgo := hide hgo
    have Hdot := hide hdot
    have Hfw := hide hfw
    generalize hpos : done.length = pos at *
    have Hpos := hide hpos
    have hdli := hdot.2
    clear hgo hdot hfw hpos
    by_cases hlt : i < u.length
    · obtain ⟨x, hx⟩ : ∃ x, u[i]? = some x := ⟨_, List.getElem?_eq_getElem hlt⟩
      have Hx := hide hx
      have k1 : (0 : Int) ≤ i := by omega
      have k2 : (i : Int) < u.length := by omega
      have hgx : (ByteArray.mk u.toArray)[i]'(by simpa [ByteArray.size] using hlt) = x := by
        have h := hx
        rw [List.getElem?_eq_getElem hlt] at h
        exact Option.some.inj h
      have hdr : u.drop i = x :: u.drop (i + 1) := by
        rw [List.getElem?_eq_getElem hlt] at hx
        injection hx with hx
        rw [← hx]
        exact (List.getElem_cons_drop hlt).symm
      have hgo := Hgo.out
      rw [hdr] at hgo
      have Hgo1 := hide hgo
      have hx256 := lt_256 x
      clear hx hdr hgo
      by_cases hdig : isDig x = true
      · have hd : (48 : Int) ≤ (x.toNat : Int) ∧ (x.toNat : Int) ≤ 57 := by
          unfold isDig at hdig; simp at hdig; omega
        obtain ⟨d1, d2⟩ := hd
        have Hdig := hide hdig
        clear hdig
        have hgo : (if dl = 1 ∧ val = 0 then none else if 255 < val * 10 + (x.toNat - 48) then none else v4go (u.drop (i + 1)) (val * 10 + (x.toNat - 48)) (dl + 1) done) = v4go u 0 0 [] := by
          have h := Hgo1.out
          rw [v4go, if_pos Hdig.out] at h
          exact h
        have Hgo2 := hide hgo
        clear hgo
        have Hdot2 : Hid (AtDot u (i + 1) (dl + 1)) := hide ⟨by
          rw [show i + 1 - 1 = i by omega, Hx.out]
          have : x ≠ 46 := fun e => by have := Hdig.out; rw [e] at this; rw [dot_notdig] at this; cases this
          simp [this], by have := Hdot.out.2; omega⟩
        by_cases hlz : dl = 1 ∧ val = 0
        · have Hend : Hid (v4go u 0 0 [] = none) := hide (by have h := Hgo2.out; rw [if_pos hlz] at h; exact h.symm)
          obtain ⟨rfl, rfl⟩ := hlz
          go_wp2_with fail
          go_ret
          exact Or.inr ⟨Hend.out, ⟨_, _, rfl⟩, done, by rw [Hpos.out]; omega, Hfw.out⟩
        · have hgo3 := Hgo2.out
          rw [if_neg hlz] at hgo3
          have Hgo3 := hide hgo3
          clear hgo3
          by_cases hbig : 255 < val * 10 + (x.toNat - 48)
          · have b1 : (255 : Int) < (val : Int) * 10 + (x.toNat : Int) - 48 := by omega
            have Hend : Hid (v4go u 0 0 [] = none) := hide (by have h := Hgo3.out; rw [if_pos hbig] at h; exact h.symm)
            by_cases hdl : dl = 1
            · subst hdl
              have hv0 : ((val : Int) == 0) = false := by rw [beq_eq_false_iff_ne]; omega
              clear hbig hlz
              go_wp2_with fail
              go_ret
              exact Or.inr ⟨Hend.out, ⟨_, _, rfl⟩, done, by rw [Hpos.out]; omega, Hfw.out⟩
            · have hd0 : ((dl : Int) == 1) = false := by rw [beq_eq_false_iff_ne]; omega
              clear hbig hlz
              go_wp2_with fail
              go_ret
              exact Or.inr ⟨Hend.out, ⟨_, _, rfl⟩, done, by rw [Hpos.out]; omega, Hfw.out⟩
          · have b1 : ¬ ((255 : Int) < (val : Int) * 10 + (x.toNat : Int) - 48) := by omega
            have Hnext : Hid (v4go (u.drop (i + 1)) (val * 10 + (x.toNat - 48)) (dl + 1) done = v4go u 0 0 []) := hide (by have h := Hgo3.out; rw [if_neg hbig] at h; exact h)
            by_cases hdl : dl = 1
            · subst hdl
              have hv0 : ((val : Int) == 0) = false := by rw [beq_eq_false_iff_ne]; omega
              clear hlz
              go_wp2_with fail
              go_roundw
              case rel => exact ⟨i + 1, val * 10 + (x.toNat - 48), 2, done, by omega, by go_num, by rw [Hpos.out], rfl, by go_num, by omega, by rw [Hpos.out]; omega, Hnext.out, Hdot2.out, Hfw.out⟩
              case measure => simp [intOf]; omega
            · have hd0 : ((dl : Int) == 1) = false := by rw [beq_eq_false_iff_ne]; omega
              clear hlz
              go_wp2_with fail
              go_roundw
              case rel => exact ⟨i + 1, val * 10 + (x.toNat - 48), dl + 1, done, by omega, by go_num, by rw [Hpos.out], by go_num, by go_num, by omega, by rw [Hpos.out]; omega, Hnext.out, Hdot2.out, Hfw.out⟩
              case measure => simp [intOf]; omega
      · have Hdig := hide hdig
        by_cases hx46 : x = 46
        · subst hx46
          have hgo : (if dl = 0 ∨ u.drop (i + 1) = [] then none else if done.length = 3 then none else v4go (u.drop (i + 1)) 0 0 (done ++ [UInt8.ofNat val])) = v4go u 0 0 [] := by
            have h := Hgo1.out
            rw [v4go, if_neg Hdig.out, if_pos rfl] at h
            exact h
          have Hgo2 := hide hgo
          clear hgo hdig
          have Hdot2 : Hid (AtDot u (i + 1) 0) := hide ⟨by rw [show i + 1 - 1 = i by omega, Hx.out]; simp, Nat.zero_le _⟩
          by_cases hi0 : i = 0
          · subst hi0
            have Hend : Hid (v4go u 0 0 [] = none) := hide (by
              have h := Hgo2.out
              rw [if_pos (Or.inl (Hdot.out.1.2 (Or.inl rfl)))] at h
              exact h.symm)
            go_wp2_with fail
            go_ret
            exact Or.inr ⟨Hend.out, ⟨_, _, rfl⟩, done, by rw [Hpos.out]; omega, Hfw.out⟩
          · have hi0' : ((i : Int) == 0) = false := by rw [beq_eq_false_iff_ne]; omega
            by_cases hil : i = u.length - 1
            · have hil' : ((i : Int) == (u.length : Int) - 1) = true := by rw [beq_iff_eq]; omega
              have Hend : Hid (v4go u 0 0 [] = none) := hide (by
                have h := Hgo2.out
                rw [if_pos (Or.inr (List.drop_eq_nil_of_le (by omega)))] at h
                exact h.symm)
              clear hil
              go_wp2_with fail
              go_ret
              exact Or.inr ⟨Hend.out, ⟨_, _, rfl⟩, done, by rw [Hpos.out]; omega, Hfw.out⟩
            · have hil' : ((i : Int) == (u.length : Int) - 1) = false := by rw [beq_eq_false_iff_ne]; omega
              obtain ⟨y, hy⟩ : ∃ y, u[i - 1]? = some y := ⟨_, List.getElem?_eq_getElem (by omega)⟩
              have hgy : (ByteArray.mk u.toArray)[i - 1]'(by simp [ByteArray.size]; omega) = y := by
                have h := hy
                rw [List.getElem?_eq_getElem (show i - 1 < u.length by omega)] at h
                exact Option.some.inj h
              have m1 : (0 : Int) ≤ (i : Int) - 1 := by omega
              have m2 : (i : Int) - 1 < u.length := by omega
              have m3 : ((i : Int) - 1).toNat = i - 1 := by omega
              have hy256 := lt_256 y
              by_cases hy46 : y = 46
              · subst hy46
                have Hend : Hid (v4go u 0 0 [] = none) := hide (by
                  have h := Hgo2.out
                  rw [if_pos (Or.inl (Hdot.out.1.2 (Or.inr hy)))] at h
                  exact h.symm)
                clear hy
                go_wp2_with fail
                go_ret
                exact Or.inr ⟨Hend.out, ⟨_, _, rfl⟩, done, by rw [Hpos.out]; omega, Hfw.out⟩
              · have hyb : ((y.toNat : Int) == 46) = false := by
                  rw [beq_eq_false_iff_ne]; intro e; exact hy46 (UInt8.toNat_inj.1 (by simp; omega))
                have hnz : ¬ (dl = 0 ∨ u.drop (i + 1) = []) := by
                  intro h
                  rcases h with h | h
                  · rcases Hdot.out.1.1 h with h | h
                    · exact hi0 h
                    · rw [hy] at h; injection h with h; exact hy46 h
                  · have := congrArg List.length h
                    rw [List.length_drop] at this
                    simp at this
                    omega
                have hgo := Hgo2.out
                rw [if_neg hnz, Hpos.out] at hgo
                have Hgo3 := hide hgo
                clear hgo hnz hy hy46
                by_cases hp3 : pos = 3
                · subst hp3
                  have Hend : Hid (v4go u 0 0 [] = none) := hide (by have h := Hgo3.out; rw [if_pos rfl] at h; exact h.symm)
                  go_wp2_with fail
                  go_ret
                  exact Or.inr ⟨Hend.out, ⟨_, _, rfl⟩, done, by rw [Hpos.out]; omega, Hfw.out⟩
                · have hp3' : ((pos : Int) == 3) = false := by rw [beq_eq_false_iff_ne]; omega
                  have Hnext : Hid (v4go (u.drop (i + 1)) 0 0 (done ++ [UInt8.ofNat val]) = v4go u 0 0 []) := hide (by have h := Hgo3.out; rw [if_neg hp3] at h; exact h)
                  have hst := Hfw.out.step (UInt8.ofNat val) (by rw [Hpos.out]; omega)
                  have hvn : (UInt8.ofNat val).toNat = val := by rw [UInt8.toNat_ofNat']; omega
                  rw [hvn, Hpos.out] at hst
                  have Hst := hide hst
                  have hfz := Hfw.out.1.frozen (o + pos)
                  obtain ⟨cv, hcv⟩ : ∃ cv, wr.cell? ⟨g, o + pos, none⟩ = some cv := ⟨_, by rw [Hfw.out.1.cell]; exact List.getElem?_eq_getElem (by rw [put4_length (by rw [Hpos.out]; omega)]; omega)⟩
                  have p1 : (0 : Int) ≤ pos := by omega
                  have p2 : (pos : Int) < 4 := by omega
                  have hv1 : (0 : Int) ≤ (val : Int) := by omega
                  have hv2 : (val : Int) < 256 := by omega
                  have hv3 : (val : Int) % 256 = val := by omega
                  clear hst hvn
                  go_wp2_with fail
                  go_roundw
                  case rel => exact ⟨i + 1, 0, 0, done ++ [UInt8.ofNat val], by omega, rfl, by rw [List.length_append, Hpos.out]; go_num, rfl, by go_num, by omega, by rw [List.length_append, Hpos.out]; simp; omega, Hnext.out, Hdot2.out, Hst.out⟩
                  case measure => simp [intOf]; omega
        · have Hend : Hid (v4go u 0 0 [] = none) := hide (by
            have h := Hgo1.out
            rw [v4go, if_neg Hdig.out, if_neg hx46] at h
            exact h.symm)
          have hxb : ((x.toNat : Int) == 46) = false := by
            rw [beq_eq_false_iff_ne]; intro e; exact hx46 (UInt8.toNat_inj.1 (by simp; omega))
          have hno : ¬ ((48 : Int) ≤ (x.toNat : Int)) ∨ ((48 : Int) ≤ (x.toNat : Int) ∧ ¬ ((x.toNat : Int) ≤ 57)) := by
            unfold isDig at hdig; simp at hdig; omega
          clear hdig hx46
          rcases hno with q1 | ⟨q1, q2⟩
          · go_wp2_with fail
            go_ret
            exact Or.inr ⟨Hend.out, ⟨_, _, rfl⟩, done, by rw [Hpos.out]; omega, Hfw.out⟩
          · go_wp2_with fail
            go_ret
            exact Or.inr ⟨Hend.out, ⟨_, _, rfl⟩, done, by rw [Hpos.out]; omega, Hfw.out⟩
    · obtain rfl : i = u.length := by omega
      have hgo : (if done.length < 3 then none else some (done ++ [UInt8.ofNat val])) = v4go u 0 0 [] := by
        have h := Hgo.out
        rw [List.drop_length, v4go] at h
        exact h
      rw [Hpos.out] at hgo
      have Hgo2 := hide hgo
      clear hgo
      by_cases hp3 : pos < 3
      · have p3 : (pos : Int) < 3 := by omega
        have Hend : Hid (v4go u 0 0 [] = none) := hide (by have h := Hgo2.out; rw [if_pos hp3] at h; exact h.symm)
        go_wp2_with fail
        go_ret
        exact Or.inr ⟨Hend.out, ⟨_, _, rfl⟩, done, by rw [Hpos.out]; omega, Hfw.out⟩
      · obtain rfl : pos = 3 := by omega
        have Hend : Hid (v4go u 0 0 [] = some (done ++ [UInt8.ofNat val])) := hide (by have h := Hgo2.out; rw [if_neg hp3] at h; exact h.symm)
        have hst := Hfw.out.step (UInt8.ofNat val) (by rw [Hpos.out]; omega)
        have hvn : (UInt8.ofNat val).toNat = val := by rw [UInt8.toNat_ofNat']; omega
        rw [hvn, Hpos.out] at hst
        have Hst := hide hst
        have hfz := Hfw.out.1.frozen (o + 3)
        obtain ⟨cv, hcv⟩ : ∃ cv, wr.cell? ⟨g, o + 3, none⟩ = some cv := ⟨_, by rw [Hfw.out.1.cell]; exact List.getElem?_eq_getElem (by rw [put4_length (by rw [Hpos.out]; omega)]; omega)⟩
        have hv1 : (0 : Int) ≤ (val : Int) := by omega
        have hv2 : (val : Int) < 256 := by omega
        have hv3 : (val : Int) % 256 = val := by omega
        clear hst hvn
        go_wp2_with fail
        go_ret
        exact Or.inl ⟨_, Hend.out, by rw [List.length_append, Hpos.out]; rfl, rfl, Hst.out⟩
end Go.Proofs.YtmfcgglgolajnaaDoor
/-
  The contracts of netip.AddrFrom4, byteorder.BEPutUint64 and Addr.As16.
-/
namespace Go.Proofs.YtmfcgglgolajnaaDoor
open Go.RowKit
set_option linter.unusedVariables false

theorem or_u64 {x y : Nat} (hx : x < 2 ^ 64) (hy : y < 2 ^ 64) : bits .or .u64 (x : Int) (y : Int) = ((x ||| y : Nat) : Int) := u64_or_nat x y (by omega) (by omega)
theorem or_add {a b i : Nat} (h : b < 2 ^ i) : (2 ^ i * a) ||| b = 2 ^ i * a + b := (Nat.two_pow_add_eq_or_of_lt h a).symm
/-- The low half of an IPv4 address. -/
def lo4 (a b c d : UInt8) : Nat := 281470681743360 + a.toNat * 16777216 + b.toNat * 65536 + c.toNat * 256 + d.toNat
theorem lo4_bits (a b c d : UInt8) : bits .or .u64 (bits .or .u64 (bits .or .u64 (bits .or .u64 281470681743360 ((a.toNat : Int) * 16777216)) ((b.toNat : Int) * 65536)) ((c.toNat : Int) * 256)) (d.toNat : Int) = ((lo4 a b c d : Nat) : Int) := by
  have ha := a.toNat_lt
  have hb := b.toNat_lt
  have hc := c.toNat_lt
  have hd := d.toNat_lt
  have e1 : bits .or .u64 281470681743360 ((a.toNat : Int) * 16777216) = ((281470681743360 + a.toNat * 16777216 : Nat) : Int) := by
    have := or_u64 (x := 281470681743360) (y := a.toNat * 16777216) (by omega) (by omega)
    have h2 : 281470681743360 ||| a.toNat * 16777216 = 281470681743360 + a.toNat * 16777216 := by
      have := or_add (a := 65535) (b := a.toNat * 16777216) (i := 32) (by omega)
      simpa using this
    rw [h2] at this
    simpa using this
  have e2 : bits .or .u64 ((281470681743360 + a.toNat * 16777216 : Nat) : Int) ((b.toNat : Int) * 65536) = ((281470681743360 + a.toNat * 16777216 + b.toNat * 65536 : Nat) : Int) := by
    have := or_u64 (x := 281470681743360 + a.toNat * 16777216) (y := b.toNat * 65536) (by omega) (by omega)
    have h2 : (281470681743360 + a.toNat * 16777216) ||| b.toNat * 65536 = 281470681743360 + a.toNat * 16777216 + b.toNat * 65536 := by
      have := or_add (a := 16776960 + a.toNat) (b := b.toNat * 65536) (i := 24) (by omega)
      rw [show 2 ^ 24 * (16776960 + a.toNat) = 281470681743360 + a.toNat * 16777216 by omega] at this
      exact this
    rw [h2] at this
    rw [← this]; congr 1
  have e3 : bits .or .u64 ((281470681743360 + a.toNat * 16777216 + b.toNat * 65536 : Nat) : Int) ((c.toNat : Int) * 256) = ((281470681743360 + a.toNat * 16777216 + b.toNat * 65536 + c.toNat * 256 : Nat) : Int) := by
    have := or_u64 (x := 281470681743360 + a.toNat * 16777216 + b.toNat * 65536) (y := c.toNat * 256) (by omega) (by omega)
    have h2 : (281470681743360 + a.toNat * 16777216 + b.toNat * 65536) ||| c.toNat * 256 = 281470681743360 + a.toNat * 16777216 + b.toNat * 65536 + c.toNat * 256 := by
      have := or_add (a := 4294901760 + a.toNat * 256 + b.toNat) (b := c.toNat * 256) (i := 16) (by omega)
      rw [show 2 ^ 16 * (4294901760 + a.toNat * 256 + b.toNat) = 281470681743360 + a.toNat * 16777216 + b.toNat * 65536 by omega] at this
      exact this
    rw [h2] at this
    rw [← this]; congr 1
  have e4 : bits .or .u64 ((281470681743360 + a.toNat * 16777216 + b.toNat * 65536 + c.toNat * 256 : Nat) : Int) (d.toNat : Int) = ((lo4 a b c d : Nat) : Int) := by
    have := or_u64 (x := 281470681743360 + a.toNat * 16777216 + b.toNat * 65536 + c.toNat * 256) (y := d.toNat) (by omega) (by omega)
    have h2 : (281470681743360 + a.toNat * 16777216 + b.toNat * 65536 + c.toNat * 256) ||| d.toNat = lo4 a b c d := by
      have := or_add (a := 1099494850560 + a.toNat * 65536 + b.toNat * 256 + c.toNat) (b := d.toNat) (i := 8) (by omega)
      rw [show 2 ^ 8 * (1099494850560 + a.toNat * 65536 + b.toNat * 256 + c.toNat) = 281470681743360 + a.toNat * 16777216 + b.toNat * 65536 + c.toNat * 256 by omega] at this
      exact this
    rw [h2] at this
    exact this
  rw [e1, e2, e3, e4]

/-- An address, as a value. -/
def addrV (hi lo : Nat) (p : Option Addr) : Value := .agg #[.int .u64 (hi : Int), .int .u64 (lo : Int), .pointer p]

set_option maxRecDepth 100000 in
set_option maxHeartbeats 1600000 in
theorem addrFrom4_any (a b c d : UInt8) (w : World) (p : Option Addr) (hz4 : w.cell? ⟨3, 0, none⟩ = some (.pointer p)) :
    Calls Tryd.prog 62 #[.agg #[.int .u8 (a.toNat : Int), .int .u8 (b.toNat : Int), .int .u8 (c.toNat : Int), .int .u8 (d.toNat : Int)]] w fun e w' => e = .returned (addrV 0 (lo4 a b c d) p) ∧ Below w.heap.size w w' := by
  have ha := lt_256 a
  have hb := lt_256 b
  have hc := lt_256 c
  have hd := lt_256 d
  have hlt : 3 < w.heap.size := World.block_lt_of_cell? _ _ hz4
  have hz : ∀ o1 o2, ((w.alloc o1).alloc o2).cell? ⟨3, 0, none⟩ = some (.pointer p) := fun o1 o2 => by
    rw [World.cell?_of_block (w := w) (by rw [Below.heap_alloc _ _ _ (by simp; omega), Below.heap_alloc _ _ _ hlt])]; exact hz4
  have Hl := hide (lo4_bits a b c d)
  have hB : Hid (∀ o1 o2, Below w.heap.size w ((w.alloc o1).alloc o2)) := hide (fun o1 o2 => ((Below.refl _ _).alloc (Nat.le_refl _) _).alloc (by simp) _)
  go_enter Tryd.func62, Tryd.ntmps62
  go_wp2_with fail
  rw [Hl.out]
  refine bodyPost_ret (v := addrV 0 (lo4 a b c d) p) (by simp [results, Tryd.results62, addrV, go_sem]) rfl ⟨rfl, hB.out _ _⟩

/-- The bytes of 64 bits, the first one first. -/
def be8 (v : Nat) : List UInt8 := [UInt8.ofNat (v / 72057594037927936 % 256), UInt8.ofNat (v / 281474976710656 % 256), UInt8.ofNat (v / 1099511627776 % 256), UInt8.ofNat (v / 4294967296 % 256), UInt8.ofNat (v / 16777216 % 256), UInt8.ofNat (v / 65536 % 256), UInt8.ofNat (v / 256 % 256), UInt8.ofNat (v % 256)]
theorem ofNat_mod (x : Nat) : ((UInt8.ofNat (x % 256)).toNat : Int) = (x : Int) % 256 := by rw [UInt8.toNat_ofNat']; omega

theorem FW.cell_ {w wr : World} {g : Nat} {t : TypeId} {xs : List Value} {o : Nat} {done : List UInt8} (h : FW w g t xs o done wr) (hl : o + done.length ≤ xs.length) {k : Nat} (hk : k < xs.length) : ∃ u, wr.cell? ⟨g, k, none⟩ = some u :=
  ⟨_, by rw [h.1.cell]; exact List.getElem?_eq_getElem (by rw [put4_length hl]; exact hk)⟩

set_option maxRecDepth 100000 in
set_option maxHeartbeats 8000000 in
theorem bePut_any (v g o c : Nat) (x0 x1 x2 x3 x4 x5 x6 x7 : UInt8) (t : TypeId) (xs : List Value) (w : World) (hv : v < 18446744073709551616) (hB : Blk w g t xs) (ho : o + 8 ≤ xs.length) (hc : 8 ≤ c)
    (h0 : (v : Int) / 72057594037927936 = (x0.toNat : Int)) (h1 : (v : Int) / 281474976710656 % 256 = (x1.toNat : Int)) (h2 : (v : Int) / 1099511627776 % 256 = (x2.toNat : Int)) (h3 : (v : Int) / 4294967296 % 256 = (x3.toNat : Int)) (h4 : (v : Int) / 16777216 % 256 = (x4.toNat : Int)) (h5 : (v : Int) / 65536 % 256 = (x5.toNat : Int)) (h6 : (v : Int) / 256 % 256 = (x6.toNat : Int)) (h7 : (v : Int) % 256 = (x7.toNat : Int)) :
    Calls Tryd.prog 71 #[.slice (some ⟨g, o, none⟩) 8 c, .int .u64 (v : Int)] w fun e w' => e = .returned (.tuple #[]) ∧ FW w g t xs o [x0, x1, x2, x3, x4, x5, x6, x7] w' := by
  have H0 := hide (FW.start o hB)
  obtain ⟨r0, c0⟩ := H0.out.cell_ (by simp; omega) (show o < xs.length by omega)
  have f0 := H0.out.1.frozen (o)
  obtain ⟨r1, c1⟩ := H0.out.cell_ (by simp; omega) (show o + 1 < xs.length by omega)
  have f1 := H0.out.1.frozen (o + 1)
  obtain ⟨r2, c2⟩ := H0.out.cell_ (by simp; omega) (show o + 2 < xs.length by omega)
  have f2 := H0.out.1.frozen (o + 2)
  obtain ⟨r3, c3⟩ := H0.out.cell_ (by simp; omega) (show o + 3 < xs.length by omega)
  have f3 := H0.out.1.frozen (o + 3)
  obtain ⟨r4, c4⟩ := H0.out.cell_ (by simp; omega) (show o + 4 < xs.length by omega)
  have f4 := H0.out.1.frozen (o + 4)
  obtain ⟨r5, c5⟩ := H0.out.cell_ (by simp; omega) (show o + 5 < xs.length by omega)
  have f5 := H0.out.1.frozen (o + 5)
  obtain ⟨r6, c6⟩ := H0.out.cell_ (by simp; omega) (show o + 6 < xs.length by omega)
  have f6 := H0.out.1.frozen (o + 6)
  obtain ⟨r7, c7⟩ := H0.out.cell_ (by simp; omega) (show o + 7 < xs.length by omega)
  have f7 := H0.out.1.frozen (o + 7)
  have Hh := hide (⟨h0, h1, h2, h3, h4, h5, h6, h7⟩ : _ ∧ _ ∧ _ ∧ _ ∧ _ ∧ _ ∧ _ ∧ _)
  have Hfin : Hid (FW w g t xs o [x0, x1, x2, x3, x4, x5, x6, x7] ((((((((w.setCell ⟨g, o, none⟩ (.int .u8 (x0.toNat : Int))).setCell ⟨g, o + 1, none⟩ (.int .u8 (x1.toNat : Int))).setCell ⟨g, o + 2, none⟩ (.int .u8 (x2.toNat : Int))).setCell ⟨g, o + 3, none⟩ (.int .u8 (x3.toNat : Int))).setCell ⟨g, o + 4, none⟩ (.int .u8 (x4.toNat : Int))).setCell ⟨g, o + 5, none⟩ (.int .u8 (x5.toNat : Int))).setCell ⟨g, o + 6, none⟩ (.int .u8 (x6.toNat : Int))).setCell ⟨g, o + 7, none⟩ (.int .u8 (x7.toNat : Int)))) := hide (by
    have H1 : FW w g t xs o [x0] (w.setCell ⟨g, o, none⟩ (.int .u8 (x0.toNat : Int))) := H0.out.step x0 (by simp; omega)
    have H2 : FW w g t xs o [x0, x1] ((w.setCell ⟨g, o, none⟩ (.int .u8 (x0.toNat : Int))).setCell ⟨g, o + 1, none⟩ (.int .u8 (x1.toNat : Int))) := H1.step x1 (by simp; omega)
    have H3 : FW w g t xs o [x0, x1, x2] (((w.setCell ⟨g, o, none⟩ (.int .u8 (x0.toNat : Int))).setCell ⟨g, o + 1, none⟩ (.int .u8 (x1.toNat : Int))).setCell ⟨g, o + 2, none⟩ (.int .u8 (x2.toNat : Int))) := H2.step x2 (by simp; omega)
    have H4 : FW w g t xs o [x0, x1, x2, x3] ((((w.setCell ⟨g, o, none⟩ (.int .u8 (x0.toNat : Int))).setCell ⟨g, o + 1, none⟩ (.int .u8 (x1.toNat : Int))).setCell ⟨g, o + 2, none⟩ (.int .u8 (x2.toNat : Int))).setCell ⟨g, o + 3, none⟩ (.int .u8 (x3.toNat : Int))) := H3.step x3 (by simp; omega)
    have H5 : FW w g t xs o [x0, x1, x2, x3, x4] (((((w.setCell ⟨g, o, none⟩ (.int .u8 (x0.toNat : Int))).setCell ⟨g, o + 1, none⟩ (.int .u8 (x1.toNat : Int))).setCell ⟨g, o + 2, none⟩ (.int .u8 (x2.toNat : Int))).setCell ⟨g, o + 3, none⟩ (.int .u8 (x3.toNat : Int))).setCell ⟨g, o + 4, none⟩ (.int .u8 (x4.toNat : Int))) := H4.step x4 (by simp; omega)
    have H6 : FW w g t xs o [x0, x1, x2, x3, x4, x5] ((((((w.setCell ⟨g, o, none⟩ (.int .u8 (x0.toNat : Int))).setCell ⟨g, o + 1, none⟩ (.int .u8 (x1.toNat : Int))).setCell ⟨g, o + 2, none⟩ (.int .u8 (x2.toNat : Int))).setCell ⟨g, o + 3, none⟩ (.int .u8 (x3.toNat : Int))).setCell ⟨g, o + 4, none⟩ (.int .u8 (x4.toNat : Int))).setCell ⟨g, o + 5, none⟩ (.int .u8 (x5.toNat : Int))) := H5.step x5 (by simp; omega)
    have H7 : FW w g t xs o [x0, x1, x2, x3, x4, x5, x6] (((((((w.setCell ⟨g, o, none⟩ (.int .u8 (x0.toNat : Int))).setCell ⟨g, o + 1, none⟩ (.int .u8 (x1.toNat : Int))).setCell ⟨g, o + 2, none⟩ (.int .u8 (x2.toNat : Int))).setCell ⟨g, o + 3, none⟩ (.int .u8 (x3.toNat : Int))).setCell ⟨g, o + 4, none⟩ (.int .u8 (x4.toNat : Int))).setCell ⟨g, o + 5, none⟩ (.int .u8 (x5.toNat : Int))).setCell ⟨g, o + 6, none⟩ (.int .u8 (x6.toNat : Int))) := H6.step x6 (by simp; omega)
    have H8 : FW w g t xs o [x0, x1, x2, x3, x4, x5, x6, x7] ((((((((w.setCell ⟨g, o, none⟩ (.int .u8 (x0.toNat : Int))).setCell ⟨g, o + 1, none⟩ (.int .u8 (x1.toNat : Int))).setCell ⟨g, o + 2, none⟩ (.int .u8 (x2.toNat : Int))).setCell ⟨g, o + 3, none⟩ (.int .u8 (x3.toNat : Int))).setCell ⟨g, o + 4, none⟩ (.int .u8 (x4.toNat : Int))).setCell ⟨g, o + 5, none⟩ (.int .u8 (x5.toNat : Int))).setCell ⟨g, o + 6, none⟩ (.int .u8 (x6.toNat : Int))).setCell ⟨g, o + 7, none⟩ (.int .u8 (x7.toNat : Int))) := H7.step x7 (by simp; omega)
    exact H8)
  clear hB H0 h0 h1 h2 h3 h4 h5 h6 h7 hc
  go_enter Tryd.func71, Tryd.ntmps71
  go_wp2
  go_end0
  refine ⟨rfl, ?_⟩
  obtain ⟨h0, h1, h2, h3, h4, h5, h6, h7⟩ := Hh.out
  rw [h0, h1, h2, h3, h4, h5, h6, h7]
  exact Hfin.out
end Go.Proofs.YtmfcgglgolajnaaDoor
/-
  The contract of Addr.As16.
-/
namespace Go.Proofs.YtmfcgglgolajnaaDoor
open Go.RowKit
set_option linter.unusedVariables false

theorem be8_parts {v : Nat} (hv : v < 18446744073709551616) : ∃ x0 x1 x2 x3 x4 x5 x6 x7 : UInt8, be8 v = [x0, x1, x2, x3, x4, x5, x6, x7] ∧ (v : Int) / 72057594037927936 = (x0.toNat : Int) ∧ (v : Int) / 281474976710656 % 256 = (x1.toNat : Int) ∧ (v : Int) / 1099511627776 % 256 = (x2.toNat : Int) ∧ (v : Int) / 4294967296 % 256 = (x3.toNat : Int) ∧ (v : Int) / 16777216 % 256 = (x4.toNat : Int) ∧ (v : Int) / 65536 % 256 = (x5.toNat : Int) ∧ (v : Int) / 256 % 256 = (x6.toNat : Int) ∧ (v : Int) % 256 = (x7.toNat : Int) := by
  refine ⟨_, _, _, _, _, _, _, _, rfl, ?_, ?_, ?_, ?_, ?_, ?_, ?_, ?_⟩
  all_goals (rw [UInt8.toNat_ofNat']; omega)

def by16 (bs : List UInt8) : Value := .agg (bs.map fun b => Value.int .u8 (b.toNat : Int)).toArray

set_option maxRecDepth 100000 in
set_option maxHeartbeats 3200000 in
theorem as16_any (hi lo : Nat) (p : Option Addr) (w : World) (hh : hi < 18446744073709551616) (hl : lo < 18446744073709551616) :
    Calls Tryd.prog 60 #[addrV hi lo p] w fun e w' => e = .returned (by16 (be8 hi ++ be8 lo)) ∧ Below w.heap.size w w' := by
  obtain ⟨x0, x1, x2, x3, x4, x5, x6, x7, ex, h0, h1, h2, h3, h4, h5, h6, h7⟩ := be8_parts hh
  obtain ⟨y0, y1, y2, y3, y4, y5, y6, y7, ey, k0, k1, k2, k3, k4, k5, k6, k7⟩ := be8_parts hl
  rw [ex, ey]
  have HB1 := hide (fun (W : World) (g : Nat) (t : TypeId) (xs : List Value) (hB : Blk W g t xs) (ho : 0 + 8 ≤ xs.length) => bePut_any hi g 0 16 x0 x1 x2 x3 x4 x5 x6 x7 t xs W hh hB ho (by omega) h0 h1 h2 h3 h4 h5 h6 h7)
  have HB2 := hide (fun (W : World) (g : Nat) (t : TypeId) (xs : List Value) (hB : Blk W g t xs) (ho : 8 + 8 ≤ xs.length) => bePut_any lo g 8 8 y0 y1 y2 y3 y4 y5 y6 y7 t xs W hl hB ho (by omega) k0 k1 k2 k3 k4 k5 k6 k7)
  clear h0 h1 h2 h3 h4 h5 h6 h7 k0 k1 k2 k3 k4 k5 k6 k7 ex ey
  unfold addrV
  go_enter Tryd.func60, Tryd.ntmps60
  go_wp2_with fail
  generalize hW : (w.alloc (.cells #[.int .u64 (hi : Int), .int .u64 (lo : Int), .pointer p] 89)).alloc (.cells #[.int .u8 0, .int .u8 0, .int .u8 0, .int .u8 0, .int .u8 0, .int .u8 0, .int .u8 0, .int .u8 0, .int .u8 0, .int .u8 0, .int .u8 0, .int .u8 0, .int .u8 0, .int .u8 0, .int .u8 0, .int .u8 0] 71) = W1 at *
  have Hbw : Hid (Below w.heap.size w W1) := hide (by rw [← hW]; exact ((Below.refl _ _).alloc (Nat.le_refl _) _).alloc (by simp) _)
  have hbk : Blk W1 (w.heap.size + 1) 71 (List.replicate 16 (.int .u8 0)) := by
    rw [← hW]
    have := Blk.new (w.alloc (.cells #[.int .u64 (hi : Int), .int .u64 (lo : Int), .pointer p] 89)) 71 (List.replicate 16 (.int .u8 0))
    rw [show (w.alloc (.cells #[.int .u64 (hi : Int), .int .u64 (lo : Int), .pointer p] 89)).heap.size = w.heap.size + 1 by simp] at this
    exact this
  have hbx : Blk W1 w.heap.size 89 [.int .u64 (hi : Int), .int .u64 (lo : Int), .pointer p] := by
    rw [← hW]
    exact (Blk.new w 89 [.int .u64 (hi : Int), .int .u64 (lo : Int), .pointer p]).alloc _
  have c1 : W1.cell? ⟨w.heap.size, 0, none⟩ = some (.int .u64 (hi : Int)) := hbx.cell 0
  have Hc1 := hide (HB1.out W1.drew (w.heap.size + 1) 71 _ hbk.drew (by simp))
  have Hbx := hide hbx
  have Hbk := hide hbk
  clear hW hbk hbx
  go_still_tail 4, (by kernel_rfl)
  change wpList _ _ _ _ _ W1.drew
  go_wp2_with fail
  with_reducible refine Hc1.out.mono ?_
  rintro e W2 ⟨rfl, hf2⟩
  have hk2 : Kept (just (w.heap.size + 1)) W1 W2 := hf2.2.1
  have hbx2 : Blk W2 w.heap.size 89 [.int .u64 (hi : Int), .int .u64 (lo : Int), .pointer p] := Hbx.out.keep hk2 (by unfold just; omega)
  have c2 : W2.cell? ⟨w.heap.size, 1, none⟩ = some (.int .u64 (lo : Int)) := hbx2.cell 1
  have Hc2 := hide (HB2.out W2.drew (w.heap.size + 1) 71 _ hf2.1.drew (by rw [put4_length (by simp)]; simp))
  have Hf2 := hide hf2
  clear hf2 hk2 hbx2 c1 Hc1
  go_wp2_with fail
  go_still_tail 4, (by kernel_rfl)
  change wpList _ _ _ _ _ W2.drew
  go_wp2_with fail
  with_reducible refine Hc2.out.mono ?_
  rintro e W3 ⟨rfl, hf3⟩
  have hb3 : Blk W3 (w.heap.size + 1) 71 ([x0, x1, x2, x3, x4, x5, x6, x7, y0, y1, y2, y3, y4, y5, y6, y7].map fun b => Value.int .u8 (b.toNat : Int)) := hf3.1
  have d0 : W3.cell? ⟨w.heap.size + 1, 0, none⟩ = some (.int .u8 (x0.toNat : Int)) := hb3.cell 0
  have d1 : W3.cell? ⟨w.heap.size + 1, 1, none⟩ = some (.int .u8 (x1.toNat : Int)) := hb3.cell 1
  have d2 : W3.cell? ⟨w.heap.size + 1, 2, none⟩ = some (.int .u8 (x2.toNat : Int)) := hb3.cell 2
  have d3 : W3.cell? ⟨w.heap.size + 1, 3, none⟩ = some (.int .u8 (x3.toNat : Int)) := hb3.cell 3
  have d4 : W3.cell? ⟨w.heap.size + 1, 4, none⟩ = some (.int .u8 (x4.toNat : Int)) := hb3.cell 4
  have d5 : W3.cell? ⟨w.heap.size + 1, 5, none⟩ = some (.int .u8 (x5.toNat : Int)) := hb3.cell 5
  have d6 : W3.cell? ⟨w.heap.size + 1, 6, none⟩ = some (.int .u8 (x6.toNat : Int)) := hb3.cell 6
  have d7 : W3.cell? ⟨w.heap.size + 1, 7, none⟩ = some (.int .u8 (x7.toNat : Int)) := hb3.cell 7
  have d8 : W3.cell? ⟨w.heap.size + 1, 8, none⟩ = some (.int .u8 (y0.toNat : Int)) := hb3.cell 8
  have d9 : W3.cell? ⟨w.heap.size + 1, 9, none⟩ = some (.int .u8 (y1.toNat : Int)) := hb3.cell 9
  have d10 : W3.cell? ⟨w.heap.size + 1, 10, none⟩ = some (.int .u8 (y2.toNat : Int)) := hb3.cell 10
  have d11 : W3.cell? ⟨w.heap.size + 1, 11, none⟩ = some (.int .u8 (y3.toNat : Int)) := hb3.cell 11
  have d12 : W3.cell? ⟨w.heap.size + 1, 12, none⟩ = some (.int .u8 (y4.toNat : Int)) := hb3.cell 12
  have d13 : W3.cell? ⟨w.heap.size + 1, 13, none⟩ = some (.int .u8 (y5.toNat : Int)) := hb3.cell 13
  have d14 : W3.cell? ⟨w.heap.size + 1, 14, none⟩ = some (.int .u8 (y6.toNat : Int)) := hb3.cell 14
  have d15 : W3.cell? ⟨w.heap.size + 1, 15, none⟩ = some (.int .u8 (y7.toNat : Int)) := hb3.cell 15
  have fz : ∀ i, W3.frozen? ⟨w.heap.size + 1, i, none⟩ = false := fun i => hb3.frozen i
  have Hb3 : Hid (Below w.heap.size w W3) := hide (by
    have k2 : Kept (just (w.heap.size + 1)) W1 W2 := Hf2.out.2.1
    have k3 : Kept (just (w.heap.size + 1)) W2 W3 := hf3.2.1
    refine Hbw.out.trans ⟨hf3.2.2.1.trans Hf2.out.2.2.1, hf3.2.2.2.1.trans Hf2.out.2.2.2.1, hf3.2.2.2.2.1.trans Hf2.out.2.2.2.2.1, (k2.trans k3).1, fun q hq => (k2.trans k3).2 q (by have := Hbw.out.size; omega) (by unfold just; omega)⟩)
  clear hf3 hb3 Hc2 c2
  go_wp2_with fail
  refine bodyPost_ret (v := by16 [x0, x1, x2, x3, x4, x5, x6, x7, y0, y1, y2, y3, y4, y5, y6, y7]) (by simp [results, Tryd.results60, by16, go_sem, *]) rfl ⟨rfl, ?_⟩
  iterate 16 refine Below.setCell ?_ (by simp) _
  exact Hb3.out
end Go.Proofs.YtmfcgglgolajnaaDoor
/-
  The contracts of Handle.Value and Addr.Zone.
-/
namespace Go.Proofs.YtmfcgglgolajnaaDoor
open Go.RowKit
set_option linter.unusedVariables false

theorem cell_alloc1 {w : World} {a : Addr} {v : Value} (h : w.cell? a = some v) (o1 : Obj) : (w.alloc o1).cell? a = some v :=
  (World.cell?_of_block (Below.heap_alloc w o1 a.block (World.block_lt_of_cell? _ _ h))).trans h
theorem cell_alloc2 {w : World} {a : Addr} {v : Value} (h : w.cell? a = some v) (o1 o2 : Obj) : ((w.alloc o1).alloc o2).cell? a = some v := cell_alloc1 (cell_alloc1 h o1) o2

set_option maxRecDepth 100000 in
set_option maxHeartbeats 800000 in
theorem value_any (g o : Nat) (b : Bool) (z : ByteArray) (w : World) (h1 : w.cell? ⟨g, o, none⟩ = some (.bool b)) (h2 : w.cell? ⟨g, o + 1, none⟩ = some (.string z)) :
    Calls Tryd.prog 70 #[.agg #[.pointer (some ⟨g, o, none⟩)]] w fun e w' => e = .returned (.agg #[.bool b, .string z]) ∧ Below w.heap.size w w' := by
  have k1 := cell_alloc2 h1
  have k2 := cell_alloc2 h2
  have hB : Hid (∀ o1 o2, Below w.heap.size w ((w.alloc o1).alloc o2)) := hide (fun o1 o2 => ((Below.refl _ _).alloc (Nat.le_refl _) _).alloc (by simp) _)
  go_enter Tryd.func70, Tryd.ntmps70
  go_wp2_with fail
  refine bodyPost_ret (v := .agg #[.bool b, .string z]) (by simp [results, Tryd.results70, go_sem]) rfl ⟨rfl, hB.out _ _⟩

theorem run_eq_some (d : Nat) (a : Addr) (w : World) : (Op.equalIn (d + 1) 85 (.pointer (some a)) (.pointer none)).run Tryd.prog w = .ok false w := by
  have hu : Tryd.prog.underlying 85 = some (.pointer 106) := by kernel_rfl
  simp [Op.equalIn, run_underlying hu]
theorem run_eq_nil (g o : Nat) (w : World) : (Op.equalIn 9999 85 (.pointer (some ⟨g, o, none⟩)) (.pointer none)).run Tryd.prog w = .ok false w := run_eq_some 9998 _ w

theorem run_field1 (b : Bool) (z : ByteArray) (w : World) : (Instr.field 106 (.agg #[.bool b, .string z]) 1).run Tryd.prog w = .ok (.string z) w := by
  have hu := Tryd.underlying106
  simp [Instr.field, run_underlying hu, go_sem, asAgg]

set_option maxRecDepth 100000 in
set_option maxHeartbeats 800000 in
theorem zone_any (hi lo g o : Nat) (b : Bool) (z : ByteArray) (w : World) (h0 : w.cell? ⟨2, 0, none⟩ = some (.pointer none)) (h1 : w.cell? ⟨g, o, none⟩ = some (.bool b)) (h2 : w.cell? ⟨g, o + 1, none⟩ = some (.string z)) :
    Calls Tryd.prog 59 #[addrV hi lo (some ⟨g, o, none⟩)] w fun e w' => e = .returned (.string z) ∧ Below w.heap.size w w' := by
  have k0 := cell_alloc1 h0
  have Hc := hide (fun o1 => value_any g o b z (w.alloc o1) (cell_alloc1 h1 o1) (cell_alloc1 h2 o1))
  have hB : Hid (∀ o1, Below w.heap.size w (w.alloc o1)) := hide (fun o1 => (Below.refl _ _).alloc (Nat.le_refl _) _)
  have hq := run_eq_nil g o
  have hf := run_field1 b z
  unfold addrV
  go_enter Tryd.func59, Tryd.ntmps59
  go_wp2_with fail
  refine (Hc.out _).mono ?_
  rintro e w1 ⟨rfl, hb1⟩
  have Hb1 := hide ((hB.out _).trans (hb1.mono (by simp)))
  clear hb1
  go_wp2_with fail
  go_ret
  exact ⟨rfl, Hb1.out⟩
end Go.Proofs.YtmfcgglgolajnaaDoor
/-
  The contract of netip.parseIPv4.
-/
namespace Go.Proofs.YtmfcgglgolajnaaDoor
open Go.RowKit
set_option linter.unusedVariables false

/-- What the three handles are. -/
structure ZIs (w : World) (g4 o4 g6 o6 : Nat) : Prop where
  z0 : w.cell? ⟨2, 0, none⟩ = some (.pointer none)
  z4 : w.cell? ⟨3, 0, none⟩ = some (.pointer (some ⟨g4, o4, none⟩))
  z6 : w.cell? ⟨4, 0, none⟩ = some (.pointer (some ⟨g6, o6, none⟩))
  b4 : w.cell? ⟨g4, o4, none⟩ = some (.bool false)
  s4 : w.cell? ⟨g4, o4 + 1, none⟩ = some (.string ⟨#[]⟩)
  b6 : w.cell? ⟨g6, o6, none⟩ = some (.bool true)
  s6 : w.cell? ⟨g6, o6 + 1, none⟩ = some (.string ⟨#[]⟩)
theorem cell_below {w w' : World} {a : Addr} {v : Value} (h : w.cell? a = some v) (hb : Below w.heap.size w w') : w'.cell? a = some v :=
  (World.cell?_of_block (hb.block a.block (World.block_lt_of_cell? _ _ h))).trans h
theorem ZIs.below {w w' : World} {g4 o4 g6 o6 : Nat} (h : ZIs w g4 o4 g6 o6) (hb : Below w.heap.size w w') : ZIs w' g4 o4 g6 o6 :=
  ⟨cell_below h.z0 hb, cell_below h.z4 hb, cell_below h.z6 hb, cell_below h.b4 hb, cell_below h.s4 hb, cell_below h.b6 hb, cell_below h.s6 hb⟩
theorem FW.below {w wr : World} {g : Nat} {t : TypeId} {xs : List Value} {o : Nat} {done : List UInt8} (h : FW w g t xs o done wr) {B : Nat} (hB : B ≤ g) (hw : B ≤ w.heap.size) : Below B w wr :=
  ⟨h.2.2.1, h.2.2.2.1, h.2.2.2.2.1, h.2.1.1, fun k hk => h.2.1.2 k (by omega) (by unfold just; omega)⟩

/-- An address, or an error. -/
def RetAE (w : World) (r : Option Value) (e : Ending) (w' : World) : Prop :=
  ((∃ v, r = some v ∧ e = .returned (.tuple #[v, .nilIface])) ∨ (r = none ∧ ∃ T v, e = .returned (.tuple #[addrV 0 0 none, .iface T v]))) ∧ Below w.heap.size w w'
def addr4 (g4 o4 : Nat) : List UInt8 → Value
  | [a, b, c, d] => addrV 0 (lo4 a b c d) (some ⟨g4, o4, none⟩)
  | _ => .nilIface

set_option maxRecDepth 100000 in
set_option maxHeartbeats 1600000 in
theorem parse4_any (s : List UInt8) (w : World) (g4 o4 g6 o6 : Nat) (hz : ZIs w g4 o4 g6 o6) (hs : s.length ≤ 140737488351232) :
    Calls Tryd.prog 68 #[.string ⟨s.toArray⟩] w (RetAE w ((v4go s 0 0 []).map (addr4 g4 o4))) := by
  have Hv := hide (fun (W : World) (g c : Nat) (t : TypeId) (xs : List Value) (hB : Blk W g t xs) (ho : 0 + 4 ≤ xs.length) (hc : 4 ≤ c) => v4fields_any s 0 s.length g 0 c t xs W hB ho hc (Nat.zero_le _) (Nat.le_refl _) hs s (by simp))
  have Hz := hide hz
  have hlt : 3 < w.heap.size := World.block_lt_of_cell? _ _ hz.z4
  clear hz
  go_enter Tryd.func68, Tryd.ntmps68
  go_wp2_with fail
  generalize hW : (w.alloc (.cells #[.int .u64 0, .int .u64 0, .pointer none] 89)).alloc (.cells #[.int .u8 0, .int .u8 0, .int .u8 0, .int .u8 0] 100) = W1 at *
  have Hbw : Hid (Below w.heap.size w W1) := hide (by rw [← hW]; exact ((Below.refl _ _).alloc (Nat.le_refl _) _).alloc (by simp) _)
  have hsz : W1.heap.size = w.heap.size + 2 := by rw [← hW]; simp
  have hbk : Blk W1 (w.heap.size + 1) 100 [.int .u8 0, .int .u8 0, .int .u8 0, .int .u8 0] := by
    rw [← hW]
    have := Blk.new (w.alloc (.cells #[.int .u64 0, .int .u64 0, .pointer none] 89)) 100 [.int .u8 0, .int .u8 0, .int .u8 0, .int .u8 0]
    rw [show (w.alloc (.cells #[.int .u64 0, .int .u64 0, .pointer none] 89)).heap.size = w.heap.size + 1 by simp] at this
    exact this
  have hbr : Blk W1 w.heap.size 89 [.int .u64 0, .int .u64 0, .pointer none] := by
    rw [← hW]
    exact (Blk.new w 89 [.int .u64 0, .int .u64 0, .pointer none]).alloc _
  have Hc := hide (Hv.out W1 (w.heap.size + 1) 4 100 _ hbk (by simp) (Nat.le_refl _))
  rw [show ((0 : Nat) : Int) = (0 : Int) from rfl] at Hc
  have Hbr := hide hbr
  clear hW hbk hbr Hv
  with_reducible refine Hc.out.mono ?_
  rintro e W2 h2
  rcases h2 with ⟨fs, hfs, hfl, rfl, hf⟩ | ⟨hno, ⟨T, v, rfl⟩, done, hdl, hf⟩
  · have hb2 : Blk W2 w.heap.size 89 [.int .u64 0, .int .u64 0, .pointer none] := Hbr.out.keep hf.2.1 (by unfold just; omega)
    have hbb : Below w.heap.size w W2 := Hbw.out.trans (hf.below (by omega) (by omega))
    have Hbb := hide hbb
    obtain ⟨a, b, c, d, rfl⟩ : ∃ a b c d, fs = [a, b, c, d] := by
      match fs, hfl with
      | [a, b, c, d], _ => exact ⟨a, b, c, d, rfl⟩
    have hb4 : Blk W2 (w.heap.size + 1) 100 [.int .u8 (a.toNat : Int), .int .u8 (b.toNat : Int), .int .u8 (c.toNat : Int), .int .u8 (d.toNat : Int)] := hf.1
    have d0 : W2.cell? ⟨w.heap.size + 1, 0, none⟩ = some (.int .u8 (a.toNat : Int)) := hb4.cell 0
    have d1 : W2.cell? ⟨w.heap.size + 1, 1, none⟩ = some (.int .u8 (b.toNat : Int)) := hb4.cell 1
    have d2 : W2.cell? ⟨w.heap.size + 1, 2, none⟩ = some (.int .u8 (c.toNat : Int)) := hb4.cell 2
    have d3 : W2.cell? ⟨w.heap.size + 1, 3, none⟩ = some (.int .u8 (d.toNat : Int)) := hb4.cell 3
    have Ha := hide (addrFrom4_any a b c d W2 (some ⟨g4, o4, none⟩) (Hz.out.below hbb).z4)
    have Hb2 := hide hb2
    have Hfs := hide hfs
    clear hfs hfl hf hb2 hbb hb4 Hc
    go_wp2_with fail
    with_reducible refine Ha.out.mono ?_
    rintro e W3 ⟨rfl, hb3⟩
    have hb3r := Hb2.out.below hb3
    have e0 : W3.cell? ⟨w.heap.size, 0, none⟩ = some (.int .u64 0) := hb3r.cell 0
    have e1 : W3.cell? ⟨w.heap.size, 1, none⟩ = some (.int .u64 0) := hb3r.cell 1
    have e2 : W3.cell? ⟨w.heap.size, 2, none⟩ = some (.pointer none) := hb3r.cell 2
    have fz : ∀ i, W3.frozen? ⟨w.heap.size, i, none⟩ = false := fun i => hb3r.frozen i
    have Hb3 := hide (Hbb.out.trans (hb3.mono Hbb.out.size))
    clear hb3 hb3r d0 d1 d2 d3 Ha
    unfold addrV
    go_wp2_with fail
    refine bodyPost_ret (v := .tuple #[addrV 0 (lo4 a b c d) (some ⟨g4, o4, none⟩), .nilIface]) (by simp [results, Tryd.results68, addrV, go_sem, *]) rfl ?_
    refine ⟨Or.inl ⟨_, by rw [Hfs.out]; rfl, rfl⟩, ?_⟩
    iterate 3 refine Below.setCell ?_ (by simp) _
    exact Hb3.out
  · have hb2 : Blk W2 w.heap.size 89 [.int .u64 0, .int .u64 0, .pointer none] := Hbr.out.keep hf.2.1 (by unfold just; omega)
    have hbb : Below w.heap.size w W2 := Hbw.out.trans (hf.below (by omega) (by omega))
    have Hbb := hide hbb
    have e0 : W2.cell? ⟨w.heap.size, 0, none⟩ = some (.int .u64 0) := hb2.cell 0
    have e1 : W2.cell? ⟨w.heap.size, 1, none⟩ = some (.int .u64 0) := hb2.cell 1
    have e2 : W2.cell? ⟨w.heap.size, 2, none⟩ = some (.pointer none) := hb2.cell 2
    have fz : ∀ i, W2.frozen? ⟨w.heap.size, i, none⟩ = false := fun i => hb2.frozen i
    have Hno := hide hno
    clear hno hf hb2 hbb Hc
    go_wp2_with fail
    refine bodyPost_ret (v := .tuple #[addrV 0 0 none, .iface T v]) (by simp [results, Tryd.results68, addrV, go_sem, *]) rfl ?_
    refine ⟨Or.inr ⟨by rw [Hno.out]; rfl, T, v, rfl⟩, ?_⟩
    iterate 3 refine Below.setCell ?_ (by simp) _
    exact Hbb.out
end Go.Proofs.YtmfcgglgolajnaaDoor
/-
  The handles and the blocks that they lie in; comparing them.
-/
namespace Go.Proofs.YtmfcgglgolajnaaDoor
open Go.RowKit
set_option linter.unusedVariables false

structure ZX (w : World) (g4 o4 g6 o6 : Nat) : Prop where
  z : ZIs w g4 o4 g6 o6
  p4 : ∃ c t, w.heap[g4]? = some (.cells c t (0, 0))
  p6 : ∃ c t, w.heap[g6]? = some (.cells c t (0, 0))
theorem ZX.below {w w' : World} {g4 o4 g6 o6 : Nat} (h : ZX w g4 o4 g6 o6) (hb : Below w.heap.size w w') : ZX w' g4 o4 g6 o6 := by
  obtain ⟨hz, ⟨c, t, h4⟩, ⟨c', t', h6⟩⟩ := h
  exact ⟨hz.below hb, ⟨c, t, (hb.block g4 (block_lt h4)).trans h4⟩, ⟨c', t', (hb.block g6 (block_lt h6)).trans h6⟩⟩
theorem ZX.drew {w : World} {g4 o4 g6 o6 : Nat} (h : ZX w g4 o4 g6 o6) : ZX w.drew g4 o4 g6 o6 := h.below ((Below.refl _ _).drew)
theorem ZX.alloc {w : World} {g4 o4 g6 o6 : Nat} (h : ZX w g4 o4 g6 o6) (ob : Obj) : ZX (w.alloc ob) g4 o4 g6 o6 := h.below ((Below.refl _ _).alloc (Nat.le_refl _) _)
theorem ZX.ne {w : World} {g4 o4 g6 o6 : Nat} (h : ZX w g4 o4 g6 o6) : (⟨g6, o6, none⟩ : Addr) ≠ ⟨g4, o4, none⟩ := by
  intro e
  injection e with e1 e2
  subst e1 e2
  have := h.z.b4.symm.trans h.z.b6
  simp at this
theorem ZX.eq46d (d : Nat) {w : World} {g4 o4 g6 o6 : Nat} (h : ZX w g4 o4 g6 o6) : (Op.equalIn (d + 1) 85 (.pointer (some ⟨g6, o6, none⟩)) (.pointer (some ⟨g4, o4, none⟩))).run Tryd.prog w = .ok false w := by
  obtain ⟨c, t, h4⟩ := h.p4
  obtain ⟨c', t', h6⟩ := h.p6
  have hu : Tryd.prog.underlying 85 = some (.pointer 106) := by kernel_rfl
  obtain ⟨j, hj⟩ : ∃ j, Tryd.prog.info? 106 = some j := by
    cases h : Tryd.prog.info? 106 with
    | none => exact absurd h (by
        intro h
        have : (Tryd.prog.info? 106).isSome = true := by kernel_rfl
        rw [h] at this; cases this)
    | some j => exact ⟨j, rfl⟩
  have hsz : j.size ≠ 0 := by
    have : Tryd.prog.cellsOf 106 = 2 := by kernel_rfl
    unfold Program.cellsOf at this
    rw [hj] at this
    simp at this
    omega
  have hs := run_sameAddr_other (P := Tryd.prog) w h.ne h6 h4
  simp [Op.equalIn, run_underlying hu, sizeOf, typeInfo, hj, hsz, hs]
theorem ZX.eq46 {w : World} {g4 o4 g6 o6 : Nat} (h : ZX w g4 o4 g6 o6) : (Op.equalIn 9999 85 (.pointer (some ⟨g6, o6, none⟩)) (.pointer (some ⟨g4, o4, none⟩))).run Tryd.prog w = .ok false w := h.eq46d 9998
end Go.Proofs.YtmfcgglgolajnaaDoor
/-
  The contract of byteorder.BEUint64.
-/
namespace Go.Proofs.YtmfcgglgolajnaaDoor
open Go.RowKit
set_option linter.unusedVariables false

theorem or_step {s a i p : Nat} (hp : p = 2 ^ i) (hs : s < p) (h : p * a + s < 18446744073709551616) : bits .or .u64 (s : Int) ((a : Int) * (p : Int)) = ((s + a * p : Nat) : Int) := by
  have h1 : p * a < 18446744073709551616 := by omega
  have h2 : s < 18446744073709551616 := by omega
  have e := or_u64 (x := s) (y := a * p) (by omega) (by rw [Nat.mul_comm]; omega)
  have h3 : s ||| a * p = s + a * p := by
    rw [Nat.or_comm, Nat.mul_comm a p]
    subst hp
    rw [or_add hs]; omega
  rw [h3] at e
  rw [← e]; push_cast; rfl
/-- The number of eight bytes, the first one first. -/
def num8 (x0 x1 x2 x3 x4 x5 x6 x7 : UInt8) : Nat := x7.toNat + x6.toNat * 256 + x5.toNat * 65536 + x4.toNat * 16777216 + x3.toNat * 4294967296 + x2.toNat * 1099511627776 + x1.toNat * 281474976710656 + x0.toNat * 72057594037927936
theorem num8_lt (x0 x1 x2 x3 x4 x5 x6 x7 : UInt8) : num8 x0 x1 x2 x3 x4 x5 x6 x7 < 18446744073709551616 := by
  have := x0.toNat_lt; have := x1.toNat_lt; have := x2.toNat_lt; have := x3.toNat_lt; have := x4.toNat_lt; have := x5.toNat_lt; have := x6.toNat_lt; have := x7.toNat_lt
  unfold num8; omega
theorem ofNat_of {x : UInt8} {n : Nat} (h : n = x.toNat) : UInt8.ofNat n = x := by rw [h, UInt8.ofNat_toNat]
theorem be8_num8 (x0 x1 x2 x3 x4 x5 x6 x7 : UInt8) : be8 (num8 x0 x1 x2 x3 x4 x5 x6 x7) = [x0, x1, x2, x3, x4, x5, x6, x7] := by
  have := x0.toNat_lt; have := x1.toNat_lt; have := x2.toNat_lt; have := x3.toNat_lt; have := x4.toNat_lt; have := x5.toNat_lt; have := x6.toNat_lt; have := x7.toNat_lt
  unfold be8 num8
  rw [ofNat_of (x := x0) (by omega), ofNat_of (x := x1) (by omega), ofNat_of (x := x2) (by omega), ofNat_of (x := x3) (by omega), ofNat_of (x := x4) (by omega), ofNat_of (x := x5) (by omega), ofNat_of (x := x6) (by omega), ofNat_of (x := x7) (by omega)]
theorem num8_bits (x0 x1 x2 x3 x4 x5 x6 x7 : UInt8) :
    bits .or .u64 (bits .or .u64 (bits .or .u64 (bits .or .u64 (bits .or .u64 (bits .or .u64 (bits .or .u64 (x7.toNat : Int) ((x6.toNat : Int) * 256)) ((x5.toNat : Int) * 65536)) ((x4.toNat : Int) * 16777216)) ((x3.toNat : Int) * 4294967296)) ((x2.toNat : Int) * 1099511627776)) ((x1.toNat : Int) * 281474976710656)) ((x0.toNat : Int) * 72057594037927936) = ((num8 x0 x1 x2 x3 x4 x5 x6 x7 : Nat) : Int) := by
  have h0 := x0.toNat_lt; have h1 := x1.toNat_lt; have h2 := x2.toNat_lt; have h3 := x3.toNat_lt; have h4 := x4.toNat_lt; have h5 := x5.toNat_lt; have h6 := x6.toNat_lt; have h7 := x7.toNat_lt
  have e1 := or_step (s := x7.toNat) (a := x6.toNat) (i := 8) (p := 256) (by decide) (by omega) (by omega)
  have e2 := or_step (s := x7.toNat + x6.toNat * 256) (a := x5.toNat) (i := 16) (p := 65536) (by decide) (by omega) (by omega)
  have e3 := or_step (s := x7.toNat + x6.toNat * 256 + x5.toNat * 65536) (a := x4.toNat) (i := 24) (p := 16777216) (by decide) (by omega) (by omega)
  have e4 := or_step (s := x7.toNat + x6.toNat * 256 + x5.toNat * 65536 + x4.toNat * 16777216) (a := x3.toNat) (i := 32) (p := 4294967296) (by decide) (by omega) (by omega)
  have e5 := or_step (s := x7.toNat + x6.toNat * 256 + x5.toNat * 65536 + x4.toNat * 16777216 + x3.toNat * 4294967296) (a := x2.toNat) (i := 40) (p := 1099511627776) (by decide) (by omega) (by omega)
  have e6 := or_step (s := x7.toNat + x6.toNat * 256 + x5.toNat * 65536 + x4.toNat * 16777216 + x3.toNat * 4294967296 + x2.toNat * 1099511627776) (a := x1.toNat) (i := 48) (p := 281474976710656) (by decide) (by omega) (by omega)
  have e7 := or_step (s := x7.toNat + x6.toNat * 256 + x5.toNat * 65536 + x4.toNat * 16777216 + x3.toNat * 4294967296 + x2.toNat * 1099511627776 + x1.toNat * 281474976710656) (a := x0.toNat) (i := 56) (p := 72057594037927936) (by decide) (by omega) (by omega)
  have f1 : bits .or .u64 (x7.toNat : Int) ((x6.toNat : Int) * 256) = _ := e1
  rw [f1]
  have f2 : bits .or .u64 ((x7.toNat + x6.toNat * 256 : Nat) : Int) ((x5.toNat : Int) * 65536) = _ := e2
  rw [f2]
  have f3 : bits .or .u64 ((x7.toNat + x6.toNat * 256 + x5.toNat * 65536 : Nat) : Int) ((x4.toNat : Int) * 16777216) = _ := e3
  rw [f3]
  have f4 : bits .or .u64 ((x7.toNat + x6.toNat * 256 + x5.toNat * 65536 + x4.toNat * 16777216 : Nat) : Int) ((x3.toNat : Int) * 4294967296) = _ := e4
  rw [f4]
  have f5 : bits .or .u64 ((x7.toNat + x6.toNat * 256 + x5.toNat * 65536 + x4.toNat * 16777216 + x3.toNat * 4294967296 : Nat) : Int) ((x2.toNat : Int) * 1099511627776) = _ := e5
  rw [f5]
  have f6 : bits .or .u64 ((x7.toNat + x6.toNat * 256 + x5.toNat * 65536 + x4.toNat * 16777216 + x3.toNat * 4294967296 + x2.toNat * 1099511627776 : Nat) : Int) ((x1.toNat : Int) * 281474976710656) = _ := e6
  rw [f6]
  exact e7

set_option maxRecDepth 100000 in
set_option maxHeartbeats 3200000 in
theorem beU64_any (g o c : Nat) (x0 x1 x2 x3 x4 x5 x6 x7 : UInt8) (w : World) (hc : 8 ≤ c)
    (c0 : w.cell? ⟨g, o, none⟩ = some (.int .u8 (x0.toNat : Int))) (c1 : w.cell? ⟨g, o + 1, none⟩ = some (.int .u8 (x1.toNat : Int))) (c2 : w.cell? ⟨g, o + 2, none⟩ = some (.int .u8 (x2.toNat : Int))) (c3 : w.cell? ⟨g, o + 3, none⟩ = some (.int .u8 (x3.toNat : Int))) (c4 : w.cell? ⟨g, o + 4, none⟩ = some (.int .u8 (x4.toNat : Int))) (c5 : w.cell? ⟨g, o + 5, none⟩ = some (.int .u8 (x5.toNat : Int))) (c6 : w.cell? ⟨g, o + 6, none⟩ = some (.int .u8 (x6.toNat : Int))) (c7 : w.cell? ⟨g, o + 7, none⟩ = some (.int .u8 (x7.toNat : Int))) :
    Calls Tryd.prog 76 #[.slice (some ⟨g, o, none⟩) 8 c] w fun e w' => e = .returned (.int .u64 (num8 x0 x1 x2 x3 x4 x5 x6 x7 : Int)) ∧ ∃ m, w' = w.drewN m := by
  have Hn := hide (num8_bits x0 x1 x2 x3 x4 x5 x6 x7)
  have h0 := lt_256 x0; have h1 := lt_256 x1; have h2 := lt_256 x2; have h3 := lt_256 x3; have h4 := lt_256 x4; have h5 := lt_256 x5; have h6 := lt_256 x6; have h7 := lt_256 x7
  go_enter Tryd.func76, Tryd.ntmps76
  go_wp2_with fail
  go_quiet (fail)
  go_wp2_with fail
  rw [Hn.out]
  go_ret
  exact ⟨rfl, _, rfl⟩
end Go.Proofs.YtmfcgglgolajnaaDoor
/-
  The contracts of netip.AddrFrom16, Addr.Is6, Addr.WithZone of no zone, IPv6Unspecified.
-/
namespace Go.Proofs.YtmfcgglgolajnaaDoor
open Go.RowKit
set_option linter.unusedVariables false

set_option maxRecDepth 100000 in
set_option maxHeartbeats 800000 in
theorem is6_any (hi lo : Nat) (w : World) (g4 o4 g6 o6 : Nat) (hz : ZX w g4 o4 g6 o6) :
    Calls Tryd.prog 79 #[addrV hi lo (some ⟨g6, o6, none⟩)] w fun e w' => e = .returned (.bool true) ∧ Below w.heap.size w w' := by
  have k0 := fun ob => (hz.alloc ob).z.z0
  have k4 := fun ob => (hz.alloc ob).z.z4
  have q0 := run_eq_nil g6 o6
  have q4 := fun ob => (hz.alloc ob).eq46
  have hB : Hid (∀ o1, Below w.heap.size w (w.alloc o1)) := hide (fun o1 => (Below.refl _ _).alloc (Nat.le_refl _) _)
  clear hz
  unfold addrV
  go_enter Tryd.func79, Tryd.ntmps79
  go_wp2_with fail
  go_ret
  exact ⟨rfl, hB.out _⟩

set_option maxRecDepth 100000 in
set_option maxHeartbeats 800000 in
theorem unspec_any (w : World) (g4 o4 g6 o6 : Nat) (hz : ZX w g4 o4 g6 o6) :
    Calls Tryd.prog 85 #[] w fun e w' => e = .returned (addrV 0 0 (some ⟨g6, o6, none⟩)) ∧ Below w.heap.size w w' := by
  have k6 := fun ob => (hz.alloc ob).z.z6
  have hB : Hid (∀ o1, Below w.heap.size w (w.alloc o1)) := hide (fun o1 => (Below.refl _ _).alloc (Nat.le_refl _) _)
  clear hz
  go_enter Tryd.func85, Tryd.ntmps85
  go_wp2_with fail
  refine bodyPost_ret (v := addrV 0 0 (some ⟨g6, o6, none⟩)) (by simp [results, Tryd.results85, addrV, go_sem]) rfl ⟨rfl, hB.out _⟩

set_option maxRecDepth 100000 in
set_option maxHeartbeats 1600000 in
theorem withZone_any (hi lo : Nat) (w : World) (g4 o4 g6 o6 : Nat) (hz : ZX w g4 o4 g6 o6) :
    Calls Tryd.prog 86 #[addrV hi lo (some ⟨g6, o6, none⟩), .string ⟨#[]⟩] w fun e w' => e = .returned (addrV hi lo (some ⟨g6, o6, none⟩)) ∧ Below w.heap.size w w' := by
  have Hz := hide hz
  clear hz
  unfold addrV
  go_enter Tryd.func86, Tryd.ntmps86
  go_wp2_with fail
  generalize hW : (w.alloc (.cells #[.int .u64 (hi : Int), .int .u64 (lo : Int), .pointer (some ⟨g6, o6, none⟩)] 89)).alloc (.cells #[.int .u64 0, .int .u64 0, .pointer none] 89) = W1 at *
  have Hbw : Hid (Below w.heap.size w W1) := hide (by rw [← hW]; exact ((Below.refl _ _).alloc (Nat.le_refl _) _).alloc (by simp) _)
  have hsz : W1.heap.size = w.heap.size + 2 := by rw [← hW]; simp
  have hbk : Blk W1 (w.heap.size + 1) 89 [.int .u64 0, .int .u64 0, .pointer none] := by
    rw [← hW]
    have := Blk.new (w.alloc (.cells #[.int .u64 (hi : Int), .int .u64 (lo : Int), .pointer (some ⟨g6, o6, none⟩)] 89)) 89 [.int .u64 0, .int .u64 0, .pointer none]
    rw [show (w.alloc (.cells #[.int .u64 (hi : Int), .int .u64 (lo : Int), .pointer (some ⟨g6, o6, none⟩)] 89)).heap.size = w.heap.size + 1 by simp] at this
    exact this
  have hbr : Blk W1 w.heap.size 89 [.int .u64 (hi : Int), .int .u64 (lo : Int), .pointer (some ⟨g6, o6, none⟩)] := by
    rw [← hW]
    exact (Blk.new w 89 [.int .u64 (hi : Int), .int .u64 (lo : Int), .pointer (some ⟨g6, o6, none⟩)]).alloc _
  have H6 := hide (is6_any hi lo W1 g4 o4 g6 o6 (Hz.out.below Hbw.out))
  unfold addrV at H6
  have Hbk := hide hbk
  have Hbr := hide hbr
  clear hW hbk hbr
  with_reducible refine H6.out.mono ?_
  rintro e W2 ⟨rfl, hb2⟩
  have hbw2 := Hbw.out.trans (hb2.mono Hbw.out.size)
  have hk := Hbk.out.below hb2
  have hr := Hbr.out.below hb2
  have c0 : W2.cell? ⟨w.heap.size, 0, none⟩ = some (.int .u64 (hi : Int)) := hr.cell 0
  have c1 : W2.cell? ⟨w.heap.size, 1, none⟩ = some (.int .u64 (lo : Int)) := hr.cell 1
  have c2 : W2.cell? ⟨w.heap.size, 2, none⟩ = some (.pointer (some ⟨g6, o6, none⟩)) := hr.cell 2
  have d0 : W2.cell? ⟨w.heap.size + 1, 0, none⟩ = some (.int .u64 0) := hk.cell 0
  have d1 : W2.cell? ⟨w.heap.size + 1, 1, none⟩ = some (.int .u64 0) := hk.cell 1
  have d2 : W2.cell? ⟨w.heap.size + 1, 2, none⟩ = some (.pointer none) := hk.cell 2
  have f0 : ∀ i, W2.frozen? ⟨w.heap.size, i, none⟩ = false := fun i => hr.frozen i
  have f1 : ∀ i, W2.frozen? ⟨w.heap.size + 1, i, none⟩ = false := fun i => hk.frozen i
  have z6 := (Hz.out.below hbw2).z.z6
  have hlt : 4 < w.heap.size := World.block_lt_of_cell? _ _ Hz.out.z.z6
  have hne : ¬ (4 = w.heap.size) := by omega
  have hne1 : ¬ (4 = w.heap.size + 1) := by omega
  have Hbw2 := hide hbw2
  clear hb2 hbw2 hk hr H6
  go_wp2_with fail
  refine bodyPost_ret (v := addrV hi lo (some ⟨g6, o6, none⟩)) (by simp [results, Tryd.results86, addrV, go_sem, *]) rfl ?_
  refine ⟨rfl, ?_⟩
  iterate 4 refine Below.setCell ?_ (by simp) _
  exact Hbw2.out

set_option maxRecDepth 100000 in
set_option maxHeartbeats 3200000 in
theorem addrFrom16_any (x0 x1 x2 x3 x4 x5 x6 x7 y0 y1 y2 y3 y4 y5 y6 y7 : UInt8) (w : World) (g4 o4 g6 o6 : Nat) (hz : ZX w g4 o4 g6 o6) :
    Calls Tryd.prog 63 #[by16 [x0, x1, x2, x3, x4, x5, x6, x7, y0, y1, y2, y3, y4, y5, y6, y7]] w fun e w' => e = .returned (addrV (num8 x0 x1 x2 x3 x4 x5 x6 x7) (num8 y0 y1 y2 y3 y4 y5 y6 y7) (some ⟨g6, o6, none⟩)) ∧ Below w.heap.size w w' := by
  have Hz := hide hz
  clear hz
  unfold by16
  simp only [List.map]
  go_enter Tryd.func63, Tryd.ntmps63
  go_wp2_with fail
  generalize hW : (w.alloc (.cells #[.int .u8 (x0.toNat : Int), .int .u8 (x1.toNat : Int), .int .u8 (x2.toNat : Int), .int .u8 (x3.toNat : Int), .int .u8 (x4.toNat : Int), .int .u8 (x5.toNat : Int), .int .u8 (x6.toNat : Int), .int .u8 (x7.toNat : Int), .int .u8 (y0.toNat : Int), .int .u8 (y1.toNat : Int), .int .u8 (y2.toNat : Int), .int .u8 (y3.toNat : Int), .int .u8 (y4.toNat : Int), .int .u8 (y5.toNat : Int), .int .u8 (y6.toNat : Int), .int .u8 (y7.toNat : Int)] 71)).alloc (.cells #[.int .u64 0, .int .u64 0, .pointer none] 89) = W1 at *
  have Hbw : Hid (Below w.heap.size w W1) := hide (by rw [← hW]; exact ((Below.refl _ _).alloc (Nat.le_refl _) _).alloc (by simp) _)
  have hbk : Blk W1 (w.heap.size + 1) 89 [.int .u64 0, .int .u64 0, .pointer none] := by
    rw [← hW]
    have := Blk.new (w.alloc (.cells #[.int .u8 (x0.toNat : Int), .int .u8 (x1.toNat : Int), .int .u8 (x2.toNat : Int), .int .u8 (x3.toNat : Int), .int .u8 (x4.toNat : Int), .int .u8 (x5.toNat : Int), .int .u8 (x6.toNat : Int), .int .u8 (x7.toNat : Int), .int .u8 (y0.toNat : Int), .int .u8 (y1.toNat : Int), .int .u8 (y2.toNat : Int), .int .u8 (y3.toNat : Int), .int .u8 (y4.toNat : Int), .int .u8 (y5.toNat : Int), .int .u8 (y6.toNat : Int), .int .u8 (y7.toNat : Int)] 71)) 89 [.int .u64 0, .int .u64 0, .pointer none]
    rw [show (w.alloc (.cells #[.int .u8 (x0.toNat : Int), .int .u8 (x1.toNat : Int), .int .u8 (x2.toNat : Int), .int .u8 (x3.toNat : Int), .int .u8 (x4.toNat : Int), .int .u8 (x5.toNat : Int), .int .u8 (x6.toNat : Int), .int .u8 (x7.toNat : Int), .int .u8 (y0.toNat : Int), .int .u8 (y1.toNat : Int), .int .u8 (y2.toNat : Int), .int .u8 (y3.toNat : Int), .int .u8 (y4.toNat : Int), .int .u8 (y5.toNat : Int), .int .u8 (y6.toNat : Int), .int .u8 (y7.toNat : Int)] 71)).heap.size = w.heap.size + 1 by simp] at this
    exact this
  have hbx : Blk W1 w.heap.size 71 ([x0, x1, x2, x3, x4, x5, x6, x7, y0, y1, y2, y3, y4, y5, y6, y7].map fun b => Value.int .u8 (b.toNat : Int)) := by
    rw [← hW]
    exact (Blk.new w 71 ([x0, x1, x2, x3, x4, x5, x6, x7, y0, y1, y2, y3, y4, y5, y6, y7].map fun b => Value.int .u8 (b.toNat : Int))).alloc _
  have H1 := hide (fun (W : World) (hWh : W.heap = W1.heap) => (beU64_any w.heap.size 0 16 x0 x1 x2 x3 x4 x5 x6 x7 W (by omega)
    ((World.cell?_of_block (by rw [hWh])).trans (hbx.cell 0)) ((World.cell?_of_block (by rw [hWh])).trans (hbx.cell 1)) ((World.cell?_of_block (by rw [hWh])).trans (hbx.cell 2)) ((World.cell?_of_block (by rw [hWh])).trans (hbx.cell 3)) ((World.cell?_of_block (by rw [hWh])).trans (hbx.cell 4)) ((World.cell?_of_block (by rw [hWh])).trans (hbx.cell 5)) ((World.cell?_of_block (by rw [hWh])).trans (hbx.cell 6)) ((World.cell?_of_block (by rw [hWh])).trans (hbx.cell 7))))
  have H2 := hide (fun (W : World) (hWh : W.heap = W1.heap) => (beU64_any w.heap.size 8 8 y0 y1 y2 y3 y4 y5 y6 y7 W (by omega)
    ((World.cell?_of_block (by rw [hWh])).trans (hbx.cell 8)) ((World.cell?_of_block (by rw [hWh])).trans (hbx.cell 9)) ((World.cell?_of_block (by rw [hWh])).trans (hbx.cell 10)) ((World.cell?_of_block (by rw [hWh])).trans (hbx.cell 11)) ((World.cell?_of_block (by rw [hWh])).trans (hbx.cell 12)) ((World.cell?_of_block (by rw [hWh])).trans (hbx.cell 13)) ((World.cell?_of_block (by rw [hWh])).trans (hbx.cell 14)) ((World.cell?_of_block (by rw [hWh])).trans (hbx.cell 15))))
  have d0 : W1.cell? ⟨w.heap.size + 1, 0, none⟩ = some (.int .u64 0) := hbk.cell 0
  have d1 : W1.cell? ⟨w.heap.size + 1, 1, none⟩ = some (.int .u64 0) := hbk.cell 1
  have d2 : W1.cell? ⟨w.heap.size + 1, 2, none⟩ = some (.pointer none) := hbk.cell 2
  have f1 : ∀ i, W1.frozen? ⟨w.heap.size + 1, i, none⟩ = false := fun i => hbk.frozen i
  have z6 := (Hz.out.below Hbw.out).z.z6
  clear hW hbk hbx
  go_region_with (first
    | (go_at_call 76; (with_reducible refine (H1.out _ ?_).mono ?_); (exact rfl); rintro e w' ⟨rfl, m1, rfl⟩)
    | (go_at_call 76; (with_reducible refine (H2.out _ ?_).mono ?_); (exact rfl); rintro e w' ⟨rfl, m2, rfl⟩))
  all_goals
    (go_wp2_with fail
     refine bodyPost_ret (v := addrV (num8 x0 x1 x2 x3 x4 x5 x6 x7) (num8 y0 y1 y2 y3 y4 y5 y6 y7) (some ⟨g6, o6, none⟩)) (by simp [results, Tryd.results63, addrV, go_sem, *]) rfl ?_
     refine ⟨rfl, ?_⟩
     iterate 3 refine Below.setCell ?_ (by simp) _
     exact below_drewN Hbw.out _)
end Go.Proofs.YtmfcgglgolajnaaDoor
