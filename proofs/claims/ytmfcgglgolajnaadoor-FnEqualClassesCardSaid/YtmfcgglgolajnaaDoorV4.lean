/-
  The contract of netip.parseIPv4Fields. (In the making.)
-/
import Derived.Test.YtmfcgglgolajnaaDoorBase
import Derived.Test.YtmfcgglgolajnaaDoorBlk
import Derived.Test.YtmfcgglgolajnaaDoorStrs
import Derived.Test.YtmfcgglgolajnaaDoorDecL
namespace Go.Proofs.YtmfcgglgolajnaaDoor
open Go.RowKit
set_option linter.unusedVariables false

theorem ba_extract (s : List UInt8) (a b : Nat) : (ByteArray.mk s.toArray).extract a b = ⟨((s.take b).drop a).toArray⟩ := by
  apply ByteArray.ext
  rw [ByteArray.data_extract]
  apply Array.toList_inj.1
  rw [Array.toList_extract]
  simp [List.extract, List.take_drop]
  by_cases h : a ≤ b
  · rw [show a + (b - a) = b by omega]
  · rw [show a + (b - a) = a by omega, List.drop_eq_nil_of_le (by rw [List.length_take]; omega), List.drop_eq_nil_of_le (by rw [List.length_take]; omega)]

/-- The numbers so far lie in the fields. -/
def put4 (xs : List Value) (o : Nat) (done : List UInt8) : List Value := xs.take o ++ (done.map fun b => .int .u8 (b.toNat : Int)) ++ xs.drop (o + done.length)
theorem put4_nil (xs : List Value) (o : Nat) : put4 xs o [] = xs := by unfold put4; simp
theorem put4_length {xs : List Value} {o : Nat} {done : List UInt8} (h : o + done.length ≤ xs.length) : (put4 xs o done).length = xs.length := by unfold put4; simp; omega
theorem put4_set {xs : List Value} {o : Nat} {done : List UInt8} (x : UInt8) (h : o + done.length < xs.length) : (put4 xs o done).set (o + done.length) (.int .u8 (x.toNat : Int)) = put4 xs o (done ++ [x]) := by
  unfold put4
  have h1 : (xs.take o ++ (done.map fun b => Value.int .u8 (b.toNat : Int))).length = o + done.length := by simp; omega
  rw [List.set_append, if_neg (by omega), h1, Nat.sub_self, List.drop_eq_getElem_cons h, List.set_cons_zero]
  simp [Nat.add_assoc]

/-- What parseIPv4Fields has written so far. -/
def FW (w : World) (g : Nat) (t : TypeId) (xs : List Value) (o : Nat) (done : List UInt8) (wr : World) : Prop :=
  Blk wr g t (put4 xs o done) ∧ Kept (just g) w wr ∧ wr.os = w.os ∧ wr.tape = w.tape ∧ wr.output = w.output ∧ wr.heap.size = w.heap.size
theorem FW.start {w : World} {g : Nat} {t : TypeId} {xs : List Value} (o : Nat) (h : Blk w g t xs) : FW w g t xs o [] w := ⟨by rw [put4_nil]; exact h, Kept.refl _ _, rfl, rfl, rfl, rfl⟩
theorem FW.step {w wr : World} {g : Nat} {t : TypeId} {xs : List Value} {o : Nat} {done : List UInt8} (h : FW w g t xs o done wr) (x : UInt8) (hl : o + done.length < xs.length) : FW w g t xs o (done ++ [x]) (wr.setCell ⟨g, o + done.length, none⟩ (.int .u8 (x.toNat : Int))) := by
  obtain ⟨h1, h2, h3, h4, h5, h6⟩ := h
  exact ⟨by rw [← put4_set x hl]; exact h1.set_ _ _, h2.trans Kept.setCell, h3, h4, h5, by simp [World.setCell, h6]⟩

/-- A digit's index, as the loop sees it. -/
def AtDot (u : List UInt8) (i dl : Nat) : Prop := (dl = 0 ↔ i = 0 ∨ u[i - 1]? = some 46) ∧ dl ≤ i

set_option maxRecDepth 100000 in
set_option maxHeartbeats 1600000 in
theorem v4fields_any (s : List UInt8) (off fin g o c : Nat) (t : TypeId) (xs : List Value) (w : World) (hB : Blk w g t xs) (ho : o + 4 ≤ xs.length) (hc : 4 ≤ c) (h1 : off ≤ fin) (h2 : fin ≤ s.length) (h3 : s.length ≤ 140737488351232) (u : List UInt8) (hu : (s.take fin).drop off = u) :
    Calls Tryd.prog 83 #[.string ⟨s.toArray⟩, .int .i64 (off : Int), .int .i64 (fin : Int), .slice (some ⟨g, o, none⟩) 4 c] w fun e w' =>
      (∃ fs, v4go u 0 0 [] = some fs ∧ fs.length = 4 ∧ e = .returned .nilIface ∧ FW w g t xs o fs w') ∨ (v4go u 0 0 [] = none ∧ (∃ T v, e = .returned (.iface T v)) ∧ ∃ done, done.length ≤ 4 ∧ FW w g t xs o done w') := by
  have i1 : (off : Int) ≤ fin := by omega
  have i2 : (fin : Int) ≤ s.length := by omega
  have HB := hide hB
  have Hu := hide hu
  have hul : u.length ≤ 140737488351232 := by rw [← hu]; simp; omega
  clear hB hu
  go_enter Tryd.func83, Tryd.ntmps83
  go_wp2_with fail
  rw [ba_extract, Hu.out]
  go_loopw [9, 10, 11, 13] (fun s9 s10 s11 s13 wr => ∃ (i val dl : Nat) (done : List UInt8), i ≤ u.length ∧ s9 = .int .i64 val ∧ s10 = .int .i64 done.length ∧ s11 = .int .i64 dl ∧ s13 = .int .i64 i ∧ val ≤ 255 ∧ done.length ≤ 3 ∧ v4go (u.drop i) val dl done = v4go u 0 0 [] ∧ AtDot u i dl ∧ FW w g t xs o done wr) (fun _ _ _ s13 _ => u.length - (intOf s13).toNat)
  case atStart => exact ⟨0, 0, 0, [], Nat.zero_le _, rfl, rfl, rfl, rfl, by omega, by simp, rfl, ⟨by simp, Nat.le_refl _⟩, FW.start o HB.out⟩
  case round =>
    obtain ⟨i, val, dl, done, hi, rfl, rfl, rfl, rfl, hval, hdone, hgo, hdot, hfw⟩ := hrel
    have Hgo := hide hgo
    have Hdot := hide hdot
    have Hfw := hide hfw
    generalize hpos : done.length = pos at *
    have Hpos := hide hpos
    have hdli := hdot.2
    clear hgo hdot hfw hpos
    by_cases hlt : i < u.length
    · obtain ⟨x, hx⟩ : ∃ x, u[i]? = some x := ⟨_, List.getElem?_eq_getElem hlt⟩
      have Hx := hide hx
      have k1 : (0 : Int) ≤ i := by omega
      have k2 : (i : Int) < u.length := by omega
      have hgx : (ByteArray.mk u.toArray)[i]'(by simpa [ByteArray.size] using hlt) = x := by
        have h := hx
        rw [List.getElem?_eq_getElem hlt] at h
        exact Option.some.inj h
      have hdr : u.drop i = x :: u.drop (i + 1) := by
        rw [List.getElem?_eq_getElem hlt] at hx
        injection hx with hx
        rw [← hx]
        exact (List.getElem_cons_drop hlt).symm
      have hgo := Hgo.out
      rw [hdr] at hgo
      have Hgo1 := hide hgo
      have hx256 := lt_256 x
      clear hx hdr hgo
      by_cases hdig : isDig x = true
      · have hd : (48 : Int) ≤ (x.toNat : Int) ∧ (x.toNat : Int) ≤ 57 := by
          unfold isDig at hdig; simp at hdig; omega
        obtain ⟨d1, d2⟩ := hd
        have Hdig := hide hdig
        clear hdig
        have hgo : (if dl = 1 ∧ val = 0 then none else if 255 < val * 10 + (x.toNat - 48) then none else v4go (u.drop (i + 1)) (val * 10 + (x.toNat - 48)) (dl + 1) done) = v4go u 0 0 [] := by
          have h := Hgo1.out
          rw [v4go, if_pos Hdig.out] at h
          exact h
        have Hgo2 := hide hgo
        clear hgo
        have Hdot2 : Hid (AtDot u (i + 1) (dl + 1)) := hide ⟨by
          rw [show i + 1 - 1 = i by omega, Hx.out]
          have : x ≠ 46 := fun e => by have := Hdig.out; rw [e] at this; rw [dot_notdig] at this; cases this
          simp [this], by have := Hdot.out.2; omega⟩
        by_cases hlz : dl = 1 ∧ val = 0
        · have Hend : Hid (v4go u 0 0 [] = none) := hide (by have h := Hgo2.out; rw [if_pos hlz] at h; exact h.symm)
          obtain ⟨rfl, rfl⟩ := hlz
          go_wp2_with fail
          go_ret
          exact Or.inr ⟨Hend.out, ⟨_, _, rfl⟩, done, by rw [Hpos.out]; omega, Hfw.out⟩
        · have hgo3 := Hgo2.out
          rw [if_neg hlz] at hgo3
          have Hgo3 := hide hgo3
          clear hgo3
          by_cases hbig : 255 < val * 10 + (x.toNat - 48)
          · have b1 : (255 : Int) < (val : Int) * 10 + (x.toNat : Int) - 48 := by omega
            have Hend : Hid (v4go u 0 0 [] = none) := hide (by have h := Hgo3.out; rw [if_pos hbig] at h; exact h.symm)
            by_cases hdl : dl = 1
            · subst hdl
              have hv0 : ((val : Int) == 0) = false := by rw [beq_eq_false_iff_ne]; omega
              clear hbig hlz
              go_wp2_with fail
              go_ret
              exact Or.inr ⟨Hend.out, ⟨_, _, rfl⟩, done, by rw [Hpos.out]; omega, Hfw.out⟩
            · have hd0 : ((dl : Int) == 1) = false := by rw [beq_eq_false_iff_ne]; omega
              clear hbig hlz
              go_wp2_with fail
              go_ret
              exact Or.inr ⟨Hend.out, ⟨_, _, rfl⟩, done, by rw [Hpos.out]; omega, Hfw.out⟩
          · have b1 : ¬ ((255 : Int) < (val : Int) * 10 + (x.toNat : Int) - 48) := by omega
            have Hnext : Hid (v4go (u.drop (i + 1)) (val * 10 + (x.toNat - 48)) (dl + 1) done = v4go u 0 0 []) := hide (by have h := Hgo3.out; rw [if_neg hbig] at h; exact h)
            by_cases hdl : dl = 1
            · subst hdl
              have hv0 : ((val : Int) == 0) = false := by rw [beq_eq_false_iff_ne]; omega
              clear hlz
              go_wp2_with fail
              go_roundw
              case rel => exact ⟨i + 1, val * 10 + (x.toNat - 48), 2, done, by omega, by go_num, by rw [Hpos.out], rfl, by go_num, by omega, by rw [Hpos.out]; omega, Hnext.out, Hdot2.out, Hfw.out⟩
              case measure => simp [intOf]; omega
            · have hd0 : ((dl : Int) == 1) = false := by rw [beq_eq_false_iff_ne]; omega
              clear hlz
              go_wp2_with fail
              go_roundw
              case rel => exact ⟨i + 1, val * 10 + (x.toNat - 48), dl + 1, done, by omega, by go_num, by rw [Hpos.out], by go_num, by go_num, by omega, by rw [Hpos.out]; omega, Hnext.out, Hdot2.out, Hfw.out⟩
              case measure => simp [intOf]; omega
      · have Hdig := hide hdig
        by_cases hx46 : x = 46
        · subst hx46
          have hgo : (if dl = 0 ∨ u.drop (i + 1) = [] then none else if done.length = 3 then none else v4go (u.drop (i + 1)) 0 0 (done ++ [UInt8.ofNat val])) = v4go u 0 0 [] := by
            have h := Hgo1.out
            rw [v4go, if_neg Hdig.out, if_pos rfl] at h
            exact h
          have Hgo2 := hide hgo
          clear hgo hdig
          have Hdot2 : Hid (AtDot u (i + 1) 0) := hide ⟨by rw [show i + 1 - 1 = i by omega, Hx.out]; simp, Nat.zero_le _⟩
          by_cases hi0 : i = 0
          · subst hi0
            have Hend : Hid (v4go u 0 0 [] = none) := hide (by
              have h := Hgo2.out
              rw [if_pos (Or.inl (Hdot.out.1.2 (Or.inl rfl)))] at h
              exact h.symm)
            go_wp2_with fail
            go_ret
            exact Or.inr ⟨Hend.out, ⟨_, _, rfl⟩, done, by rw [Hpos.out]; omega, Hfw.out⟩
          · have hi0' : ((i : Int) == 0) = false := by rw [beq_eq_false_iff_ne]; omega
            by_cases hil : i = u.length - 1
            · have hil' : ((i : Int) == (u.length : Int) - 1) = true := by rw [beq_iff_eq]; omega
              have Hend : Hid (v4go u 0 0 [] = none) := hide (by
                have h := Hgo2.out
                rw [if_pos (Or.inr (List.drop_eq_nil_of_le (by omega)))] at h
                exact h.symm)
              clear hil
              go_wp2_with fail
              go_ret
              exact Or.inr ⟨Hend.out, ⟨_, _, rfl⟩, done, by rw [Hpos.out]; omega, Hfw.out⟩
            · have hil' : ((i : Int) == (u.length : Int) - 1) = false := by rw [beq_eq_false_iff_ne]; omega
              obtain ⟨y, hy⟩ : ∃ y, u[i - 1]? = some y := ⟨_, List.getElem?_eq_getElem (by omega)⟩
              have hgy : (ByteArray.mk u.toArray)[i - 1]'(by simp [ByteArray.size]; omega) = y := by
                have h := hy
                rw [List.getElem?_eq_getElem (show i - 1 < u.length by omega)] at h
                exact Option.some.inj h
              have m1 : (0 : Int) ≤ (i : Int) - 1 := by omega
              have m2 : (i : Int) - 1 < u.length := by omega
              have m3 : ((i : Int) - 1).toNat = i - 1 := by omega
              have hy256 := lt_256 y
              by_cases hy46 : y = 46
              · subst hy46
                have Hend : Hid (v4go u 0 0 [] = none) := hide (by
                  have h := Hgo2.out
                  rw [if_pos (Or.inl (Hdot.out.1.2 (Or.inr hy)))] at h
                  exact h.symm)
                clear hy
                go_wp2_with fail
                go_ret
                exact Or.inr ⟨Hend.out, ⟨_, _, rfl⟩, done, by rw [Hpos.out]; omega, Hfw.out⟩
              · have hyb : ((y.toNat : Int) == 46) = false := by
                  rw [beq_eq_false_iff_ne]; intro e; exact hy46 (UInt8.toNat_inj.1 (by simp; omega))
                have hnz : ¬ (dl = 0 ∨ u.drop (i + 1) = []) := by
                  intro h
                  rcases h with h | h
                  · rcases Hdot.out.1.1 h with h | h
                    · exact hi0 h
                    · rw [hy] at h; injection h with h; exact hy46 h
                  · have := congrArg List.length h
                    rw [List.length_drop] at this
                    simp at this
                    omega
                have hgo := Hgo2.out
                rw [if_neg hnz, Hpos.out] at hgo
                have Hgo3 := hide hgo
                clear hgo hnz hy hy46
                by_cases hp3 : pos = 3
                · subst hp3
                  have Hend : Hid (v4go u 0 0 [] = none) := hide (by have h := Hgo3.out; rw [if_pos rfl] at h; exact h.symm)
                  go_wp2_with fail
                  go_ret
                  exact Or.inr ⟨Hend.out, ⟨_, _, rfl⟩, done, by rw [Hpos.out]; omega, Hfw.out⟩
                · have hp3' : ((pos : Int) == 3) = false := by rw [beq_eq_false_iff_ne]; omega
                  have Hnext : Hid (v4go (u.drop (i + 1)) 0 0 (done ++ [UInt8.ofNat val]) = v4go u 0 0 []) := hide (by have h := Hgo3.out; rw [if_neg hp3] at h; exact h)
                  have hst := Hfw.out.step (UInt8.ofNat val) (by rw [Hpos.out]; omega)
                  have hvn : (UInt8.ofNat val).toNat = val := by rw [UInt8.toNat_ofNat']; omega
                  rw [hvn, Hpos.out] at hst
                  have Hst := hide hst
                  have hfz := Hfw.out.1.frozen (o + pos)
                  obtain ⟨cv, hcv⟩ : ∃ cv, wr.cell? ⟨g, o + pos, none⟩ = some cv := ⟨_, by rw [Hfw.out.1.cell]; exact List.getElem?_eq_getElem (by rw [put4_length (by rw [Hpos.out]; omega)]; omega)⟩
                  have p1 : (0 : Int) ≤ pos := by omega
                  have p2 : (pos : Int) < 4 := by omega
                  have hv1 : (0 : Int) ≤ (val : Int) := by omega
                  have hv2 : (val : Int) < 256 := by omega
                  have hv3 : (val : Int) % 256 = val := by omega
                  clear hst hvn
                  go_wp2_with fail
                  go_roundw
                  case rel => exact ⟨i + 1, 0, 0, done ++ [UInt8.ofNat val], by omega, rfl, by rw [List.length_append, Hpos.out]; go_num, rfl, by go_num, by omega, by rw [List.length_append, Hpos.out]; simp; omega, Hnext.out, Hdot2.out, Hst.out⟩
                  case measure => simp [intOf]; omega
        · have Hend : Hid (v4go u 0 0 [] = none) := hide (by
            have h := Hgo1.out
            rw [v4go, if_neg Hdig.out, if_neg hx46] at h
            exact h.symm)
          have hxb : ((x.toNat : Int) == 46) = false := by
            rw [beq_eq_false_iff_ne]; intro e; exact hx46 (UInt8.toNat_inj.1 (by simp; omega))
          have hno : ¬ ((48 : Int) ≤ (x.toNat : Int)) ∨ ((48 : Int) ≤ (x.toNat : Int) ∧ ¬ ((x.toNat : Int) ≤ 57)) := by
            unfold isDig at hdig; simp at hdig; omega
          clear hdig hx46
          rcases hno with q1 | ⟨q1, q2⟩
          · go_wp2_with fail
            go_ret
            exact Or.inr ⟨Hend.out, ⟨_, _, rfl⟩, done, by rw [Hpos.out]; omega, Hfw.out⟩
          · go_wp2_with fail
            go_ret
            exact Or.inr ⟨Hend.out, ⟨_, _, rfl⟩, done, by rw [Hpos.out]; omega, Hfw.out⟩
    · obtain rfl : i = u.length := by omega
      have hgo : (if done.length < 3 then none else some (done ++ [UInt8.ofNat val])) = v4go u 0 0 [] := by
        have h := Hgo.out
        rw [List.drop_length, v4go] at h
        exact h
      rw [Hpos.out] at hgo
      have Hgo2 := hide hgo
      clear hgo
      by_cases hp3 : pos < 3
      · have p3 : (pos : Int) < 3 := by omega
        have Hend : Hid (v4go u 0 0 [] = none) := hide (by have h := Hgo2.out; rw [if_pos hp3] at h; exact h.symm)
        go_wp2_with fail
        go_ret
        exact Or.inr ⟨Hend.out, ⟨_, _, rfl⟩, done, by rw [Hpos.out]; omega, Hfw.out⟩
      · obtain rfl : pos = 3 := by omega
        have Hend : Hid (v4go u 0 0 [] = some (done ++ [UInt8.ofNat val])) := hide (by have h := Hgo2.out; rw [if_neg hp3] at h; exact h.symm)
        have hst := Hfw.out.step (UInt8.ofNat val) (by rw [Hpos.out]; omega)
        have hvn : (UInt8.ofNat val).toNat = val := by rw [UInt8.toNat_ofNat']; omega
        rw [hvn, Hpos.out] at hst
        have Hst := hide hst
        have hfz := Hfw.out.1.frozen (o + 3)
        obtain ⟨cv, hcv⟩ : ∃ cv, wr.cell? ⟨g, o + 3, none⟩ = some cv := ⟨_, by rw [Hfw.out.1.cell]; exact List.getElem?_eq_getElem (by rw [put4_length (by rw [Hpos.out]; omega)]; omega)⟩
        have hv1 : (0 : Int) ≤ (val : Int) := by omega
        have hv2 : (val : Int) < 256 := by omega
        have hv3 : (val : Int) % 256 = val := by omega
        clear hst hvn
        go_wp2_with fail
        go_ret
        exact Or.inl ⟨_, Hend.out, by rw [List.length_append, Hpos.out]; rfl, rfl, Hst.out⟩
end Go.Proofs.YtmfcgglgolajnaaDoor
