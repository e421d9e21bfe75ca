/-
  The text of an address tells the address. No program is named here.
-/
import Derived.Test.YtmfcgglgolajnaaDoorV6I
import Derived.Test.YtmfcgglgolajnaaDoorIPA
import Derived.Test.YtmfcgglgolajnaaDoorPEach
namespace Go.Proofs.YtmfcgglgolajnaaDoor
set_option linter.unusedVariables false

/-- What a text without a zone is read to. -/
def readAny (s : List UInt8) : Option (List UInt8) := if scanL s = some 46 then (v4go s 0 0 []).map (pre12 ++ ·) else if scanL s = some 58 then v6 s else none
theorem scan_d4 (a b c d : UInt8) : scanL (dotsL [a, b, c, d]) = some 46 := by
  have e := dotsL4 a b c d []
  rw [List.nil_append] at e
  rw [e]
  simp only [List.nil_append, List.append_assoc, List.cons_append]
  rw [scan_digs (decL_digs _), scan_dot]
theorem read_d4 (a b c d : UInt8) : readAny (dotsL [a, b, c, d]) = some (pre12 ++ [a, b, c, d]) := by
  unfold readAny
  rw [scan_d4, if_pos rfl, v4go_dots [a, b, c, d] [] (by simp) (by simp), if_pos (by simp)]
  rfl
theorem scan_txt6 (g : Nat → Nat) : scanL (txt6 g) = some 58 := by
  unfold txt6
  have hor := zfind_or g 8 (Nat.le_refl _)
  generalize hz : zfind g 8 = zf at *
  obtain ⟨zs, ze⟩ := zf
  have hzz : zs < 8 → zs < ze := by
    rcases hor with h | ⟨h1, h2, h3, h4⟩
    · injection h with e1 e2; omega
    · simp only at h1 h2 h3 h4; omega
  show scanL (w6 g zs ze 8 0) = some 58
  by_cases h0 : zs = 0
  · subst h0
    rw [w6_gap (hzz (by omega)) (by omega) (by omega)]
    rfl
  · have e : w6 g zs ze 8 0 = hexL (g 0) ++ w6 g zs ze 7 1 := by
      show (if 0 < 8 then (if 0 = zs then _ else (if 0 < 0 then [58] else []) ++ (hexL (g 0) ++ w6 g zs ze 7 (0 + 1))) else []) = _
      rw [if_pos (by omega), if_neg (by omega), if_neg (by omega)]
      rfl
    rw [e, scan_hex (hexL_hex _)]
    by_cases h1 : zs = 1
    · subst h1
      rw [w6_gap (hzz (by omega)) (by omega) (by omega)]
      rfl
    · rw [w6_at hzz (by omega) (by omega) (fun h => h1 h.symm) (by omega)]
      rfl
theorem two6_bytes (x y : UInt8) : two6 (x.toNat * 256 + y.toNat) = [x, y] := by
  have hx := x.toNat_lt
  have hy := y.toNat_lt
  unfold two6
  rw [ofNat_of (x := x) (by omega), ofNat_of (x := y) (by omega)]
theorem seg_grpN (x0 x1 x2 x3 x4 x5 x6 x7 x8 x9 x10 x11 x12 x13 x14 x15 : UInt8) : seg (grpN [x0, x1, x2, x3, x4, x5, x6, x7, x8, x9, x10, x11, x12, x13, x14, x15]) 0 8 = [x0, x1, x2, x3, x4, x5, x6, x7, x8, x9, x10, x11, x12, x13, x14, x15] := by
  show two6 (x0.toNat * 256 + x1.toNat) ++ (two6 (x2.toNat * 256 + x3.toNat) ++ (two6 (x4.toNat * 256 + x5.toNat) ++ (two6 (x6.toNat * 256 + x7.toNat) ++ (two6 (x8.toNat * 256 + x9.toNat) ++ (two6 (x10.toNat * 256 + x11.toNat) ++ (two6 (x12.toNat * 256 + x13.toNat) ++ (two6 (x14.toNat * 256 + x15.toNat) ++ []))))))) = _
  simp only [two6_bytes]
  rfl
theorem mapd_is (x0 x1 x2 x3 x4 x5 x6 x7 x8 x9 x10 x11 x12 x13 x14 x15 : UInt8) (h : mapd [x0, x1, x2, x3, x4, x5, x6, x7, x8, x9, x10, x11, x12, x13, x14, x15] = true) : [x0, x1, x2, x3, x4, x5, x6, x7, x8, x9, x10, x11, x12, x13, x14, x15] = pre12 ++ [x12, x13, x14, x15] := by
  unfold mapd at h
  simp [zerosB] at h
  obtain ⟨⟨h0, h1, h2, h3, h4, h5, h6, h7, h8, h9⟩, h10, h11⟩ := h
  subst h0 h1 h2 h3 h4 h5 h6 h7 h8 h9 h10 h11
  rfl
theorem read_ipText (b : List UInt8) (hb : b.length = 4 ∨ b.length = 16) : readAny (ipText b) = some (longOf b) := by
  rcases hb with h4 | h16
  · obtain ⟨x0, x1, x2, x3, rfl⟩ : ∃ x0 x1 x2 x3, b = [x0, x1, x2, x3] := by
      match b, h4 with
      | [x0, x1, x2, x3], _ => exact ⟨x0, x1, x2, x3, rfl⟩
    unfold ipText longOf
    rw [if_pos (by simp), if_pos (by simp), read_d4]
  · obtain ⟨x0, x1, x2, x3, x4, x5, x6, x7, x8, x9, x10, x11, x12, x13, x14, x15, rfl⟩ : ∃ x0 x1 x2 x3 x4 x5 x6 x7 x8 x9 x10 x11 x12 x13 x14 x15, b = [x0, x1, x2, x3, x4, x5, x6, x7, x8, x9, x10, x11, x12, x13, x14, x15] := by
      match b, h16 with
      | [x0, x1, x2, x3, x4, x5, x6, x7, x8, x9, x10, x11, x12, x13, x14, x15], _ => exact ⟨x0, x1, x2, x3, x4, x5, x6, x7, x8, x9, x10, x11, x12, x13, x14, x15, rfl⟩
    have hn : ¬ [x0, x1, x2, x3, x4, x5, x6, x7, x8, x9, x10, x11, x12, x13, x14, x15].length = 4 := by simp
    unfold ipText longOf
    rw [if_neg hn, if_neg hn]
    by_cases hm : mapd [x0, x1, x2, x3, x4, x5, x6, x7, x8, x9, x10, x11, x12, x13, x14, x15] = true
    · rw [if_pos hm, show List.drop 12 [x0, x1, x2, x3, x4, x5, x6, x7, x8, x9, x10, x11, x12, x13, x14, x15] = [x12, x13, x14, x15] from rfl, read_d4, ← mapd_is x0 x1 x2 x3 x4 x5 x6 x7 x8 x9 x10 x11 x12 x13 x14 x15 hm]
    · rw [if_neg hm]
      unfold readAny
      rw [scan_txt6, if_neg (by simp), if_pos rfl, v6_txt6 _ (grpN_lt _), seg_grpN]
/-- Two addresses have one text just if they are the same in 16 bytes. -/
theorem ipText_inj (b d : List UInt8) (hb : b.length = 4 ∨ b.length = 16) (hd : d.length = 4 ∨ d.length = 16) : ipText b = ipText d ↔ longOf b = longOf d := by
  constructor
  · intro h
    have h1 := read_ipText b hb
    rw [h, read_ipText d hd] at h1
    injection h1 with h1
    exact h1.symm
  · intro h
    have key : ∀ b : List UInt8, (b.length = 4 ∨ b.length = 16) → ipText b = ipText (longOf b) := by
      intro b hb
      rcases hb with h4 | h16
      · obtain ⟨x0, x1, x2, x3, rfl⟩ : ∃ x0 x1 x2 x3, b = [x0, x1, x2, x3] := by
          match b, h4 with
          | [x0, x1, x2, x3], _ => exact ⟨x0, x1, x2, x3, rfl⟩
        have e : longOf [x0, x1, x2, x3] = pre12 ++ [x0, x1, x2, x3] := by unfold longOf; rw [if_pos (by simp)]
        rw [e]
        unfold ipText
        rw [if_pos (by simp), if_neg (by simp [pre12]), if_pos (by unfold mapd pre12; simp [zerosB])]
        rfl
      · unfold longOf; rw [if_neg (by omega)]
    rw [key b hb, key d hd, h]
end Go.Proofs.YtmfcgglgolajnaaDoor
