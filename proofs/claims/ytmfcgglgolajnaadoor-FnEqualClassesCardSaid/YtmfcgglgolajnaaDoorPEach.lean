/-
  The contracts of ParseEach, fOne and fRead, at texts without a colon ahead of the first full stop.
-/
import Derived.Test.YtmfcgglgolajnaaDoorPIP
import Derived.Test.YtmfcgglgolajnaaDoorFormBytes
import Derived.Test.YtmfcgglgolajnaaDoorMade
import Derived.Test.YtmfcgglgolajnaaDoorLong
namespace Go.Proofs.YtmfcgglgolajnaaDoor
open Go.RowKit
set_option linter.unusedVariables false

theorem v4go_length : ∀ (s : List UInt8) (val dl : Nat) (done fs : List UInt8), done.length ≤ 3 → v4go s val dl done = some fs → fs.length = 4
  | [], val, dl, done, fs, hd, h => by
    rw [v4go] at h
    split at h
    · cases h
    · injection h with h; subst h; simp; omega
  | c :: cs, val, dl, done, fs, hd, h => by
    rw [v4go] at h
    split at h
    · split at h
      · cases h
      · split at h
        · cases h
        · exact v4go_length cs _ _ _ _ hd h
    · split at h
      · split at h
        · cases h
        · split at h
          · cases h
          · exact v4go_length cs _ _ _ _ (by simp; omega) h
      · cases h
theorem u8_of {n : Nat} {x : UInt8} (h : n % 256 = x.toNat) : UInt8.ofNat n = x := UInt8.toNat_inj.1 (by rw [UInt8.toNat_ofNat']; exact h)
theorem be8_lo4 (a b c d : UInt8) : be8 0 ++ be8 (lo4 a b c d) = pre12 ++ [a, b, c, d] := by
  have ha := a.toNat_lt
  have hb := b.toNat_lt
  have hc := c.toNat_lt
  have hd := d.toNat_lt
  have e0 : be8 0 = [0, 0, 0, 0, 0, 0, 0, 0] := by decide
  have e : be8 (lo4 a b c d) = [0, 0, 255, 255, a, b, c, d] := by
    unfold be8 lo4
    rw [u8_of (x := 0) (by simp; omega), u8_of (x := 0) (by simp; omega), u8_of (x := 255) (by simp; omega), u8_of (x := 255) (by simp; omega), u8_of (x := a) (by omega), u8_of (x := b) (by omega), u8_of (x := c) (by omega), u8_of (x := d) (by omega)]
  rw [e0, e]
  rfl

/-- What a text of dotted decimal is read to: 16 bytes, or nothing. -/
def read4 (s : List UInt8) : Option (List UInt8) := if scanL s = some 46 then (v4go s 0 0 []).map (pre12 ++ ·) else none
theorem noZone4 {w : World} {g4 o4 g6 o6 : Nat} (s : List UInt8) (hz : ZIs w g4 o4 g6 o6) (hc : scanL s ≠ some 58) : NoZone w (pa s g4 o4 none) (read4 s) := by
  unfold pa read4
  by_cases h46 : scanL s = some 46
  · rw [if_pos h46, if_pos h46]
    cases hv : v4go s 0 0 [] with
    | none => exact Or.inl ⟨rfl, rfl⟩
    | some fs =>
      have hl := v4go_length s 0 0 [] fs (by simp) hv
      match fs, hl with
      | [a, b, c, d], _ =>
        right
        refine ⟨0, lo4 a b c d, g4, o4, false, rfl, ?_, by omega, ?_, hz.b4, hz.s4⟩
        · rw [be8_lo4]; rfl
        · have := a.toNat_lt; have := b.toNat_lt; have := c.toNat_lt; have := d.toNat_lt; unfold lo4; omega
  · rw [if_neg h46, if_neg h46, if_neg hc]
    exact Or.inl ⟨rfl, rfl⟩
theorem addrLike4 (s : List UInt8) (g4 o4 : Nat) : AddrLike ((v4go s 0 0 []).map (addr4 g4 o4)) := by
  intro v hv
  cases h : v4go s 0 0 [] with
  | none => rw [h] at hv; cases hv
  | some fs =>
    have hl := v4go_length s 0 0 [] fs (by simp) h
    rw [h] at hv
    injection hv with hv
    match fs, hl with
    | [a, b, c, d], _ => exact ⟨_, _, _, hv.symm⟩
theorem read4_len {s bs : List UInt8} (h : read4 s = some bs) : bs.length = 16 := by
  unfold read4 at h
  split at h
  · cases hv : v4go s 0 0 [] with
    | none => rw [hv] at h; cases h
    | some fs =>
      rw [hv] at h
      injection h with h
      subst h
      have := v4go_length s 0 0 [] fs (by simp) hv
      simp [pre12, this]
  · cases h

theorem parseIP4_any (s : List UInt8) (w : World) (g4 o4 g6 o6 : Nat) (hz : ZIs w g4 o4 g6 o6) (hs : s.length ≤ 140737488351232) (hc : scanL s ≠ some 58) :
    Calls Tryd.prog 37 #[.string ⟨s.toArray⟩] w (RetP w (read4 s)) :=
  parseIP_any s w (read4 s) (fun bs h => read4_len h)
    (parseip_any s w g4 o4 g6 o6 (pa s g4 o4 none) (read4 s) hz (noZone4 s hz hc)
      (fun W hW => parseAddr_any s W g4 o4 g6 o6 none (hz.below hW) hs (addrLike4 s g4 o4) (fun v h => by cases h) (fun h => absurd h hc)))

def readB (s : List UInt8) : List UInt8 := (read4 s).getD []
theorem readB_snoc {ss : List (List UInt8)} {k : Nat} {s : List UInt8} (h : ss[k]? = some s) : (ss.take (k + 1)).map readB = (ss.take k).map readB ++ [readB s] := by rw [take_snoc h]; simp

set_option maxRecDepth 100000 in
set_option maxHeartbeats 1600000 in
theorem parseEach_any (L : Option Addr) (N e : Nat) (ss : List (List UInt8)) (w : World) (g4 o4 g6 o6 : Nat) (hL : RS w no L N e ss) (hN : N * 24 ≤ 140737488351232) (hz : ZIs w g4 o4 g6 o6) (hall : ∀ s ∈ ss, s.length ≤ 140737488351232 ∧ scanL s ≠ some 58) :
    Calls Tryd.prog 21 #[.slice L N e] w (RetBB w (ss.map readB)) := by
  obtain ⟨i0, hi, hz0, hz1, hz2⟩ := info_parts bytes_info
  have HL := hide hL
  have Hz := hide hz
  have Hall := hide hall
  have Hst := hide (Made.start no w)
  clear hL hz hall
  go_enter Tryd.func21, Tryd.ntmps21
  go_wp2_with fail
  go_loopw [3, 9] (fun v i wr => ∃ k : Nat, k ≤ N ∧ i = .int .i64 k ∧ Made no w ((ss.take k).map readB) v wr) (fun _ i _ => N - (intOf i).toNat)
  case atStart => exact ⟨0, Nat.zero_le _, rfl, Hst.out⟩
  case round =>
    obtain ⟨k, hk, rfl, hr⟩ := hrel
    have Hr := hide hr
    by_cases hlt : k < N
    · obtain ⟨xs, h1, h2, h3⟩ := hr
      obtain ⟨g, o, s, rfl, hsk, hc⟩ := (HL.out.below h3).at_ hlt
      obtain ⟨hsl, hsc⟩ := Hall.out s (List.mem_of_getElem? hsk)
      have Hcall := hide (parseIP4_any s wr g4 o4 g6 o6 (Hz.out.below h3) hsl hsc)
      have Hsn := hide (readB_snoc hsk)
      have hlen : ((ss.take k).map readB).length = k := by rw [List.length_map, List.length_take, HL.out.len]; omega
      rw [hlen] at h1
      have Hlen := hide hlen
      have H1 := hide h1
      have H2 := hide h2
      have H3 := hide h3
      have Hown : Hid (∀ g, rowOf u3 g → g < wr.heap.size) := hide fun g h => (h1.lt g h).2
      have Hread : Hid (∀ bs, read4 s = some bs → readB s = bs) := hide (fun bs h => by unfold readB; rw [h]; rfl)
      have Hread0 : Hid (read4 s = none → readB s = []) := hide (fun h => by unfold readB; rw [h]; rfl)
      generalize readB s = rb at *
      generalize (ss.take k).map readB = al at *
      clear h1 h2 h3 hsk hsl hsc hlen Hr
      go_wp2_with fail
      with_reducible refine Hcall.out.mono ?_
      rintro e W1 ⟨h1, hb1⟩
      obtain ⟨A1, c1, m1, rfl, hrb, hm1⟩ : ∃ A1 c1 m1, e = .returned (.slice A1 m1 c1) ∧ RB W1 no A1 m1 c1 rb ∧ m1 ≤ 16 := by
        rcases h1 with ⟨bs, g, h, hl, he, hr⟩ | ⟨h, he⟩
        · rw [Hread.out bs h]; exact ⟨_, _, _, he, hr, Nat.le_refl _⟩
        · rw [Hread0.out h]; exact ⟨_, _, _, he, RB.nil, Nat.zero_le _⟩
      have Hf := hide (formBytes_own A1 m1 c1 rb W1 no hrb (by omega))
      have Hb1 := hide hb1
      clear h1 hb1 hrb Hcall
      go_wp2_with fail
      with_reducible refine Hf.out.mono ?_
      rintro e W2 ⟨vc, rfl, hcv, hb2⟩
      have hb12 : Below wr.heap.size wr W2 := Hb1.out.trans (hb2.mono Hb1.out.size)
      obtain ⟨A2, c2, rfl, hr2⟩ := RB.of_own_av (av := fun g => no g ∨ rowOf u3 g) hcv (by
        intro g hg
        rcases hg with hg | hg
        · exact hg.elim
        · have := Hown.out g hg; have := Hb1.out.size; omega)
      have h1' := own_below H1.out hb12
      have H1' := hide h1'
      have H2' := hide (H2.out.keep (Kept.of_below hb12 _))
      have hb3 := H3.out.trans (hb12.mono H3.out.size)
      have H3' := hide hb3
      have Hr2 := hide hr2
      have hsz := hb3.size
      have Ha := hide (h1'.alloc (.cells #[.slice A2 m1 c2] 22))
      clear hcv hb2 hb12 hr2 h1' hb3 Hf
      go_wp2_with (at_builtin; refine wpList_append_rd _ rfl (.tmp 13) (.tmp 17) _ rfl w.heap.size 22 i0 _ 24 Tryd.underlying27 hi hz0 hz1 hz2 rfl _ k _ rfl Ha.out no (some ⟨W2.heap.size, 0, none⟩) 1 1 [.slice A2 m1 c2] rfl ?_ ?_ ?_ ?_ ?_ ?_)
      · exact Rd.one W2 _ _ no (fun h => h)
      · first | rfl | (intro u hu; simp at hu; subst hu; rfl)
      · unfold maxLen; omega
      · omega
      · first | omega | (simp; omega)
      intro v' w3 q1 q2 q3
      have hM := Made.step (by rw [Hlen.out]; exact H1'.out) H2'.out H3'.out Hr2.out (by rw [Hlen.out]; exact q1) q2 q3
      rw [← Hsn.out] at hM
      have HM := hide hM
      clear q1 q2 q3 hM
      go_wp2_with fail
      go_roundw
      case rel => exact ⟨k + 1, by omega, by go_num, HM.out⟩
      case measure => simp [intOf]; omega
    · obtain rfl : k = N := by omega
      clear hr
      go_wp2_with fail
      go_ret
      have h := Hr.out.ret
      rw [List.take_of_length_le (by rw [HL.out.len]; omega)] at h
      exact h
end Go.Proofs.YtmfcgglgolajnaaDoor
