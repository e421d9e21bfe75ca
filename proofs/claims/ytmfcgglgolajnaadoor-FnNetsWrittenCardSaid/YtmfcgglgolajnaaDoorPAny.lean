/-
  The contracts of ParseIP, ParseEach and fRead at any text without a per cent sign.
-/
import Derived.Test.YtmfcgglgolajnaaDoorV6
import Derived.Test.YtmfcgglgolajnaaDoorMD
import Derived.Test.YtmfcgglgolajnaaDoorMG
namespace Go.Proofs.YtmfcgglgolajnaaDoor
open Go.RowKit
set_option linter.unusedVariables false

theorem fin6_length {s done bs : List UInt8} {ell : Option Nat} (h : fin6 s ell done = some bs) (hd : done.length ≤ 16) (he : ∀ e, ell = some e → e ≤ done.length) : bs.length = 16 := by
  unfold fin6 at h
  split at h
  · cases h
  · split at h
    · cases ell with
      | none => cases h
      | some e =>
        injection h with h
        have := he e rfl
        subst h
        rw [List.length_append, List.length_append, List.length_take, List.length_replicate, List.length_drop]
        omega
    · cases ell with
      | none => injection h with h; subst h; omega
      | some e => cases h
theorem v6go_length : ∀ (n : Nat) (s : List UInt8) (ell : Option Nat) (done bs : List UInt8), v6go n s ell done = some bs → done.length + 2 * n = 16 → (∀ e, ell = some e → e ≤ done.length) → bs.length = 16
  | 0, s, ell, done, bs, h, hd, he => by
    rw [v6go] at h
    exact fin6_length h (by omega) he
  | n + 1, s, ell, done, bs, h, hd, he => by
    cases hg : grp s 0 0 with
    | none => rw [v6go, hg] at h; cases h
    | some p =>
      obtain ⟨m, a, r⟩ := p
      rw [v6go_eq hg] at h
      have hl2 : (done ++ two6 a).length = done.length + 2 := by rw [List.length_append]; rfl
      split at h
      · cases h
      · split at h
        · split at h
          · cases h
          · split at h
            · cases h
            · cases hv : v4go s 0 0 [] with
              | none => rw [hv] at h; cases h
              | some fs =>
                rw [hv] at h
                have h4 := v4go_length s 0 0 [] fs (by simp) hv
                exact fin6_length h (by rw [List.length_append]; omega) (fun e h' => by have := he e h'; rw [List.length_append]; omega)
        · unfold v6next at h
          split at h
          · exact fin6_length h (by omega) (fun e h' => by have := he e h'; omega)
          · split at h
            · cases h
            · split at h
              · cases h
              · split at h
                · split at h
                  · cases h
                  · split at h
                    · exact fin6_length h (by omega) (fun e h' => by injection h' with h'; omega)
                    · exact v6go_length n _ _ _ _ h (by omega) (fun e h' => by injection h' with h'; omega)
                · exact v6go_length n _ _ _ _ h (by omega) (fun e h' => by have := he e h'; omega)
theorem v6_length {s bs : List UInt8} (h : v6 s = some bs) : bs.length = 16 := by
  unfold v6 at h
  split at h
  · split at h
    · injection h with h; subst h; simp
    · exact v6go_length 8 _ _ _ _ h (by simp) (fun e h' => by injection h' with h'; omega)
  · exact v6go_length 8 _ _ _ _ h (by simp) (fun e h' => by cases h')
theorem be8_num8g (x0 x1 x2 x3 x4 x5 x6 x7 : UInt8) : be8 (num8 x0 x1 x2 x3 x4 x5 x6 x7) = [x0, x1, x2, x3, x4, x5, x6, x7] := by
  have := x0.toNat_lt; have := x1.toNat_lt; have := x2.toNat_lt; have := x3.toNat_lt; have := x4.toNat_lt; have := x5.toNat_lt; have := x6.toNat_lt; have := x7.toNat_lt
  unfold be8 num8
  rw [u8_of (x := x0) (by omega), u8_of (x := x1) (by omega), u8_of (x := x2) (by omega), u8_of (x := x3) (by omega), u8_of (x := x4) (by omega), u8_of (x := x5) (by omega), u8_of (x := x6) (by omega), u8_of (x := x7) (by omega)]
theorem v6_sixteen {s bs : List UInt8} (h : v6 s = some bs) : ∃ x0 x1 x2 x3 x4 x5 x6 x7 x8 x9 x10 x11 x12 x13 x14 x15, bs = [x0, x1, x2, x3, x4, x5, x6, x7, x8, x9, x10, x11, x12, x13, x14, x15] := by
  have hl := v6_length h
  match bs, hl with
  | [x0, x1, x2, x3, x4, x5, x6, x7, x8, x9, x10, x11, x12, x13, x14, x15], _ => exact ⟨x0, x1, x2, x3, x4, x5, x6, x7, x8, x9, x10, x11, x12, x13, x14, x15, rfl⟩
theorem addrLike6 (s : List UInt8) (g6 o6 : Nat) : AddrLike ((v6 s).map (addr6 g6 o6)) := by
  intro v hv
  cases h : v6 s with
  | none => rw [h] at hv; cases hv
  | some bs =>
    rw [h] at hv
    injection hv with hv
    obtain ⟨x0, x1, x2, x3, x4, x5, x6, x7, x8, x9, x10, x11, x12, x13, x14, x15, rfl⟩ := v6_sixteen h
    exact ⟨_, _, _, hv.symm⟩
theorem noZoneG {w : World} {g4 o4 g6 o6 : Nat} (s : List UInt8) (hz : ZIs w g4 o4 g6 o6) : NoZone w (pa s g4 o4 ((v6 s).map (addr6 g6 o6))) (readAny s) := by
  by_cases hc : scanL s = some 58
  · unfold pa readAny
    rw [if_neg (by rw [hc]; simp), if_pos hc, if_neg (by rw [hc]; simp), if_pos hc]
    cases h : v6 s with
    | none => exact Or.inl ⟨rfl, rfl⟩
    | some bs =>
      obtain ⟨x0, x1, x2, x3, x4, x5, x6, x7, x8, x9, x10, x11, x12, x13, x14, x15, rfl⟩ := v6_sixteen h
      right
      refine ⟨num8 x0 x1 x2 x3 x4 x5 x6 x7, num8 x8 x9 x10 x11 x12 x13 x14 x15, g6, o6, true, rfl, ?_, num8_lt .., num8_lt .., hz.b6, hz.s6⟩
      rw [be8_num8g, be8_num8g]; rfl
  · have h := noZone4 s hz hc
    have e1 : pa s g4 o4 ((v6 s).map (addr6 g6 o6)) = pa s g4 o4 none := by unfold pa; rw [if_neg hc, if_neg hc]
    have e2 : readAny s = read4 s := by unfold readAny read4; rw [if_neg hc]
    rw [e1, e2]
    exact h
theorem readAny_len {s bs : List UInt8} (h : readAny s = some bs) : bs.length = 16 := by
  by_cases hc : scanL s = some 58
  · unfold readAny at h
    rw [if_neg (by rw [hc]; simp), if_pos hc] at h
    exact v6_length h
  · have e2 : readAny s = read4 s := by unfold readAny read4; rw [if_neg hc]
    rw [e2] at h
    exact read4_len h
theorem parseIPG_any (s : List UInt8) (w : World) (g4 o4 g6 o6 : Nat) (hz : ZX w g4 o4 g6 o6) (hs : s.length ≤ 140737488351232) (h37 : (37 : UInt8) ∉ s) :
    Calls Tryd.prog 37 #[.string ⟨s.toArray⟩] w (RetP w (readAny s)) :=
  parseIP_any s w (readAny s) (fun bs h => readAny_len h)
    (parseip_any s w g4 o4 g6 o6 (pa s g4 o4 ((v6 s).map (addr6 g6 o6))) (readAny s) hz.z (noZoneG s hz.z)
      (fun W hW => parseAddr_any s W g4 o4 g6 o6 _ (hz.z.below hW) hs (addrLike4 s g4 o4) (addrLike6 s g6 o6) (fun _ W' hW' => parse6_any s W' g4 o4 g6 o6 ((hz.below hW).below hW') hs h37)))
def readG (s : List UInt8) : List UInt8 := (readAny s).getD []
theorem readG_snoc {ss : List (List UInt8)} {k : Nat} {s : List UInt8} (h : ss[k]? = some s) : (ss.take (k + 1)).map readG = (ss.take k).map readG ++ [readG s] := by rw [take_snoc h]; simp

set_option maxRecDepth 100000 in
set_option maxHeartbeats 1600000 in
theorem parseEachG_any (L : Option Addr) (N e : Nat) (ss : List (List UInt8)) (w : World) (g4 o4 g6 o6 : Nat) (hL : RS w no L N e ss) (hN : N * 24 ≤ 140737488351232) (hz : ZX w g4 o4 g6 o6) (hall : ∀ s ∈ ss, s.length ≤ 140737488351232 ∧ (37 : UInt8) ∉ s) :
    Calls Tryd.prog 21 #[.slice L N e] w (RetBB w (ss.map readG)) := by
  obtain ⟨i0, hi, hz0, hz1, hz2⟩ := info_parts bytes_info
  have HL := hide hL
  have Hz := hide hz
  have Hall := hide hall
  have Hst := hide (Made.start no w)
  clear hL hz hall
  go_enter Tryd.func21, Tryd.ntmps21
  go_wp2_with fail
  go_loopw [3, 9] (fun v i wr => ∃ k : Nat, k ≤ N ∧ i = .int .i64 k ∧ Made no w ((ss.take k).map readG) v wr) (fun _ i _ => N - (intOf i).toNat)
  case atStart => exact ⟨0, Nat.zero_le _, rfl, Hst.out⟩
  case round =>
    obtain ⟨k, hk, rfl, hr⟩ := hrel
    have Hr := hide hr
    by_cases hlt : k < N
    · obtain ⟨xs, h1, h2, h3⟩ := hr
      obtain ⟨g, o, s, rfl, hsk, hc⟩ := (HL.out.below h3).at_ hlt
      obtain ⟨hsl, hsc⟩ := Hall.out s (List.mem_of_getElem? hsk)
      have Hcall := hide (parseIPG_any s wr g4 o4 g6 o6 (Hz.out.below h3) hsl hsc)
      have Hsn := hide (readG_snoc hsk)
      have hlen : ((ss.take k).map readG).length = k := by rw [List.length_map, List.length_take, HL.out.len]; omega
      rw [hlen] at h1
      have Hlen := hide hlen
      have H1 := hide h1
      have H2 := hide h2
      have H3 := hide h3
      have Hown : Hid (∀ g, rowOf u3 g → g < wr.heap.size) := hide fun g h => (h1.lt g h).2
      have Hread : Hid (∀ bs, readAny s = some bs → readG s = bs) := hide (fun bs h => by unfold readG; rw [h]; rfl)
      have Hread0 : Hid (readAny s = none → readG s = []) := hide (fun h => by unfold readG; rw [h]; rfl)
      generalize readG s = rb at *
      generalize (ss.take k).map readG = al at *
      clear h1 h2 h3 hsk hsl hsc hlen Hr
      go_wp2_with fail
      with_reducible refine Hcall.out.mono ?_
      rintro e W1 ⟨h1, hb1⟩
      obtain ⟨A1, c1, m1, rfl, hrb, hm1⟩ : ∃ A1 c1 m1, e = .returned (.slice A1 m1 c1) ∧ RB W1 no A1 m1 c1 rb ∧ m1 ≤ 16 := by
        rcases h1 with ⟨bs, g, h, hl, he, hr⟩ | ⟨h, he⟩
        · rw [Hread.out bs h]; exact ⟨_, _, _, he, hr, Nat.le_refl _⟩
        · rw [Hread0.out h]; exact ⟨_, _, _, he, RB.nil, Nat.zero_le _⟩
      have Hf := hide (formBytes_own A1 m1 c1 rb W1 no hrb (by omega))
      have Hb1 := hide hb1
      clear h1 hb1 hrb Hcall
      go_wp2_with fail
      with_reducible refine Hf.out.mono ?_
      rintro e W2 ⟨vc, rfl, hcv, hb2⟩
      have hb12 : Below wr.heap.size wr W2 := Hb1.out.trans (hb2.mono Hb1.out.size)
      obtain ⟨A2, c2, rfl, hr2⟩ := RB.of_own_av (av := fun g => no g ∨ rowOf u3 g) hcv (by
        intro g hg
        rcases hg with hg | hg
        · exact hg.elim
        · have := Hown.out g hg; have := Hb1.out.size; omega)
      have h1' := own_below H1.out hb12
      have H1' := hide h1'
      have H2' := hide (H2.out.keep (Kept.of_below hb12 _))
      have hb3 := H3.out.trans (hb12.mono H3.out.size)
      have H3' := hide hb3
      have Hr2 := hide hr2
      have hsz := hb3.size
      have Ha := hide (h1'.alloc (.cells #[.slice A2 m1 c2] 22))
      clear hcv hb2 hb12 hr2 h1' hb3 Hf
      go_wp2_with (at_builtin; refine wpList_append_rd _ rfl (.tmp 13) (.tmp 17) _ rfl w.heap.size 22 i0 _ 24 Tryd.underlying27 hi hz0 hz1 hz2 rfl _ k _ rfl Ha.out no (some ⟨W2.heap.size, 0, none⟩) 1 1 [.slice A2 m1 c2] rfl ?_ ?_ ?_ ?_ ?_ ?_)
      · exact Rd.one W2 _ _ no (fun h => h)
      · first | rfl | (intro u hu; simp at hu; subst hu; rfl)
      · unfold maxLen; omega
      · omega
      · first | omega | (simp; omega)
      intro v' w3 q1 q2 q3
      have hM := Made.step (by rw [Hlen.out]; exact H1'.out) H2'.out H3'.out Hr2.out (by rw [Hlen.out]; exact q1) q2 q3
      rw [← Hsn.out] at hM
      have HM := hide hM
      clear q1 q2 q3 hM
      go_wp2_with fail
      go_roundw
      case rel => exact ⟨k + 1, by omega, by go_num, HM.out⟩
      case measure => simp [intOf]; omega
    · obtain rfl : k = N := by omega
      clear hr
      go_wp2_with fail
      go_ret
      have h := Hr.out.ret
      rw [List.take_of_length_le (by rw [HL.out.len]; omega)] at h
      exact h
set_option maxRecDepth 100000 in
set_option maxHeartbeats 800000 in
theorem fReadG_any (s : List UInt8) (w : World) (g4 o4 g6 o6 : Nat) (hz : ZX w g4 o4 g6 o6) (hs : s.length ≤ 140737488351232) (hc : (37 : UInt8) ∉ s) :
    Calls Tryd.prog 14 #[.string ⟨s.toArray⟩] w (RetRead w (readG s)) := by
  have hb0 : Below w.heap.size w (w.alloc (.cells #[.string ⟨s.toArray⟩] 9)) := (Below.refl _ _).alloc (Nat.le_refl _) _
  have hrs : RS (w.alloc (.cells #[.string ⟨s.toArray⟩] 9)) no (some ⟨w.heap.size, 0, none⟩) 1 1 [s] := ⟨rfl, Nat.le_refl _, by unfold maxLen; omega, Rd.one w _ _ no (fun h => h)⟩
  have Hc := hide (parseEachG_any _ 1 1 [s] _ g4 o4 g6 o6 hrs (by omega) (hz.below hb0) (by intro t ht; simp at ht; subst ht; exact ⟨hs, hc⟩))
  have Hb0 := hide hb0
  clear hz hrs hb0 hc
  go_enter Tryd.func14, Tryd.ntmps14
  go_wp2_with fail
  with_reducible refine Hc.out.mono ?_
  rintro e w1 ⟨A1, c1, rfl, h1, hb1⟩
  rw [show ([s].map readG).length = 1 from rfl] at h1 ⊢
  obtain ⟨g, o, B, m, d, b, rfl, hbk, hcell, hb⟩ := h1.at_ (k := 0) (by omega)
  obtain rfl : b = readG s := by simp at hbk; exact hbk.symm
  obtain rfl : (readG s).length = m := hb.len
  rw [Nat.add_zero] at hcell
  have Ho := hide (fOne_any (some ⟨g, o, none⟩) B c1 _ d (readG s) g o w1 rfl hcell)
  have Hb := hide hb
  have Hb1 := hide (Hb0.out.trans (hb1.mono Hb0.out.size))
  clear h1 hbk hb hb1 Hc hcell
  go_wp2_with fail
  with_reducible refine Ho.out.mono ?_
  rintro e w2 ⟨rfl, rfl⟩
  go_wp2_with fail
  go_ret2
  exact ⟨B, d, rfl, Hb.out, Hb1.out⟩
end Go.Proofs.YtmfcgglgolajnaaDoor
