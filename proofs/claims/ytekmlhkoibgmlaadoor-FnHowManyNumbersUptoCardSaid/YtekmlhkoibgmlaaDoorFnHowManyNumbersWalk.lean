/-
  The walk of FnHowManyNumbers.
-/
import Derived.Test.YtekmlhkoibgmlaaDoorFRead
import Derived.Test.YtekmlhkoibgmlaaDoorFDec
import Derived.Test.YtekmlhkoibgmlaaDoorSame
namespace Go.Proofs.YtekmlhkoibgmlaaDoor
open Go.RowKit
set_option linter.unusedVariables false

theorem string_info : (Tryd.prog.info? 9).map (fun i => (i.zero, i.size, i.bytes)) = some (some (.string ⟨#[]⟩), 1, 16) := by kernel_rfl
def numT (b : UInt8) : List UInt8 := decL b.toNat
def numsV (bs : List UInt8) (k : Nat) : List Value := ((bs.take k).map numT).map sv
theorem numsV_snoc {bs : List UInt8} {k : Nat} {b : UInt8} (h : bs[k]? = some b) : numsV bs (k + 1) = numsV bs k ++ [.string ⟨(decL b.toNat).toArray⟩] := by
  unfold numsV; rw [take_snoc h]; simp [numT, sv]
theorem decL_short (b : UInt8) : (decL b.toNat).length ≤ 3 := decL_length_le (k := 2) (by have := b.toNat_lt; omega)
theorem scan_dots {ns : List UInt8} : scanL (dotsL ns) = if 2 ≤ ns.length then some 46 else none := by
  match ns with
  | [] => rfl
  | [n] =>
    have := scan_digs (decL_digs n.toNat) []
    rw [List.append_nil] at this
    show scanL (decL n.toNat) = _
    rw [this]; rfl
  | n :: m :: ns =>
    have e : dotsL (n :: m :: ns) = decL n.toNat ++ (46 :: dotsL (m :: ns)) := by unfold dotsL; simp [joinL]
    rw [e, scan_digs (decL_digs _), scan_dot, if_pos (by simp)]
theorem readB_dots (ns : List UInt8) : readB (dotsL ns) = if ns.length = 4 then pre12 ++ ns else [] := by
  unfold readB read4
  rw [scan_dots]
  by_cases h : 2 ≤ ns.length
  · rw [if_pos h, if_pos rfl, v4go_dots ns [] (by intro h'; subst h'; simp at h) (by simp)]
    by_cases h4 : ns.length = 4
    · rw [if_pos (by simpa using h4), if_pos h4]; rfl
    · rw [if_neg (by simpa using h4), if_neg h4]; rfl
  · rw [if_neg h, if_neg (by simp), if_neg (by omega)]; rfl

theorem dotsL_len : ∀ ns : List UInt8, (dotsL ns).length ≤ 4 * ns.length
  | [] => by simp [dotsL, joinL]
  | [n] => by have := decL_short n; show (decL n.toNat).length ≤ _; simp; omega
  | n :: m :: ns => by
    have e : dotsL (n :: m :: ns) = decL n.toNat ++ (46 :: dotsL (m :: ns)) := by unfold dotsL; simp [joinL]
    have h1 := decL_short n
    have h2 := dotsL_len (m :: ns)
    rw [e]
    simp only [List.length_append, List.length_cons] at h2 ⊢
    omega

set_option maxRecDepth 100000 in
set_option maxHeartbeats 3200000 in
theorem fnHowManyNumbers_walk (w : World) (g4 o4 g6 o6 : Nat) (hz : ZIs w g4 o4 g6 o6) (a0 : Option Addr) (n0 c0 : Nat) (b0 : List UInt8) (w0 : RB w no a0 n0 c0 b0) (r0 : c0 ≤ 1048576) :
    Calls Tryd.prog 6 #[.slice a0 n0 c0] w fun e w' => e = .returned (.bool true) ∧ Below w.heap.size w w' := by
  obtain ⟨i0, hi, hz0, hz1, hz2⟩ := info_parts string_info
  have W0 := hide w0
  have Hz := hide hz
  have k0 := w0.cap
  have Hst : Hid ((w.alloc (.cells #[] 9)).ownsRow w.heap.size 9 1 (.slice (some ⟨w.heap.size, 0, none⟩) 0 0) 0 (numsV b0 0) ∧ Below w.heap.size w (w.alloc (.cells #[] 9))) :=
    hide ⟨own_empty w w.heap.size _ (Nat.le_refl _), (Below.refl _ _).alloc (Nat.le_refl _) _⟩
  clear w0 hz
  go_enter Tryd.func6, Tryd.ntmps6
  go_wp2_with fail
  go_loopw [3, 11] (fun v i wr => ∃ k : Nat, k ≤ n0 ∧ i = .int .i64 k ∧ wr.ownsRow w.heap.size 9 1 v k (numsV b0 k) ∧ Below w.heap.size w wr) (fun _ i _ => n0 - (intOf i).toNat)
  case atStart => exact ⟨0, Nat.zero_le _, rfl, Hst.out⟩
  case round =>
    obtain ⟨k, hk, rfl, h1, h2⟩ := hrel
    have H1 := hide h1
    have H2 := hide h2
    by_cases hlt : k < n0
    · obtain ⟨g, o, b, rfl, hbk, hc⟩ := (W0.out.below h2).at_ hlt
      have hb256 := b.toNat_lt
      have Hd := hide (fDecimal_any b.toNat (by omega) wr)
      have Hsn := hide (numsV_snoc hbk)
      have hsz := h2.size
      have Ho := hide (h1.alloc (.cells #[.string ⟨(decL b.toNat).toArray⟩] 9))
      generalize numsV b0 k = nv at *
      generalize decL b.toNat = db at *
      clear h1 h2 hbk
      go_wp2_with fail
      with_reducible refine Hd.out.mono ?_
      rintro e w' ⟨rfl, rfl⟩
      go_wp2_with (at_builtin; refine wpList_append_rd _ rfl (.tmp 15) (.tmp 19) _ rfl w.heap.size 9 i0 _ 16 Tryd.underlying23 hi hz0 hz1 hz2 rfl _ k _ rfl Ho.out no (some ⟨wr.heap.size, 0, none⟩) 1 1 [.string ⟨db.toArray⟩] rfl ?_ ?_ ?_ ?_ ?_ ?_)
      · exact Rd.one wr _ _ no (fun h => h)
      · first | rfl | (intro u hu; simp at hu; subst hu; rfl)
      · unfold maxLen; omega
      · omega
      · first | omega | (simp; omega)
      intro v' w2 q1 q2 q3
      have HB := hide (below_append (H2.out.alloc H2.out.size _) q2 (H1.out.alloc _) (by simp; omega))
      have HO := hide q1
      rw [← Hsn.out] at HO
      clear q1 q2 q3 Ho
      go_wp2_with fail
      go_roundw
      case rel => exact ⟨k + 1, by omega, by go_num, HO.out, HB.out⟩
      case measure => simp [intOf]; omega
    · obtain rfl : k = n0 := by omega
      obtain ⟨v1, rfl⟩ : ∃ v1 : World, v1 = wr := ⟨_, rfl⟩
      have hnv : numsV b0 k = (b0.map numT).map sv := by unfold numsV; rw [List.take_of_length_le (by rw [W0.out.len]; omega)]
      rw [hnv] at h1
      obtain ⟨AL, cL, rfl, hL⟩ := RS.of_own_av (av := no) h1 (fun g h => h.elim)
      have Hj := hide (fJoined_any AL k cL (b0.map numT) [46] v1 hL (by omega) (by intro s hs; obtain ⟨b, _, rfl⟩ := List.mem_map.1 hs; have := decL_short b; unfold numT; omega) (by simp))
      have e1 : joinL [46] (b0.map numT) = dotsL b0 := rfl
      rw [e1] at Hj
      have hdl := dotsL_len b0
      have hbl := W0.out.len
      have Hf := hide (fRead_any (dotsL b0) v1 g4 o4 g6 o6 (Hz.out.below h2) (by omega) (by rw [scan_dots]; split <;> simp))
      rw [readB_dots, hbl] at Hf
      clear h1 h2 hnv hL e1 hdl hbl
      generalize dotsL b0 = tx at *
      go_wp2_with fail
      with_reducible refine Hj.out.mono ?_
      rintro e w' ⟨rfl, rfl⟩
      go_wp2_with fail
      by_cases h4 : k = 4
      · subst h4
        rw [if_pos rfl] at Hf
        have hl16 : (pre12 ++ b0).length = 16 := by rw [List.length_append, W0.out.len]; rfl
        with_reducible refine Hf.out.mono ?_
        rintro e v2 ⟨A2, c2, rfl, hr2, hb2⟩
        rw [hl16] at hr2 ⊢
        have hbw2 : Below w.heap.size w v2 := H2.out.trans (hb2.mono H2.out.size)
        have Hfl := hide (fLong_any a0 4 c0 b0 v2 no (W0.out.below hbw2) (Or.inl rfl))
        have hlo : longOf b0 = pre12 ++ b0 := by unfold longOf; rw [if_pos W0.out.len]
        rw [hlo] at Hfl
        have Hr2 := hide hr2
        have Hb2 := hide hbw2
        have Hl16 := hide hl16
        clear hr2 hb2 hbw2 hlo hl16 Hf
        go_wp2_with fail
        with_reducible refine Hfl.out.mono ?_
        rintro e v3 ⟨A3, c3, rfl, hr3, hb3⟩
        rw [Hl16.out] at hr3 ⊢
        have Hs := hide (same_any A2 A3 16 c2 16 c3 _ _ v3 no _ (Hr2.out.below hb3) hr3)
        rw [show eqL (pre12 ++ b0) (pre12 ++ b0) = true from eqL_iff.2 rfl] at Hs
        have Hb3 := hide (Hb2.out.trans (hb3.mono Hb2.out.size))
        clear hr3 hb3 Hfl
        go_wp2_with fail
        with_reducible refine Hs.out.mono ?_
        rintro e v4 ⟨rfl, q, rfl⟩
        go_wp2_with fail
        go_ret
        exact ⟨rfl, below_drewN Hb3.out q⟩
      · rw [if_neg h4] at Hf
        have h4' : ((k : Int) == 4) = false := by rw [beq_eq_false_iff_ne]; omega
        with_reducible refine Hf.out.mono ?_
        rintro e v2 ⟨A2, c2, rfl, hr2, hb2⟩
        rw [List.length_nil] at hr2 ⊢
        have Hb2 := hide (H2.out.trans (hb2.mono H2.out.size))
        clear hr2 hb2 Hf
        go_wp2_with fail
        go_ret
        exact ⟨rfl, Hb2.out⟩
end Go.Proofs.YtekmlhkoibgmlaaDoor
