/-
  The walk of FnMasksWritten.
-/
import Derived.Test.YtmfcgglgolajnaaDoorNetEach
import Derived.Test.YtmfcgglgolajnaaDoorAlike
import Derived.Test.YtmfcgglgolajnaaDoorSized
import Derived.Test.YtmfcgglgolajnaaDoorSizeEach
namespace Go.Proofs.YtmfcgglgolajnaaDoor
open Go.RowKit
set_option linter.unusedVariables false

/-- Masks that are no ones and then zeros. -/
def oddsL (l : List (List UInt8)) : List (List UInt8) := l.filter fun b => decide (sizeBits b = 0)
theorem oddsL_keep {l : List (List UInt8)} {k : Nat} {b : List UInt8} (hb : l[k]? = some b) (h : sizeBits b = 0) : oddsL (l.take (k + 1)) = oddsL (l.take k) ++ [b] := by
  unfold oddsL; rw [take_snoc hb, List.filter_append]; simp [h]
theorem oddsL_drop {l : List (List UInt8)} {k : Nat} {b : List UInt8} (hb : l[k]? = some b) (h : ¬ sizeBits b = 0) : oddsL (l.take (k + 1)) = oddsL (l.take k) := by
  unfold oddsL; rw [take_snoc hb, List.filter_append]; simp [h]
theorem oddsL_le (l : List (List UInt8)) (k : Nat) : (oddsL (l.take k)).length ≤ k :=
  Nat.le_trans (List.length_filter_le _ _) (by rw [List.length_take]; omega)
theorem odd_ones {b : List UInt8} (h : sizeBits b = 0) (hl : 0 < b.length) : onesOf b = -1 := by
  unfold sizeBits at h
  split at h
  · assumption
  · omega

/-- Two rows of slices of the call's own, apart: the one holds slices that were there, the other one copies. -/
def OddNum (wd : World) (odds nums : List (List UInt8)) (v u : Value) (wr : World) : Prop :=
  ∃ xs1 xs2, wr.ownsRow wd.heap.size 22 1 v odds.length xs1 ∧ Each wd no xs1 odds ∧ wr.ownsRow wd.heap.size 22 1 u nums.length xs2 ∧ Each wr (fun g => rowOf v g ∨ rowOf u g) xs2 nums ∧ (u.ownBlock = none ∨ u.ownBlock ≠ v.ownBlock) ∧ Below wd.heap.size wd wr
theorem OddNum.start (wd : World) : OddNum wd [] [] (.slice none 0 0) (.slice none 0 0) wd :=
  ⟨[], [], World.ownsRow_nil wd _ _ _, Each.nil, World.ownsRow_nil wd _ _ _, Each.nil, Or.inl rfl, Below.refl _ _⟩
theorem OddNum.below {wd wr : World} {odds nums : List (List UInt8)} {v u : Value} (h : OddNum wd odds nums v u wr) : Below wd.heap.size wd wr := by
  obtain ⟨_, _, _, _, _, _, _, h⟩ := h; exact h
theorem OddNum.odd {wd wr w' : World} {odds nums : List (List UInt8)} {v u v' : Value} {A : Option Addr} {n c : Nat} {b : List UInt8} {xs1 xs2 : List Value}
    (h1 : wr.ownsRow wd.heap.size 22 1 v odds.length xs1) (h2 : Each wd no xs1 odds) (h3 : wr.ownsRow wd.heap.size 22 1 u nums.length xs2) (h4 : Each wr (fun g => rowOf v g ∨ rowOf u g) xs2 nums) (h5 : u.ownBlock = none ∨ u.ownBlock ≠ v.ownBlock) (h6 : Below wd.heap.size wd wr)
    (hr : RB wd no A n c b) (ho : w'.ownsRow wd.heap.size 22 1 v' (odds.length + 1) (xs1 ++ [.slice A n c])) (hg : (wr.alloc (.cells #[.slice A n c] 22)).grownBy w' v.ownBlock)
    (hv : v'.ownBlock = v.ownBlock ∨ v'.ownBlock = some (wr.heap.size + 1)) : OddNum wd (odds ++ [b]) nums v' u w' := by
  have hK : Kept (rowOf v) wr w' := (Kept.alloc (rowOf v) wr _).trans (Kept.of_grown hg)
  refine ⟨_, xs2, by simpa using ho, h2.snoc hr, (h3.alloc _).kept hg h5, ?_, ?_, below_append (h6.alloc h6.size _) hg (h1.alloc _) (by simp; have := h6.size; omega)⟩
  · have hE : Each wr (fun g => (rowOf v g ∨ rowOf u g) ∨ rowOf v' g) xs2 nums := h4.sub fun g hg h => by
      rcases h with h | h
      · exact h
      · unfold rowOf at h ⊢
        rcases hv with hv | hv
        · rw [← hv]; exact Or.inl h
        · rw [hv] at h; injection h with h; omega
    exact (hE.keep (hK.mono fun _ h => Or.inl (Or.inl h))).sub fun _ _ h => h.elim Or.inr (fun h => Or.inl (Or.inr h))
  · rcases hv with hv | hv
    · rw [hv]; exact h5
    · cases hu : u.ownBlock with
      | none => exact Or.inl rfl
      | some g =>
        right
        rw [hv]
        have := (h3.lt g hu).2
        simp; omega
theorem OddNum.num {wd wr w' : World} {odds nums : List (List UInt8)} {v u u' : Value} {A : Option Addr} {n c : Nat} {b : List UInt8} {xs1 xs2 : List Value}
    (h1 : wr.ownsRow wd.heap.size 22 1 v odds.length xs1) (h2 : Each wd no xs1 odds) (h3 : wr.ownsRow wd.heap.size 22 1 u nums.length xs2) (h4 : Each wr (fun g => rowOf v g ∨ rowOf u g) xs2 nums) (h5 : u.ownBlock = none ∨ u.ownBlock ≠ v.ownBlock) (h6 : Below wd.heap.size wd wr)
    (hr : RB wr (fun g => rowOf v g ∨ rowOf u g) A n c b) (ho : w'.ownsRow wd.heap.size 22 1 u' (nums.length + 1) (xs2 ++ [.slice A n c])) (hg : (wr.alloc (.cells #[.slice A n c] 22)).grownBy w' u.ownBlock)
    (hv : u'.ownBlock = u.ownBlock ∨ u'.ownBlock = some (wr.heap.size + 1)) : OddNum wd odds (nums ++ [b]) v u' w' := by
  have h5' : v.ownBlock = none ∨ v.ownBlock ≠ u.ownBlock := by
    rcases h5 with h | h
    · cases hvv : v.ownBlock with
      | none => exact Or.inl rfl
      | some g => right; rw [h]; simp
    · exact Or.inr (fun e => h e.symm)
  have hK : Kept (rowOf u) wr w' := (Kept.alloc (rowOf u) wr _).trans (Kept.of_grown hg)
  refine ⟨xs1, _, (h1.alloc _).kept hg h5', h2, by simpa using ho, ?_, ?_, below_append (h6.alloc h6.size _) hg (h3.alloc _) (by simp; have := h6.size; omega)⟩
  · have hE : Each wr (fun g => (rowOf v g ∨ rowOf u g) ∨ rowOf u' g) (xs2 ++ [.slice A n c]) (nums ++ [b]) := (h4.snoc hr).sub fun g hg h => by
      rcases h with h | h
      · exact h
      · unfold rowOf at h ⊢
        rcases hv with hv | hv
        · rw [← hv]; exact Or.inr h
        · rw [hv] at h; injection h with h; omega
    exact (hE.keep (hK.mono fun _ h => Or.inl (Or.inr h))).sub fun _ _ h => h.elim (fun h => Or.inl (Or.inl h)) Or.inr
  · rcases hv with hv | hv
    · rw [hv]; exact h5
    · right
      rw [hv]
      intro e
      have := (h1.lt _ e.symm).2
      omega
theorem zip_rep (nt : List UInt8 → List UInt8 → List UInt8) (b : List UInt8) : ∀ l : List (List UInt8), List.zipWith nt (List.replicate l.length b) l = l.map (nt b)
  | [] => rfl
  | a :: l => by rw [List.length_cons, List.replicate_succ, List.zipWith_cons_cons, zip_rep nt b l]; rfl
theorem hex_sl {d : Nat} (h : d < 16) : (ByteArray.mk #[48, 49, 50, 51, 52, 53, 54, 55, 56, 57, 97, 98, 99, 100, 101, 102]).extract d (d + 1) = ⟨#[hexC d]⟩ := by
  have key : ∀ e : Fin 16, (ByteArray.mk #[48, 49, 50, 51, 52, 53, 54, 55, 56, 57, 97, 98, 99, 100, 101, 102]).extract e.val (e.val + 1) = ⟨#[hexC e.val]⟩ := by decide +kernel
  exact key ⟨d, h⟩
theorem hexB_snoc {bs : List UInt8} {k : Nat} {x : UInt8} (h : bs[k]? = some x) : hexB (bs.take (k + 1)) = hexB (bs.take k) ++ ([hexC (x.toNat / 16)] ++ [hexC (x.toNat % 16)]) := by
  rw [take_snoc h, hexB_append]; rfl
theorem get_atM {s : List UInt8} {i : Nat} {x : UInt8} (hlt : i < s.length) (hx : s[i]? = some x) : (ByteArray.mk s.toArray)[i]'(by simpa [ByteArray.size] using hlt) = x := by
  rw [List.getElem?_eq_getElem hlt] at hx
  exact Option.some.inj hx
/-- The digits so far. -/
def DueS (bs : List UInt8) (k : Nat) (v : Value) : Prop := v = .string ⟨(hexB (bs.take k)).toArray⟩

set_option maxRecDepth 100000 in
set_option maxHeartbeats 6400000 in
theorem fnMasksWritten_walk (w : World) (g4 o4 g6 o6 : Nat) (hz : ZX w g4 o4 g6 o6) (a0 : Option Addr) (n0 c0 : Nat) (b0 : List UInt8) (w0 : RB w no a0 n0 c0 b0) (r0 : c0 ≤ 140737488351232) (a1 : Option Addr) (n1 c1 : Nat) (b1 : List (List UInt8)) (w1 : RBB w no a1 n1 c1 b1) (r1 : c1 * 24 ≤ 140737488351232) (l1 : ∀ b ∈ b1, b.length ≤ 140737488351232) :
    Calls Tryd.prog 10 #[.slice a0 n0 c0, .slice a1 n1 c1] w fun e w' => e = .returned (.bool true) ∧ Below w.heap.size w w' := by
  obtain ⟨i0, hinf, hz0, hz1, hz2⟩ := info_parts bytes_info
  have k0 := w0.cap
  have k1 := w1.cap
  have W0 := hide w0
  have W1 := hide w1
  have L1 := hide l1
  have Hz := hide hz
  have hb0 : Below w.heap.size w (w.alloc (.cells #[.slice a0 n0 c0] 22)) := (Below.refl _ _).alloc (Nat.le_refl _) _
  have Ha := hide (alike_any (some ⟨w.heap.size, 0, none⟩) 1 1 n0 [b0] (w.alloc (.cells #[.slice a0 n0 c0] 22)) (RBB.one 22 w0) (by omega) (by intro b hb; simp at hb; subst hb; rw [w0.len]; omega))
  have Hb0 := hide hb0
  clear w0 w1 l1 hz hb0
  by_cases hgood : goodA n0 b0 = true
  · have hal : alikeL [b0] n0 = [b0] := by unfold alikeL; simp [hgood]
    rw [hal] at Ha
    have hg2 : (b0.length = n0 ∧ (n0 = 4 ∨ n0 = 16)) ∧ mapd b0 = false := by unfold goodA at hgood; simpa using hgood
    have hn : n0 = 4 ∨ n0 = 16 := hg2.1.2
    have hmp : mapd b0 = false := hg2.2
    have Hmp := hide hmp
    have Hn := hide hn
    have hn16 : n0 ≤ 16 := by omega
    have hn0 : 0 < n0 := by omega
    clear hgood hal hmp hg2
    go_enter Tryd.func10, Tryd.ntmps10
    go_wp2_with fail
    with_reducible refine Ha.out.mono ?_
    rintro e wa ⟨A1, d1, rfl, h1, hb1⟩
    rw [show [b0].length = 1 from rfl] at h1 ⊢
    have hbwa := Hb0.out.trans (hb1.mono Hb0.out.size)
    have Hsz := hide (sized_any a1 n1 c1 n0 b1 wa (W1.out.below hbwa) (by omega) L1.out)
    have Hbwa := hide hbwa
    clear h1 hb1 hbwa Ha
    go_wp2_with fail
    with_reducible refine Hsz.out.mono ?_
    rintro e wb ⟨A2, d2, rfl, h2, hb2⟩
    have hlist : ∀ b ∈ sizedL b1 n0, b.length = n0 := fun b hb => by unfold sizedL at hb; simpa using (List.mem_filter.1 hb).2
    have hlle : (sizedL b1 n0).length ≤ n1 := by unfold sizedL; have := List.length_filter_le (fun b : List UInt8 => decide (b.length = n0)) b1; rw [W1.out.len] at this; exact this
    generalize sizedL b1 n0 = li at *
    have Hlist := hide hlist
    have Hse := hide (sizeEach_any A2 li.length d2 li wb no h2.free (by omega) (fun b hb => by have := hlist b hb; omega))
    have hbwb := Hbwa.out.trans (hb2.mono Hbwa.out.size)
    have H2 := hide h2.free
    have Hbwb := hide hbwb
    clear h2 hb2 hbwb hlist Hsz
    go_wp2_with fail
    with_reducible refine Hse.out.mono ?_
    rintro e wd ⟨v3, u3, rfl, ho1, ho2, _, hb3⟩
    have hle1 : (onesEach li).length = li.length := by unfold onesEach; exact List.length_map _
    have hle2 : (bitsEach li).length = li.length := by unfold bitsEach; exact List.length_map _
    rw [hle1] at ho1
    rw [hle2] at ho2
    obtain ⟨A3, d3, rfl, hI1⟩ := RI.of_own_av (av := no) ho1 (fun g h => h.elim)
    obtain ⟨A4, d4, rfl, hI2⟩ := RI.of_own_av (av := no) ho2 (fun g h => h.elim)
    have HI2 := hide hI2
    have HLi := hide (H2.out.below hb3)
    have Hbwd := hide (Hbwb.out.trans (hb3.mono Hbwb.out.size))
    have hne : ((li.length : Int) != (li.length : Int)) = false := by simp
    have Hst := hide (OddNum.start wd)
    clear ho1 ho2 hb3 hI1 hI2 hle1 hle2 Hse H2
    go_wp2_with fail
    go_loopw [5, 6, 49] (fun v u i wr => ∃ k : Nat, k ≤ li.length ∧ i = .int .i64 (k : Int) ∧ OddNum wd (oddsL (li.take k)) (List.replicate (oddsL (li.take k)).length b0) v u wr) (fun _ _ i _ => li.length - (intOf i).toNat)
    case atStart => exact ⟨0, Nat.zero_le _, rfl, Hst.out⟩
    case round =>
      obtain ⟨k, hk, rfl, hr⟩ := hrel
      have Hr := hide hr
      by_cases hlt : k < li.length
      · obtain ⟨xs1, xs2, q1, q2, q3, q4, q5, q6⟩ := hr
        obtain ⟨g, o, B, m, f, b, rfl, hbk, hc0, hrb⟩ := HLi.out.at_ hlt
        have hc := cell_below hc0 q6
        obtain ⟨gi, oi, z, rfl, hzk, hcz⟩ := (HI2.out.below q6).at_ hlt
        have hzb : z = sizeBits b := by unfold bitsEach at hzk; rw [List.getElem?_map, hbk] at hzk; injection hzk with hzk; exact hzk.symm
        have hol := oddsL_le li k
        have i1 : (0 : Int) ≤ k := by omega
        have i2 : (k : Int) < li.length := by omega
        subst hzb
        by_cases hodd : sizeBits b = 0
        · have hz0' : ((sizeBits b : Int) == 0) = true := by rw [hodd]; rfl
          have Hkp := hide (oddsL_keep hbk hodd)
          have Hrep : Hid (List.replicate (oddsL (li.take (k + 1))).length b0 = List.replicate (oddsL (li.take k)).length b0 ++ [b0]) := hide (by rw [Hkp.out, List.length_append, List.length_cons, List.length_nil, List.replicate_succ'])
          have Hrl : Hid ((List.replicate (oddsL (li.take k)).length b0).length = (oddsL (li.take k)).length) := hide List.length_replicate
          generalize List.replicate (oddsL (li.take k)).length b0 = nu at *
          generalize oddsL (li.take k) = od at *
          have Ho := hide (q1.alloc (.cells #[.slice B m f] 22))
          have Hf := hide (fun v' w' => OddNum.odd (v' := v') (w' := w') q1 q2 q3 q4 q5 q6 hrb)
          have hsz := q6.size
          have Hq6 := hide q6
          clear q1 q2 q3 q4 q5 q6 hbk hrb hodd hc0 hzk
          go_wp2_with (at_builtin; refine wpList_append_rd _ rfl (.tmp 59) (.tmp 61) _ rfl wd.heap.size 22 i0 _ 24 Tryd.underlying27 hinf hz0 hz1 hz2 rfl _ od.length _ rfl Ho.out no (some ⟨wr.heap.size, 0, none⟩) 1 1 [.slice B m f] rfl ?p1 ?p2 ?p3 ?p4 ?p5 ?_)
          case p1 => exact Rd.one wr _ _ no (fun h => h)
          case p2 => intro u hu; simp at hu; subst hu; rfl
          case p3 => unfold maxLen; omega
          case p4 => omega
          case p5 => simp; omega
          intro v' w2 t1 t2 t3
          obtain ⟨ys1, ys2, q1, q2, q3, q4, q5, q6⟩ := Hf.out v' w2 t1 t2 t3
          have hbw2 := Hbwd.out.trans (q6.mono Hbwd.out.size)
          have Hcp := hide (copied_own a0 n0 c0 b0 w2 no (W0.out.below hbw2) (by omega))
          have Hown : Hid (∀ g, (rowOf v' g ∨ rowOf u6 g) → g < w2.heap.size) := hide (fun g hg => hg.elim (fun h => (q1.lt g h).2) (fun h => (q3.lt g h).2))
          have Q := hide (⟨q1, q2, q3, q4, q5, q6⟩ : _ ∧ _ ∧ _ ∧ _ ∧ _ ∧ _)
          have hsz2 := q6.size
          clear t1 t2 t3 q1 q2 q3 q4 q5 q6 hbw2 Hf Ho
          go_wp2_with fail
          with_reducible refine Hcp.out.mono ?_
          rintro e w3 ⟨vc, rfl, hcv, hcb⟩
          obtain ⟨Ac, cc, rfl, hrc⟩ := RB.of_own_av (av := fun g => rowOf v' g ∨ rowOf u6 g) hcv Hown.out
          obtain ⟨q1, q2, q3, q4, q5, q6⟩ := Q.out
          have q1' := own_below q1 hcb
          have q3' := own_below q3 hcb
          have q4' := q4.keep (Kept.of_below hcb _)
          have q6' := q6.trans (hcb.mono q6.size)
          have Ho := hide (q3'.alloc (.cells #[.slice Ac n0 cc] 22))
          rw [Hrl.out] at Ho
          have Hf := hide (fun u' w' => OddNum.num (u' := u') (w' := w') q1' q2 q3' q4' q5 q6' hrc)
          rw [Hrl.out] at Hf
          have hsz3 := q6'.size
          clear q1 q2 q3 q4 q5 q6 q1' q3' q4' q6' hcv hcb hrc Hcp Q
          go_wp2_with (at_builtin; refine wpList_append_rd _ rfl (.tmp 63) (.tmp 66) _ rfl wd.heap.size 22 i0 _ 24 Tryd.underlying27 hinf hz0 hz1 hz2 rfl _ od.length _ rfl Ho.out no (some ⟨w3.heap.size, 0, none⟩) 1 1 [.slice Ac n0 cc] rfl ?p1 ?p2 ?p3 ?p4 ?p5 ?_)
          case p1 => exact Rd.one w3 _ _ no (fun h => h)
          case p2 => intro u hu; simp at hu; subst hu; rfl
          case p3 => unfold maxLen; omega
          case p4 => omega
          case p5 => simp; omega
          intro u' w4 t1 t2 t3
          have HM := hide (Hf.out u' w4 t1 t2 t3)
          clear t1 t2 t3 Hf Ho
          go_wp2_with fail
          go_roundw
          case rel => exact ⟨k + 1, by omega, by go_num, by rw [Hrep.out, Hkp.out]; exact HM.out⟩
          case measure => simp [intOf]; omega
        · have hz0' : ((sizeBits b : Int) == 0) = false := by rw [beq_eq_false_iff_ne]; exact hodd
          have Hdr := hide (oddsL_drop hbk hodd)
          clear q1 q2 q3 q4 q5 q6 hbk hrb hodd hc0 hzk
          go_wp2_with fail
          go_roundw
          case rel => exact ⟨k + 1, by omega, by go_num, by rw [Hdr.out]; exact Hr.out⟩
          case measure => simp [intOf]; omega
      · obtain rfl : k = li.length := by omega
        rw [List.take_length] at hr
        obtain ⟨xs1, xs2, q1, q2, q3, q4, q5, q6⟩ := hr
        have hodm : ∀ m ∈ oddsL li, m.length = n0 ∧ sizeBits m = 0 := fun m hm => by
          unfold oddsL at hm
          have h := List.mem_filter.1 hm
          exact ⟨Hlist.out m h.1, by simpa using h.2⟩
        have hodl : (oddsL li).length ≤ li.length := by have := oddsL_le li li.length; rwa [List.take_length] at this
        generalize oddsL li = od at *
        obtain ⟨A5, d5, rfl, hR5⟩ := RBB.of_own q1 (q2.keep (Kept.of_below q6 _))
        rw [List.length_replicate] at q3
        obtain ⟨A6, d6, rfl, hR6⟩ := RBB.of_own q3 q4.free
        obtain ⟨wf, rfl⟩ : ∃ wf : World, wf = wr := ⟨_, rfl⟩
        have hbwf := Hbwd.out.trans (q6.mono Hbwd.out.size)
        have Hns := hide (netStrings_any netOdd A6 A5 od.length d6 d5 (List.replicate od.length b0) od wf hR6 hR5 (by omega) (fun i xs ms hxs hms => by
          obtain rfl : xs = b0 := by
            have := List.mem_of_getElem? hxs
            exact (List.mem_replicate.1 this).2
          obtain ⟨hm1, hm2⟩ := hodm ms (List.mem_of_getElem? hms)
          intro W p c d A M hW h0 h1 ha hm
          have hl := W0.out.len
          rw [hl] at h0 ha
          rw [hm1] at h1 hm
          exact netString_odd p 0 n0 c d A M xs ms W g4 o4 g6 o6 ((Hz.out.below hbwf).below hW) h0 h1 ha hm Hn.out Hmp.out (odd_ones hm2 (by omega))))
        rw [zip_rep] at Hns
        have Hodm := hide hodm
        have HO := hide hR5
        have Hbwf := hide hbwf
        clear q1 q2 q3 q4 q5 q6 hodm hR5 hR6 hbwf Hr HLi HI2
        go_wp2_with fail
        with_reducible refine Hns.out.mono ?_
        rintro e wt ⟨A7, d7, rfl, h7, hb7⟩
        have hl7 : (od.map (netOdd b0)).length = od.length := List.length_map _
        rw [hl7] at h7 ⊢
        have HT := hide h7.free
        have HOt := hide (HO.out.below hb7)
        have Hbwt := hide (Hbwf.out.trans (hb7.mono Hbwf.out.size))
        have hne2 : ((od.length : Int) != (od.length : Int)) = false := by simp
        have htl : (ipText b0).length ≤ 48 := ipText_ln b0 (by rw [W0.out.len]; exact Hn.out)
        clear h7 hb7 hl7 HO Hns
        go_wp2_with fail
        go_loopw [79] (fun i wx => ∃ k : Nat, k ≤ od.length ∧ i = .int .i64 (k : Int) ∧ Below wt.heap.size wt wx) (fun i _ => od.length - (intOf i).toNat)
        case atStart => exact ⟨0, Nat.zero_le _, rfl, Below.refl _ _⟩
        case round =>
          obtain ⟨k, hk', rfl, hbk⟩ := hrel
          have Hbk := hide hbk
          obtain ⟨wo, rfl⟩ : ∃ wo : World, wo = wr := ⟨_, rfl⟩
          by_cases hltk : k < od.length
          · obtain ⟨gt, ot, s, rfl, hs, hcs⟩ := (HT.out.below hbk).at_ hltk
            obtain ⟨gm, om, Bm, mm, fm, ms, rfl, hms, hcm, hrm⟩ := (HOt.out.below hbk).at_ hltk
            obtain rfl : s = netOdd b0 ms := by rw [List.getElem?_map, hms] at hs; injection hs with hs; exact hs.symm
            obtain ⟨hml, _⟩ := Hodm.out ms (List.mem_of_getElem? hms)
            obtain rfl : mm = n0 := by rw [← hrm.len]; exact hml
            have Hrm := hide hrm
            have Hms := hide hms
            have Hml := hide hml
            have i1 : (0 : Int) ≤ k := by omega
            have i2 : (k : Int) < od.length := by omega
            generalize hsl : netOdd b0 ms = sl at *
            have Hsl := hide hsl
            clear hs hms hbk hrm hsl hml
            go_wp2_with fail
            go_loopw [15, 89] (fun s15 i wx => ∃ j : Nat, j ≤ mm ∧ i = .int .i64 (j : Int) ∧ DueS ms j s15 ∧ Below wo.heap.size wo wx) (fun _ i _ => mm - (intOf i).toNat)
            case atStart => exact ⟨0, Nat.zero_le _, rfl, rfl, Below.refl _ _⟩
            case round =>
              obtain ⟨j, hj, rfl, rfl, hbj⟩ := hrel
              have Hbj := hide hbj
              by_cases hltj : j < mm
              · obtain ⟨gx, ox, x, rfl, hx, hcx⟩ := (Hrm.out.below hbj).at_ hltj
                have hx1 := lt_256 x
                have Hsn := hide (hexB_snoc hx)
                have hdl : (hexB (ms.take j)).length ≤ 32 := by rw [hexB_length, List.length_take]; omega
                have hE1 := hex_sl (d := x.toNat / 16) (by omega)
                have hE2 := hex_sl (d := x.toNat % 16) (by omega)
                have e1 : (0 : Int) ≤ j := by omega
                have e2 : (j : Int) < mm := by omega
                have j1 : (0 : Int) ≤ (x.toNat : Int) / 16 := by omega
                have j2 : (x.toNat : Int) / 16 < 16 := by omega
                have j3 : (0 : Int) ≤ (x.toNat : Int) % 16 := by omega
                have j4 : (x.toNat : Int) % 16 < 16 := by omega
                have j5 : (x.toNat : Int) / 16 + 1 ≤ 16 := by omega
                have j6 : (x.toNat : Int) % 16 + 1 ≤ 16 := by omega
                have j7 : ((x.toNat : Int) / 16 + 1).toNat = x.toNat / 16 + 1 := by omega
                have j8 : ((x.toNat : Int) % 16 + 1).toNat = x.toNat % 16 + 1 := by omega
                have j9 : ((x.toNat : Int) / 16).toNat = x.toNat / 16 := by omega
                have j10 : ((x.toNat : Int) % 16).toNat = x.toNat % 16 := by omega
                generalize hexB (ms.take j) = du at *
                have p1 : ¬ (9223372036854775807 < du.length + (1 + 1)) := by omega
                have p2 : ¬ (9223372036854775807 < du.length + 2) := by omega
                clear hx hbj hcs hcm
                go_wp2_with fail
                go_quiet (fail)
                go_wp2_with fail
                go_roundw
                case rel => exact ⟨j + 1, by omega, by go_num, by unfold DueS; rw [Hsn.out, ← ba_app, ← ba_app], below_drewN Hbj.out _⟩
                case measure => simp [intOf]; omega
              · obtain rfl : j = mm := by omega
                have hdue : hexB (ms.take j) = hexB ms := by rw [List.take_of_length_le (by rw [Hml.out]; omega)]
                rw [hdue]
                have hhl : (hexB ms).length = 2 * j := by rw [hexB_length, Hml.out]
                have hbt := Hbk.out.trans (hbj.mono Hbk.out.size)
                obtain ⟨gt', ot', s0, e, hs0, hc0⟩ := (HT.out.below hbt).at_ (k := 0) (by omega)
                injection e with e; injection e with e1 e2; subst e1 e2
                rw [Nat.add_zero] at hc0
                obtain ⟨m0, hm0⟩ : ∃ m0, s0 = netOdd b0 m0 := by
                  rw [List.getElem?_map] at hs0
                  cases h : od[0]? with
                  | none => rw [h] at hs0; cases hs0
                  | some m0 => rw [h] at hs0; injection hs0 with hs0; exact ⟨m0, hs0.symm⟩
                have hsl := Hsl.out
                unfold netOdd at hsl hm0
                obtain ⟨tx, htx⟩ : ∃ tx, tx = ipText b0 := ⟨_, rfl⟩
                rw [← htx] at hsl hm0 htl
                generalize hexB ms = hx at *
                obtain ⟨tl, htl0⟩ : ∃ tl, tl = tx.length := ⟨_, rfl⟩
                obtain ⟨tl1, htl1⟩ : ∃ tl1, tl1 = tl + 1 := ⟨_, rfl⟩
                have hsll : sl.length = tl + 1 + hx.length := by rw [← hsl, List.length_append, List.length_append, ← htl0]; rfl
                have hs0l : tl ≤ s0.length := by rw [hm0, List.length_append, List.length_append, ← htl0]; omega
                have f1 : (sl.length : Int) - (hx.length : Int) = (tl1 : Int) := by omega
                have f2 : (tl1 : Int) - 1 = (tl : Int) := by omega
                have f3 : (tl : Int) + 1 = (tl1 : Int) := by omega
                have f4 : ¬ ((tl : Int) < 0) := by omega
                have f5 : (0 : Int) ≤ (tl : Int) := by omega
                have f6 : (tl : Int) < (sl.length : Int) := by omega
                have f7 : (tl1 : Int) ≤ (sl.length : Int) := by omega
                have f8 : ¬ ((s0.length : Int) < (tl : Int)) := by omega
                have f9 : (tl : Int) ≤ (s0.length : Int) := by omega
                have f10 : (tl : Int) ≤ (sl.length : Int) := by omega
                have f11 : (0 : Int) ≤ (tl1 : Int) := by omega
                have f12 : (0 : Int) < (od.length : Int) := by omega
                have f15 : 0 < od.length := by omega
                have f18 : ¬ (s0.length < tl) := by omega
                have f19 : tl ≤ s0.length := by omega
                have f20 : tl ≤ sl.length := by omega
                have f21 : tl1 ≤ sl.length := by omega
                have f16 : od ≠ [] := by intro h; rw [h] at f15; simp at f15
                have f17 : (od = []) = False := by simp [f16]
                have f13 : IntKind.i64.wrap (tl1 : Int) = (tl1 : Int) := by rw [IntKind.wrap_i64]; omega
                have f14 : IntKind.i64.wrap (tl : Int) = (tl : Int) := by rw [IntKind.wrap_i64]; omega
                have hltl : tl < sl.length := by omega
                have hgx := get_atM (s := sl) (i := tl) (x := 47) hltl (by rw [← hsl, List.append_assoc, List.getElem?_append_right (by omega), ← htl0, Nat.sub_self]; rfl)
                have hx1 : (ByteArray.mk sl.toArray).extract tl1 sl.length = ⟨hx.toArray⟩ := by
                  rw [ba_extract, List.take_length, ← hsl, htl1, htl0, List.append_assoc, List.drop_append, List.drop_eq_nil_of_le (by omega), show tx.length + 1 - tx.length = 1 by omega]; rfl
                have hx2 : (ByteArray.mk sl.toArray).extract 0 tl = ⟨tx.toArray⟩ := by rw [ba_extract, ← hsl, htl0, List.append_assoc, List.take_left]; rfl
                have hx3 : (ByteArray.mk s0.toArray).extract 0 tl = ⟨tx.toArray⟩ := by rw [ba_extract, hm0, htl0, List.append_assoc, List.take_left]; rfl
                clear hdue hhl hbt hs0 hm0 hsl htx htl0 htl1 hsll hs0l htl hcs hcm hbj
                go_wp2_with fail
                go_quiet (fail)
                go_wp2_with fail
                go_roundw
                case rel => exact ⟨k + 1, by omega, by go_num, below_drewN (Hbk.out.trans (Hbj.out.mono Hbk.out.size)) _⟩
                case measure => simp [intOf]; omega
          · clear hbk
            go_wp2_with fail
            go_ret
            exact ⟨rfl, Hbwt.out.trans (Hbk.out.mono Hbwt.out.size)⟩
  · have hal : alikeL [b0] n0 = [] := by unfold alikeL; simp [hgood]
    rw [hal] at Ha
    clear hgood hal
    go_enter Tryd.func10, Tryd.ntmps10
    go_wp2_with fail
    with_reducible refine Ha.out.mono ?_
    rintro e wa ⟨A1, d1, rfl, h1, hb1⟩
    rw [List.length_nil] at h1 ⊢
    have Hbwa := hide (Hb0.out.trans (hb1.mono Hb0.out.size))
    clear h1 hb1 Ha
    go_wp2_with fail
    go_ret
    exact ⟨rfl, Hbwa.out⟩
end Go.Proofs.YtmfcgglgolajnaaDoor
