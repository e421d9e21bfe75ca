/-
  The walk of FnNetsWritten.
-/
import Derived.Test.YtmfcgglgolajnaaDoorNetsL
import Derived.Test.YtmfcgglgolajnaaDoorNetEach
import Derived.Test.YtmfcgglgolajnaaDoorNetStrC
import Derived.Test.YtmfcgglgolajnaaDoorAlike
import Derived.Test.YtmfcgglgolajnaaDoorMaskO
import Derived.Test.YtmfcgglgolajnaaDoorMB
namespace Go.Proofs.YtmfcgglgolajnaaDoor
open Go.RowKit
set_option linter.unusedVariables false

/-- A number and how many ones its mask has. -/
def goodP (p : List UInt8 × Nat) : Prop := (p.1.length = 4 ∨ p.1.length = 16) ∧ mapd p.1 = false ∧ p.2 ≤ 8 * p.1.length
def itN (l : List (List UInt8 × Nat)) : List (List UInt8) := l.map Prod.fst
def itM (l : List (List UInt8 × Nat)) : List (List UInt8) := l.map fun p => cidr p.1.length p.2
def itO (l : List (List UInt8 × Nat)) : List Int := l.map fun p => (p.2 : Int)
theorem itN_snoc (l : List (List UInt8 × Nat)) (p : List UInt8 × Nat) : itN (l ++ [p]) = itN l ++ [p.1] := by unfold itN; simp
theorem itM_snoc (l : List (List UInt8 × Nat)) (p : List UInt8 × Nat) : itM (l ++ [p]) = itM l ++ [cidr p.1.length p.2] := by unfold itM; simp
theorem itO_snoc (l : List (List UInt8 × Nat)) (p : List UInt8 × Nat) : itO (l ++ [p]) = itO l ++ [(p.2 : Int)] := by unfold itO; simp
theorem itN_len (l : List (List UInt8 × Nat)) : (itN l).length = l.length := List.length_map _
theorem itM_len (l : List (List UInt8 × Nat)) : (itM l).length = l.length := List.length_map _
theorem itO_len (l : List (List UInt8 × Nat)) : (itO l).length = l.length := List.length_map _
/-- The lines. -/
def itT (l : List (List UInt8 × Nat)) : List (List UInt8) := l.map fun p => ipText p.1 ++ 47 :: decL p.2
def itH (l : List (List UInt8 × Nat)) : List (List UInt8) := l.map fun p => ipText p.1
def itL (l : List (List UInt8 × Nat)) : List Nat := l.map fun p => p.2
theorem zip_it {l : List (List UInt8 × Nat)} (h : ∀ p ∈ l, goodP p) : List.zipWith netC (itN l) (itM l) = itT l := by
  induction l with
  | nil => rfl
  | cons p l ih =>
    show netC p.1 (cidr p.1.length p.2) :: List.zipWith netC (itN l) (itM l) = (ipText p.1 ++ 47 :: decL p.2) :: itT l
    rw [ih (fun q hq => h q (by simp [hq]))]
    unfold netC
    rw [ones_cidr (h p (by simp)).2.2, Int.toNat_natCast]
    simp
theorem heads_it {l : List (List UInt8 × Nat)} (h : ∀ p ∈ l, goodP p) : Heads (itH l) (itL l) (itT l) := by
  refine ⟨by unfold itH itT; simp, by unfold itL itT; simp, fun j t ht => ?_⟩
  unfold itT at ht
  rw [List.getElem?_map] at ht
  cases hp : l[j]? with
  | none => rw [hp] at ht; cases ht
  | some p =>
    rw [hp] at ht
    injection ht with ht
    have hg := h p (List.mem_of_getElem? hp)
    refine ⟨ipText p.1, p.2, by unfold itH; rw [List.getElem?_map, hp]; rfl, by unfold itL; rw [List.getElem?_map, hp]; rfl, ht.symm, (ipText_no p.1).2.2, (ipText_no p.1).2.1, ?_⟩
    have := hg.2.2
    rcases hg.1 with h | h <;> omega
theorem read_it {l : List (List UInt8 × Nat)} (h : ∀ p ∈ l, goodP p) : (itH l).map readG = l.map fun p => longOf p.1 := by
  unfold itH
  rw [List.map_map]
  refine List.map_congr_left fun p hp => ?_
  show readG (ipText p.1) = longOf p.1
  unfold readG
  rw [read_ipText p.1 (h p hp).1]
  rfl
/-- Heads and tails of the call's own, in two rows apart. -/
def HTr (wd : World) (hs : List (List UInt8)) (ls : List Nat) (v t : Value) (wr : World) : Prop :=
  wr.ownsRow wd.heap.size 9 1 v hs.length (hs.map sv) ∧ wr.ownsRow wd.heap.size 3 1 t ls.length (ls.map fun l : Nat => Value.int .i64 (l : Int)) ∧ Apart v t ∧ Below wd.heap.size wd wr
theorem HTr.start (wd : World) : HTr wd [] [] (.slice none 0 0) (.slice none 0 0) wd := ⟨World.ownsRow_nil wd _ _ _, World.ownsRow_nil wd _ _ _, Or.inl rfl, Below.refl _ _⟩
theorem HTr.head {wd wr w' : World} {hs : List (List UInt8)} {ls : List Nat} {v t v' : Value} {z : List UInt8} (h : HTr wd hs ls v t wr) (ho : w'.ownsRow wd.heap.size 9 1 v' (hs.length + 1) (hs.map sv ++ [.string ⟨z.toArray⟩])) (hg : (wr.alloc (.cells #[.string ⟨z.toArray⟩] 9)).grownBy w' v.ownBlock) (hv : v'.ownBlock = v.ownBlock ∨ v'.ownBlock = some (wr.heap.size + 1)) : HTr wd (hs ++ [z]) ls v' t w' := by
  obtain ⟨h1, h2, h3, h4⟩ := h
  exact ⟨by simpa [sv] using ho, own_far h2 h3.symm hg, (apart_far h2 h3.symm hv).symm, below_append (h4.alloc h4.size _) hg (h1.alloc _) (by simp; have := h4.size; omega)⟩
theorem HTr.tail {wd wr w' : World} {hs : List (List UInt8)} {ls : List Nat} {v t t' : Value} {z : Nat} (h : HTr wd hs ls v t wr) (ho : w'.ownsRow wd.heap.size 3 1 t' (ls.length + 1) ((ls.map fun l : Nat => Value.int .i64 (l : Int)) ++ [.int .i64 (z : Int)])) (hg : (wr.alloc (.cells #[.int .i64 (z : Int)] 3)).grownBy w' t.ownBlock) (hv : t'.ownBlock = t.ownBlock ∨ t'.ownBlock = some (wr.heap.size + 1)) : HTr wd hs (ls ++ [z]) v t' w' := by
  obtain ⟨h1, h2, h3, h4⟩ := h
  exact ⟨own_far h1 h3 hg, by simpa using ho, apart_far h1 h3 hv, below_append (h4.alloc h4.size _) hg (h2.alloc _) (by simp; have := h4.size; omega)⟩
theorem mapd_long {xs : List UInt8} (h : xs.length = 4) : mapd (longOf xs) = true := by
  match xs, h with
  | [a, b, c, d], _ => unfold longOf mapd zerosB pre12; simp
set_option maxRecDepth 100000 in
theorem slice12 (g o c : Nat) (hc : 16 ≤ c) : ∀ W, (Instr.sliceAt 22 (.slice (some ⟨g, o, none⟩) 16 c) (some (.int .i64 12)) none none).run Tryd.prog W = .ok (.slice (some ⟨g, o + 12, none⟩) 4 (c - 12)) W := fun W => by
  have h1 : (16 : Int) ≤ (c : Int) := by omega
  have h2 : ¬ c = 12 := by omega
  have e : (⟨g, o, none⟩ : Addr).add 12 = ⟨g, o + 12, none⟩ := by unfold Addr.add; split <;> simp_all
  simp [go_sem, Tryd.underlying22, h2]
set_option maxRecDepth 100000 in
theorem slice0 (g o c : Nat) (hc : 16 ≤ c) : ∀ W, (Instr.sliceAt 22 (.slice (some ⟨g, o, none⟩) 16 c) (some (.int .i64 0)) none none).run Tryd.prog W = .ok (.slice (some ⟨g, o, none⟩) 16 c) W := fun W => by
  have h1 : (16 : Int) ≤ (c : Int) := by omega
  simp [go_sem, Tryd.underlying22]
/-- The text of the first k lines. -/
def AllN (ts : List (List UInt8)) (k : Nat) (v : Value) : Prop := v = .string ⟨(linesL (ts.take k)).toArray⟩ ∧ (linesL (ts.take k)).length ≤ k * 100

set_option maxRecDepth 100000 in
set_option maxHeartbeats 12800000 in
theorem fnNetsWritten_walk (w : World) (hpw : Pow10 w) (g4 o4 g6 o6 : Nat) (hz : ZX w g4 o4 g6 o6) (a0 : Option Addr) (n0 c0 : Nat) (b0 : List (List UInt8)) (w0 : RBB w no a0 n0 c0 b0) (r0 : c0 * 24 ≤ 140737488351232) (l0 : ∀ b ∈ b0, b.length ≤ 140737488351232) (a1 : Option Addr) (n1 c1 : Nat) (b1 : List UInt8) (w1 : RB w no a1 n1 c1 b1) (r1 : c1 ≤ 140737488351232) :
    Calls Tryd.prog 5 #[.slice a0 n0 c0, .slice a1 n1 c1] w fun e w' => e = .returned (.bool true) ∧ Below w.heap.size w w' := by
  obtain ⟨i0, hinf, hz0, hz1, hz2⟩ := info_parts bytes_info
  obtain ⟨iI, hinI, hzI0, hzI1, hzI2⟩ := info_parts int_info
  obtain ⟨iS, hinS, hzS0, hzS1, hzS2⟩ := info_parts string_info
  have k0 := w0.cap
  have k1 := w1.cap
  have W0 := hide w0
  have W1 := hide w1
  have L0 := hide l0
  have Hz := hide hz
  have Hpw := hide hpw
  have Hst := hide (Tri.start w)
  clear w0 w1 l0 hz hpw
  go_enter Tryd.func5, Tryd.ntmps5
  go_wp2_with fail
  go_loopw [5, 6, 7, 26] (fun v u o i wr => ∃ (k : Nat) (items : List (List UInt8 × Nat)), k ≤ n0 ∧ i = .int .i64 (k : Int) ∧ items.length ≤ k ∧ (∀ p ∈ items, goodP p) ∧ Tri w (itN items) (itM items) (itO items) v u o wr) (fun _ _ _ i _ => n0 - (intOf i).toNat)
  case atStart => exact ⟨0, [], Nat.zero_le _, rfl, Nat.le_refl _, (fun p hp => by simp at hp), Hst.out⟩
  case round =>
    obtain ⟨k, items, hk, rfl, hil, hgp, htri⟩ := hrel
    have Htri := hide htri
    have Hgp := hide hgp
    have hbw := htri.belowW
    by_cases hlt : k < n0
    · obtain ⟨g, o, B, m, f, b, rfl, hbk, hc, hb⟩ := (W0.out.below hbw).at_ hlt
      have i1 : (0 : Int) ≤ k := by omega
      have i2 : (k : Int) < n0 := by omega
      have hmb : m ≤ 140737488351232 := by rw [← hb.len]; exact L0.out b (List.mem_of_getElem? hbk)
      by_cases hl1 : k < n1
      · have t1 : (k : Int) < n1 := by omega
        have hb0 : Below wr.heap.size wr (wr.alloc (.cells #[.slice B m f] 22)) := (Below.refl _ _).alloc (Nat.le_refl _) _
        have Ha := hide (alike_any (some ⟨wr.heap.size, 0, none⟩) 1 1 m [b] (wr.alloc (.cells #[.slice B m f] 22)) (RBB.one 22 hb) (by omega) (by intro x hx; simp at hx; subst hx; rw [hb.len]; omega))
        have Hb0 := hide hb0
        have Hb := hide hb
        by_cases hgood : goodA m b = true
        · have hal : alikeL [b] m = [b] := by unfold alikeL; simp [hgood]
          rw [hal] at Ha
          have hg2 : (b.length = m ∧ (m = 4 ∨ m = 16)) ∧ mapd b = false := by unfold goodA at hgood; simpa using hgood
          obtain ⟨gl, ol, x, rfl, hxk, hcx⟩ := (W1.out.below hbw).at_ hl1
          have hx256 := lt_256 x
          obtain ⟨kk, hkk⟩ : ∃ kk, kk = x.toNat % (8 * m + 1) := ⟨_, rfl⟩
          have hkb : kk ≤ 8 * m := by have := Nat.mod_lt x.toNat (show 0 < 8 * m + 1 by omega); omega
          have hgoodP : goodP (b, kk) := ⟨by show b.length = 4 ∨ b.length = 16; rw [hg2.1.1]; exact hg2.1.2, hg2.2, by show kk ≤ 8 * b.length; rw [hg2.1.1]; exact hkb⟩
          have HgoodP := hide hgoodP
          have hm16 : m ≤ 16 := by omega
          have Hm := hide hg2.1.2
          have Hbm := hide hg2.1.1
          have u1 : ((8 * (m : Int) + 1) == 0) = false := by rw [beq_eq_false_iff_ne]; omega
          have u2 : ¬ (8 * (m : Int) + 1 = 0) := by omega
          have u3 : (x.toNat : Int).tmod (8 * (m : Int) + 1) = (kk : Int) := by
            rw [Int.tmod_eq_emod_of_nonneg (by omega), hkk]; push_cast; rfl
          have Hkb := hide hkb
          have Hn : Hid (itN (items ++ [(b, kk)]) = itN items ++ [b]) := hide (itN_snoc _ _)
          have HM : Hid (itM (items ++ [(b, kk)]) = itM items ++ [cidr m kk]) := hide (by rw [itM_snoc]; show itM items ++ [cidr b.length kk] = _; rw [hg2.1.1])
          have HOs : Hid (itO (items ++ [(b, kk)]) = itO items ++ [(kk : Int)]) := hide (itO_snoc _ _)
          have hnl := itN_len items
          have hml := itM_len items
          have hol := itO_len items
          generalize itN items = nu at *
          generalize itM items = mk at *
          generalize itO items = os at *
          have hnl' : nu.length ≤ k := by omega
          have hml' : mk.length ≤ k := by omega
          have hol' : os.length ≤ k := by omega
          clear hnl hml hol
          clear hgood hal hg2 hkk hgoodP hxk hbk htri hgp hb hb0 hkb
          go_wp2_with fail
          with_reducible refine Ha.out.mono ?_
          rintro e wa ⟨A1, d1, rfl, h1, hb1⟩
          rw [show [b].length = 1 from rfl] at h1 ⊢
          have hba := Hb0.out.trans (hb1.mono Hb0.out.size)
          have Hta := hide (Htri.out.below hba)
          have hcxa := cell_below hcx hba
          have Hcp := hide (copied_own B m f b wa no (Hb.out.below hba) (by omega))
          clear h1 hb1 hba Ha Htri hcx hc
          go_wp2_with fail
          with_reducible refine Hcp.out.mono ?_
          rintro e wb ⟨vc, rfl, hcv, hcb⟩
          obtain ⟨Ac, cc, rfl, hrc⟩ := RB.of_own_av (av := R3 u5 u6 u7) hcv Hta.out.lt
          have htb := Hta.out.below hcb
          obtain ⟨xs, hown, hstep⟩ := htb.num hrc
          have Ho := hide (hown.alloc (.cells #[.slice Ac m cc] 22))
          have Hf := hide hstep
          have hsz := htb.belowW.size
          clear hcv hcb hrc htb hown hstep Hcp Hta hcxa
          go_wp2_with (at_builtin; refine wpList_append_rd _ rfl (.tmp 54) (.tmp 57) _ rfl w.heap.size 22 i0 _ 24 Tryd.underlying27 hinf hz0 hz1 hz2 rfl _ nu.length _ rfl Ho.out no (some ⟨wb.heap.size, 0, none⟩) 1 1 [.slice Ac m cc] rfl ?p1 ?p2 ?p3 ?p4 ?p5 ?_)
          case p1 => exact Rd.one wb _ _ no (fun h => h)
          case p2 => first | rfl | (intro u hu; simp at hu; subst hu; rfl)
          case p3 => unfold maxLen; omega
          case p4 => omega
          case p5 => first | omega | (simp; omega)
          intro v' wc q1 q2 q3
          have htc := Hf.out v' wc q1 q2 q3
          obtain ⟨hown, hstep⟩ := htc.one (z := (kk : Int))
          have Ho2 := hide (hown.alloc (.cells #[.int .i64 (kk : Int)] 3))
          have Hf2 := hide hstep
          have hsz2 := htc.belowW.size
          generalize hom : os.map (Value.int .i64) = om at *
          clear q1 q2 q3 htc hown hstep Ho Hf hom
          go_wp2_with (at_builtin; refine wpList_append_rd _ rfl (.tmp 59) (.tmp 61) _ rfl w.heap.size 3 iI _ 8 Tryd.underlying39 hinI hzI0 hzI1 hzI2 rfl _ os.length _ rfl Ho2.out no (some ⟨wc.heap.size, 0, none⟩) 1 1 [.int .i64 (kk : Int)] rfl ?p1 ?p2 ?p3 ?p4 ?p5 ?_)
          case p1 => exact Rd.one wc _ _ no (fun h => h)
          case p2 => first | rfl | (intro u hu; simp at hu; subst hu; rfl)
          case p3 => unfold maxLen; omega
          case p4 => omega
          case p5 => first | omega | (simp; omega)
          intro o' wd q1 q2 q3
          have htd := Hf2.out o' wd q1 q2 q3
          have Htd := hide htd
          have Hmo := hide (maskOf_any (kk : Int) m wd Hm.out (by omega) (by have := Hkb.out; omega))
          rw [Int.toNat_natCast] at Hmo
          clear q1 q2 q3 htd Ho2 Hf2
          go_wp2_with fail
          with_reducible refine Hmo.out.mono ?_
          rintro e we ⟨Am, cm, rfl, hrm, hbm⟩
          rw [cidr_length] at hrm ⊢
          have hte := Htd.out.below hbm
          obtain ⟨ys, hown, hstep⟩ := hte.mask (hrm.sub fun g _ hg => Htd.out.lt g hg)
          have Ho3 := hide (hown.alloc (.cells #[.slice Am m cm] 22))
          have Hf3 := hide hstep
          have hsz3 := hte.belowW.size
          clear hrm hbm hte hown hstep Hmo Htd
          go_wp2_with (at_builtin; refine wpList_append_rd _ rfl (.tmp 63) (.tmp 68) _ rfl w.heap.size 22 i0 _ 24 Tryd.underlying27 hinf hz0 hz1 hz2 rfl _ mk.length _ rfl Ho3.out no (some ⟨we.heap.size, 0, none⟩) 1 1 [.slice Am m cm] rfl ?p1 ?p2 ?p3 ?p4 ?p5 ?_)
          case p1 => exact Rd.one we _ _ no (fun h => h)
          case p2 => first | rfl | (intro u hu; simp at hu; subst hu; rfl)
          case p3 => unfold maxLen; omega
          case p4 => omega
          case p5 => first | omega | (simp; omega)
          intro u' wf q1 q2 q3
          have HT := hide (Hf3.out u' wf q1 q2 q3)
          clear q1 q2 q3 Ho3 Hf3
          go_wp2_with fail
          go_roundw
          case rel => exact ⟨k + 1, items ++ [(b, kk)], by omega, by go_num, by simp; omega, (fun p hp => by rcases List.mem_append.1 hp with h | h; exact Hgp.out p h; simp at h; subst h; exact HgoodP.out), by rw [Hn.out, HM.out, HOs.out]; exact HT.out⟩
          case measure => simp [intOf]; omega
        · have hal : alikeL [b] m = [] := by unfold alikeL; simp [hgood]
          rw [hal] at Ha
          clear hgood hal htri hgp hb hb0 hbk
          go_wp2_with fail
          with_reducible refine Ha.out.mono ?_
          rintro e wa ⟨A1, d1, rfl, h1, hb1⟩
          rw [List.length_nil] at h1 ⊢
          have Hta := hide (Htri.out.below (Hb0.out.trans (hb1.mono Hb0.out.size)))
          clear h1 hb1 Ha hc
          go_wp2_with fail
          go_roundw
          case rel => exact ⟨k + 1, items, by omega, by go_num, by omega, Hgp.out, Hta.out⟩
          case measure => simp [intOf]; omega
      · have t1 : ¬ ((k : Int) < n1) := by omega
        clear htri hgp hb hbk
        go_wp2_with fail
        go_roundw
        case rel => exact ⟨k + 1, items, by omega, by go_num, by omega, Hgp.out, Htri.out⟩
        case measure => simp [intOf]; omega
    · obtain rfl : k = n0 := by omega
      obtain ⟨xs, ys, h1, h2, h3, h4, h5, h6, h7, h8, h9⟩ := htri
      rw [itN_len] at h1
      rw [itM_len] at h2
      rw [itO_len] at h3
      obtain ⟨A1, d1, rfl, hN⟩ := RBB.of_own h1 h4.free
      obtain ⟨A2, d2, rfl, hM⟩ := RBB.of_own h2 h5.free
      obtain ⟨A3, d3, rfl, hO⟩ := RI.of_own_av (av := no) h3 (fun g h => h.elim)
      obtain ⟨wf, rfl⟩ : ∃ wf : World, wf = wr := ⟨_, rfl⟩
      have Hns := hide (netStrings_any netC A1 A2 items.length d1 d2 (itN items) (itM items) wf hN hM (by omega) (fun i xs ms hxs hms => by
        unfold itN at hxs
        unfold itM at hms
        rw [List.getElem?_map] at hxs hms
        cases hp : items[i]? with
        | none => rw [hp] at hxs; cases hxs
        | some p =>
          rw [hp] at hxs hms
          injection hxs with hxs
          injection hms with hms
          subst hxs hms
          have hg := hgp p (List.mem_of_getElem? hp)
          intro W q c d A M hW z0 z1 za zm
          rw [cidr_length] at z1 zm
          exact netString_ones q 0 p.1.length c d A M p.1 _ W g4 o4 g6 o6 ((Hz.out.below h9).below hW) z0 z1 za zm hg.1 hg.2.1 p.2 (by have := hg.2.2; rcases hg.1 with h | h <;> omega) (ones_cidr hg.2.2) ((Hpw.out.below h9).below hW)))
      rw [zip_it hgp] at Hns
      have HN := hide hN
      have HO := hide hO
      have Hbwf := hide h9
      have Hheads := hide (heads_it hgp)
      have Hread := hide (read_it hgp)
      have Htl : Hid (∀ t ∈ itT items, t.length ≤ 99) := hide (fun t ht => by
        obtain ⟨p, hp, rfl⟩ := List.mem_map.1 ht
        have hg := hgp p hp
        have e1 := ipText_len p.1 hg.1
        have e2 : (decL p.2).length ≤ 4 := decL_length_le (k := 3) (by have := hg.2.2; rcases hg.1 with h | h <;> omega)
        rw [List.length_append, List.length_cons]; omega)
      have Hhl : Hid (∀ s ∈ itH items, s.length ≤ 48 ∧ (37 : UInt8) ∉ s) := hide (fun s hs => by
        obtain ⟨p, hp, rfl⟩ := List.mem_map.1 hs
        exact ⟨ipText_len p.1 (hgp p hp).1, (ipText_no p.1).1⟩)
      have hTl : (itT items).length = items.length := List.length_map _
      have HTl := hide hTl
      have Hlsp : Hid (∀ (i : Nat) (p : List UInt8 × Nat), items[i]? = some p → (itL items)[i]? = some p.2) := hide (fun i p hp => by unfold itL; rw [List.getElem?_map, hp]; rfl)
      have Hhsl : Hid ((itH items).length = items.length) := hide (List.length_map _)
      have Hlsl : Hid ((itL items).length = items.length) := hide (List.length_map _)
      clear h1 h2 h3 h4 h5 h6 h7 h8 h9 hN hM hO hgp hbw Htri
      go_wp2_with fail
      with_reducible refine Hns.out.mono ?_
      rintro e wt ⟨A4, d4, rfl, h4, hb4⟩
      rw [hTl] at h4 ⊢
      have HT := hide h4.free
      have HNt := hide (HN.out.below hb4)
      have HOt := hide (HO.out.below hb4)
      have hbwt := Hbwf.out.trans (hb4.mono Hbwf.out.size)
      have Hbwt := hide hbwt
      have hne : ((items.length : Int) != (items.length : Int)) = false := by simp
      generalize itT items = ts at *
      generalize itH items = hs at *
      generalize itL items = ls at *
      clear h4 hb4 hbwt Hns HN HO hTl
      go_wp2_with fail
      go_loop [12, 81] (fun s12 i => ∃ j : Nat, j ≤ items.length ∧ i = .int .i64 (j : Int) ∧ AllN ts j s12) (fun _ i => items.length - (intOf i).toNat)
      case atStart => exact ⟨0, Nat.zero_le _, rfl, rfl, by simp [linesL]⟩
      case round =>
        obtain ⟨j, hj, rfl, rfl, hjl⟩ := hrel
        by_cases hltj : j < items.length
        · obtain ⟨g, o, t, rfl, htk, hct⟩ := HT.out.at_ hltj
          have htl := Htl.out t (List.mem_of_getElem? htk)
          have Hn := hide (linesL_snoc htk)
          clear htk
          generalize linesL (ts.take j) = jo at *
          have q1 : ¬ (9223372036854775807 < t.length + 1) := by omega
          have q2 : ¬ (9223372036854775807 < jo.length + (t.length + 1)) := by omega
          have Hjl := hide hjl
          have Htl2 := hide htl
          clear hjl htl
          go_wp2_with fail
          go_round
          case rel => exact ⟨j + 1, by omega, by go_num, by rw [Hn.out, ← ba_append, ← ba_append], by have := Hjl.out; have := Htl2.out; rw [Hn.out, List.length_append, List.length_append]; simp; omega⟩
          case measure => simp [intOf]; omega
        · obtain rfl : j = items.length := by omega
          have Hend : Hid (ts.take items.length = ts) := hide (List.take_of_length_le (by rw [HTl.out]; omega))
          rw [Hend.out] at hjl ⊢
          obtain ⟨tot, htot⟩ : ∃ tot, tot = linesL ts := ⟨_, rfl⟩
          rw [← htot] at hjl ⊢
          have Htot := hide htot
          have Hst2 := hide (HTr.start wt)
          clear htot Hend
          go_wp2_with fail
          go_loopw [15, 16, 17, 18, 19, 92] (fun v t s17 s18 s19 i wr => ∃ (k j : Nat) (sl : Int) (vl : Nat), k ≤ tot.length ∧ i = .int .i64 (k : Int) ∧ s17 = .int .i64 (fromL ts j : Int) ∧ s18 = .int .i64 sl ∧ s19 = .int .i64 (vl : Int) ∧ NS hs ls ts j k sl vl ∧ HTr wt (hs.take j) (ls.take j) v t wr) (fun _ _ _ _ _ i _ => tot.length - (intOf i).toNat)
          case atStart => exact ⟨0, 0, -1, 0, Nat.zero_le _, rfl, by simp [fromL, linesL], rfl, rfl, NS.start hs ls ts, Hst2.out⟩
          case round =>
            obtain ⟨k, j, sl, vl, hk', rfl, rfl, rfl, rfl, hI, hr⟩ := hrel
            have Hr := hide hr
            have hvl := hI.2.1
            have hsl1 := hI.2.2.1
            have hsl2 := hI.2.2.2.1
            by_cases hltk : k < tot.length
            · obtain ⟨c, hc, hcase⟩ := hI.next Hheads.out (by rw [← Htot.out]; exact hltk)
              rw [← Htot.out] at hc
              have hgx := get_at hltk hc
              have k1' : (0 : Int) ≤ k := by omega
              have k2 : (k : Int) < tot.length := by omega
              have hc256 := lt_256 c
              have neq : ∀ c n : UInt8, c ≠ n → ((c.toNat : Int) == (n.toNat : Int)) = false := fun c n h => by
                rw [beq_eq_false_iff_ne]; intro e; exact h (UInt8.toNat_inj.1 (by omega))
              rcases hcase with ⟨h47, h10, hsf, hI2⟩ | ⟨h47, hI2⟩ | ⟨h47, h10, hsf, hd1, hd2, hnb, hI2⟩ | ⟨h10, ⟨sn, hsn, hsn1, hsn2, hd, hhd, hex⟩, hlj, hjt, hnx, hI2⟩
              · have e47 : ((c.toNat : Int) == 47) = false := neq c 47 h47
                have e10 : ((c.toNat : Int) == 10) = false := neq c 10 h10
                have hsf' : ¬ ((fromL ts j : Int) ≤ sl) := by omega
                have HI2 := hide hI2
                generalize hfr : fromL ts j = fr at *
                have Hfr := hide hfr
                clear hI hI2 hr hc neq h47 h10 hfr
                go_wp2_with fail
                go_roundw
                case rel => exact ⟨k + 1, j, sl, vl, by omega, by go_num, by rw [Hfr.out], rfl, rfl, HI2.out, Hr.out⟩
                case measure => simp [intOf]; omega
              · subst h47
                have HI2 := hide hI2
                generalize hfr : fromL ts j = fr at *
                have Hfr := hide hfr
                clear hI hI2 hr hc neq hfr
                go_wp2_with fail
                go_roundw
                case rel => exact ⟨k + 1, j, (k : Int), 0, by omega, by go_num, by rw [Hfr.out], rfl, rfl, HI2.out, Hr.out⟩
                case measure => simp [intOf]; omega
              · have e47 : ((c.toNat : Int) == 47) = false := neq c 47 h47
                have e10 : ((c.toNat : Int) == 10) = false := neq c 10 h10
                obtain ⟨nv, hnv⟩ : ∃ nv, nv = vl * 10 + (c.toNat - 48) := ⟨_, rfl⟩
                rw [← hnv] at hnb hI2
                have d1' : ¬ ((c.toNat : Int) < 48) := by omega
                have d2' : ¬ ((57 : Int) < (c.toNat : Int)) := by omega
                have d3' : (48 : Int) ≤ (c.toNat : Int) := by omega
                have d4' : (10 : Int) * (vl : Int) + ((c.toNat : Int) - 48) = (nv : Int) := by omega
                have d5' : min (1000 : Int) (nv : Int) = (nv : Int) := by omega
                have d6' : (nv : Int) ≤ 1000 := by omega
                have HI2 := hide hI2
                generalize hfr : fromL ts j = fr at *
                have Hfr := hide hfr
                clear hI hI2 hr hc neq h47 h10 hfr hnv
                go_wp2_with fail
                go_roundw
                case rel => exact ⟨k + 1, j, sl, nv, by omega, by go_num, by rw [Hfr.out], rfl, by go_num, HI2.out, Hr.out⟩
                case measure => simp [intOf]; omega
              · subst h10 hsn
                rw [← Htot.out] at hex
                have hext : (ByteArray.mk tot.toArray).extract (fromL ts j) sn = ⟨hd.toArray⟩ := by rw [ba_extract, hex]
                have f1 : ¬ ((sn : Int) < (fromL ts j : Int)) := by omega
                have f2 : (fromL ts j : Int) ≤ (sn : Int) := by omega
                have f3 : (sn : Int) ≤ (tot.length : Int) := by omega
                have HI2 := hide hI2
                have Hnx := hide hnx
                have Hsn1 : Hid (hs.take (j + 1) = hs.take j ++ [hd]) := hide (take_snoc hhd)
                have Hsn2 : Hid (ls.take (j + 1) = ls.take j ++ [vl]) := hide (take_snoc hlj)
                have hjN : j < items.length := by rw [← HTl.out]; exact hjt
                have Hl1 : Hid ((hs.take j).length = j) := hide (by rw [List.length_take, Hhsl.out]; omega)
                have Hl2 : Hid ((ls.take j).length = j) := hide (by rw [List.length_take, Hlsl.out]; omega)
                have hsz := hr.2.2.2.size
                have Ho := hide (hr.1.alloc (.cells #[.string ⟨hd.toArray⟩] 9))
                rw [Hl1.out] at Ho
                have Hf := hide (fun v' w' => HTr.head (v' := v') (w' := w') (z := hd) hr)
                rw [Hl1.out] at Hf
                generalize fromL ts j = fr at *
                generalize hs.take j = hsj at *
                generalize ls.take j = lsj at *
                generalize hmv : hsj.map sv = mv at *
                clear hI hI2 hr hc neq hnx hhd hlj hjt hex hsn1 hsn2 hmv
                go_wp2_with (at_builtin; refine wpList_append_rd _ rfl (.tmp 109) (.tmp 114) _ rfl wt.heap.size 9 iS _ 16 Tryd.underlying34 hinS hzS0 hzS1 hzS2 rfl _ j _ rfl Ho.out no (some ⟨wr.heap.size, 0, none⟩) 1 1 [.string ⟨hd.toArray⟩] rfl ?p1 ?p2 ?p3 ?p4 ?p5 ?_)
                case p1 => exact Rd.one wr _ _ no (fun h => h)
                case p2 => first | rfl | (intro u hu; simp at hu; subst hu; rfl)
                case p3 => unfold maxLen; omega
                case p4 => omega
                case p5 => first | omega | (simp; omega)
                intro v' w2 q1 q2 q3
                have hr2 := Hf.out v' w2 q1 q2 q3
                have hsz2 := hr2.2.2.2.size
                have Ho2 := hide (hr2.2.1.alloc (.cells #[.int .i64 (vl : Int)] 3))
                rw [Hl2.out] at Ho2
                have Hf2 := hide (fun t' w' => HTr.tail (t' := t') (w' := w') (z := vl) hr2)
                rw [Hl2.out] at Hf2
                generalize hmv : (lsj.map fun l : Nat => Value.int .i64 (l : Int)) = mv2 at *
                clear q1 q2 q3 hr2 Ho Hf hmv
                go_wp2_with (at_builtin; refine wpList_append_rd _ rfl (.tmp 116) (.tmp 118) _ rfl wt.heap.size 3 iI _ 8 Tryd.underlying39 hinI hzI0 hzI1 hzI2 rfl _ j _ rfl Ho2.out no (some ⟨w2.heap.size, 0, none⟩) 1 1 [.int .i64 (vl : Int)] rfl ?p1 ?p2 ?p3 ?p4 ?p5 ?_)
                case p1 => exact Rd.one w2 _ _ no (fun h => h)
                case p2 => first | rfl | (intro u hu; simp at hu; subst hu; rfl)
                case p3 => unfold maxLen; omega
                case p4 => omega
                case p5 => first | omega | (simp; omega)
                intro t' w3 q1 q2 q3
                have HR3 := hide (Hf2.out t' w3 q1 q2 q3)
                clear q1 q2 q3 Ho2 Hf2
                go_wp2_with fail
                go_roundw
                case rel => exact ⟨k + 1, j + 1, (sn : Int), vl, by omega, by go_num, by rw [← Hnx.out]; go_num, rfl, rfl, HI2.out, by rw [Hsn1.out, Hsn2.out]; exact HR3.out⟩
                case measure => simp [intOf]; omega
            · have hj := hI.1.over (by rw [← Htot.out]; exact hltk)
              rw [HTl.out] at hj
              subst hj
              rw [List.take_of_length_le (by rw [Hhsl.out]; exact Nat.le_refl _), List.take_of_length_le (by rw [Hlsl.out]; exact Nat.le_refl _)] at hr
              obtain ⟨h1, h2, _, h4⟩ := hr
              rw [Hhsl.out] at h1
              rw [Hlsl.out, show (ls.map fun l : Nat => Value.int .i64 (l : Int)) = (ls.map fun l : Nat => (l : Int)).map (Value.int .i64) from by rw [List.map_map]; rfl] at h2
              obtain ⟨A5, d5, rfl, hS⟩ := RS.of_own_av (av := no) h1 (fun g h => h.elim)
              obtain ⟨A6, d6, rfl, hT6⟩ := RI.of_own_av (av := no) h2 (fun g h => h.elim)
              obtain ⟨wg, rfl⟩ : ∃ wg : World, wg = wr := ⟨_, rfl⟩
              have hbwg := Hbwt.out.trans (h4.mono Hbwt.out.size)
              have Hpe := hide (parseEachG_any A5 items.length d5 hs wg g4 o4 g6 o6 hS (by omega) (Hz.out.below hbwg) (fun s hs' => ⟨by have := (Hhl.out s hs').1; omega, (Hhl.out s hs').2⟩))
              rw [Hread.out] at Hpe
              have HNg := hide (HNt.out.below h4)
              have HOg := hide (HOt.out.below h4)
              have HTg := hide hT6
              have Hbwg := hide hbwg
              have hl7 : (items.map fun p => longOf p.1).length = items.length := List.length_map _
              have Hl7 := hide hl7
              generalize fromL ts items.length = fr at *
              clear hI h1 h2 h4 hS hT6 hbwg Hr HNt HOt hl7
              go_wp2_with fail
              with_reducible refine Hpe.out.mono ?_
              rintro e wi ⟨A7, d7, rfl, h7, hb7⟩
              rw [Hl7.out] at h7 ⊢
              have H7 := hide h7
              have HNi := hide (HNg.out.below hb7)
              have HOi := hide (HOg.out.below hb7)
              have HTi := hide (HTg.out.below hb7)
              have Hbwi := hide (Hbwg.out.trans (hb7.mono Hbwg.out.size))
              clear h7 hb7 Hpe HNg HOg HTg
              go_wp2_with fail
              go_loopw [162] (fun i wx => ∃ k : Nat, k ≤ items.length ∧ i = .int .i64 (k : Int) ∧ Below wi.heap.size wi wx) (fun i _ => items.length - (intOf i).toNat)
              case atStart => exact ⟨0, Nat.zero_le _, rfl, Below.refl _ _⟩
              case round =>
                obtain ⟨i, hi', rfl, hbi⟩ := hrel
                have Hbi := hide hbi
                by_cases hlti : i < items.length
                · obtain ⟨p, hp⟩ : ∃ p, items[i]? = some p := ⟨_, List.getElem?_eq_getElem hlti⟩
                  have hg := Hgp.out p (List.mem_of_getElem? hp)
                  obtain ⟨g7, o7, B7, m7, f7, bb, rfl, hbb, hc7, hr7⟩ := (H7.out.below hbi).at_ hlti
                  obtain rfl : bb = longOf p.1 := by rw [List.getElem?_map, hp] at hbb; injection hbb with hbb; exact hbb.symm
                  obtain rfl : m7 = 16 := by rw [← hr7.len]; exact longOf_length hg.1
                  obtain ⟨gn, on, Bn, mn, fn, xn, rfl, hxn, hcn, hrn⟩ := (HNi.out.below hbi).at_ hlti
                  obtain rfl : xn = p.1 := by unfold itN at hxn; rw [List.getElem?_map, hp] at hxn; injection hxn with hxn; exact hxn.symm
                  obtain ⟨gt, ot, zt, rfl, hzt, hct⟩ := (HTi.out.below hbi).at_ hlti
                  obtain rfl : zt = (p.2 : Int) := by rw [List.getElem?_map, Hlsp.out i p hp] at hzt; injection hzt with hzt; exact hzt.symm
                  obtain ⟨go, oo, zo, rfl, hzo, hco⟩ := (HOi.out.below hbi).at_ hlti
                  obtain rfl : zo = (p.2 : Int) := by unfold itO at hzo; rw [List.getElem?_map, hp] at hzo; injection hzo with hzo; exact hzo.symm
                  obtain ⟨gb, ob, _, rfl, _, _⟩ := hr7.at_ (k := 0) (by omega)
                  have hcap := hr7.cap
                  have hmn := hrn.len
                  have i1 : (0 : Int) ≤ i := by omega
                  have i2 : (i : Int) < items.length := by omega
                  have nz : (((p.2 : Int)) != (p.2 : Int)) = false := by simp
                  rcases hg.1 with h4 | h16
                  · obtain rfl : mn = 4 := by omega
                    have hlo : longOf p.1 = pre12 ++ p.1 := by unfold longOf; rw [if_pos h4]
                    have hd12 := hr7.drop (k := 12) rfl (by omega)
                    rw [hlo, show (pre12 ++ p.1).drop 12 = p.1 from rfl] at hd12
                    have Hsm := hide (fun q => same_any (some ⟨gb, ob + 12, none⟩) Bn 4 (f7 - 12) 4 fn p.1 p.1 (wr.drewN q) no no (RB.drewN hd12 q) (hrn.drewN q))
                    rw [show eqL p.1 p.1 = true from eqL_iff.2 rfl] at Hsm
                    have Hmp := hide (fun q => (isMapped_any (some ⟨gb, ob, none⟩) 16 f7 (longOf p.1) (wr.drewN q) no (hr7.drewN q)).mono fun e w' (h : e = .returned (.bool (mapd (longOf p.1))) ∧ wr.drewN q = w') => show e = .returned (.bool true) ∧ w' = wr.drewN q from ⟨by rw [h.1, mapd_long h4], h.2.symm⟩)
                    have hsl := slice12 gb ob f7 hcap
                    generalize (p.2 : Int) = pz at *
                    clear hp hg hbb hr7 hxn hrn hzt hzo hcap hmn h4 hlo hd12 hbi
                    go_wp2_with fail
                    go_quiet ((first | (go_at_call 16; exact Calls.quiet_of (Hsm.out _)) | (go_at_call 26; exact Calls.quiet_of_same (Hmp.out _))))
                    go_wp2_with fail
                    go_roundw
                    case rel => exact ⟨i + 1, by omega, by go_num, below_drewN Hbi.out _⟩
                    case measure => simp [intOf]; omega
                  · obtain rfl : mn = 16 := by omega
                    have hlo : longOf p.1 = p.1 := by unfold longOf; rw [if_neg (by omega)]
                    rw [hlo] at hr7
                    have Hsm := hide (fun q => same_any (some ⟨gb, ob, none⟩) Bn 16 f7 16 fn p.1 p.1 (wr.drewN q) no no (hr7.drewN q) (hrn.drewN q))
                    rw [show eqL p.1 p.1 = true from eqL_iff.2 rfl] at Hsm
                    have hsl := slice0 gb ob f7 hcap
                    generalize (p.2 : Int) = pz at *
                    clear hp hg hbb hr7 hxn hrn hzt hzo hcap hmn h16 hlo hbi
                    go_wp2_with fail
                    go_quiet ((go_at_call 16; exact Calls.quiet_of (Hsm.out _)))
                    go_wp2_with fail
                    go_roundw
                    case rel => exact ⟨i + 1, by omega, by go_num, below_drewN Hbi.out _⟩
                    case measure => simp [intOf]; omega
                · clear hbi
                  go_wp2_with fail
                  go_ret
                  exact ⟨rfl, Hbwi.out.trans (Hbi.out.mono Hbwi.out.size)⟩
end Go.Proofs.YtmfcgglgolajnaaDoor
