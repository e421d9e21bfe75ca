/-
  The walk of FnMasksSorted.
-/
import Derived.Test.YtknajppjgdhbfaaDoorSortL
import Derived.Test.YtknajppjgdhbfaaDoorOnesIn
import Derived.Test.YtknajppjgdhbfaaDoorFilled
import Derived.Test.YtknajppjgdhbfaaDoorSame
import Derived.Deep.RegionHeld3
import Derived.IntWalk
import Derived.Deep.CutRange
import Derived.Deep.DeepCutAuto
namespace Go.Proofs.YtknajppjgdhbfaaDoor
open Go.RowKit
set_option linter.unusedVariables false

/-- A row of ints of the call's own. -/
def OwnI (w : World) (v : Value) (N : Nat) (zs : List Int) (wr : World) : Prop := wr.ownsRow w.heap.size 3 1 v N (zs.map (Value.int .i64)) ∧ Below w.heap.size w wr
theorem OwnI.ri {w wr : World} {A : Option Addr} {n c : Nat} {zs : List Int} (h : OwnI w (.slice A n c) n zs wr) : RI wr no A n c zs := by
  obtain ⟨A', c', e, hr⟩ := RI.of_own h.1
  injection e with e1 _ e3
  subst e1 e3
  exact hr
theorem OwnI.len {w wr : World} {v : Value} {n : Nat} {zs : List Int} (h : OwnI w v n zs wr) : zs.length = n := by
  have := h.1.1; simpa using this
theorem OwnI.some_ {w wr : World} {A : Option Addr} {n c : Nat} {zs : List Int} (h : OwnI w (.slice A n c) n zs wr) (hn : 0 < n) : ∃ g, A = some ⟨g, 0, none⟩ ∧ w.heap.size ≤ g := by
  rcases h.1.2 with ⟨_, h2⟩ | ⟨g, cap, cur, h2, h3, _⟩
  · omega
  · injection h2 with h2 _ _; exact ⟨g, h2, h3⟩
theorem OwnI.set_ {w wr : World} {g n c : Nat} {zs : List Int} (h : OwnI w (.slice (some ⟨g, 0, none⟩) n c) n zs wr) (hg : w.heap.size ≤ g) (i : Nat) (z : Int) :
    OwnI w (.slice (some ⟨g, 0, none⟩) n c) n (zs.set i z) (wr.setCell ⟨g, i, none⟩ (.int .i64 z)) := by
  have hs := h.1.stored i (.int .i64 z)
  rw [← List.map_set] at hs
  exact ⟨hs.1, h.2.setCell hg _⟩
theorem OwnI.drewN {w wr : World} {v : Value} {n : Nat} {zs : List Int} (h : OwnI w v n zs wr) (q : Nat) : OwnI w v n zs (wr.drewN q) := ⟨h.1, below_drewN h.2 q⟩
theorem OwnI.cell {w wr : World} {g n c k : Nat} {zs : List Int} (h : OwnI w (.slice (some ⟨g, 0, none⟩) n c) n zs wr) (hk : k < n) : wr.cell? ⟨g, k, none⟩ = some (.int .i64 (zs.getD k 0)) := by
  have h1 := h.1.cellAt k (by omega)
  rw [h1, List.getElem?_map, List.getD_eq_getElem?_getD, List.getElem?_eq_getElem (by rw [h.len]; exact hk)]
  rfl

/-- Sorted so far. -/
def SrtR (w : World) (v : Value) (N n i : Nat) (wr : World) : Prop := ∃ zs : List Int, OwnI w v N zs wr ∧ (∀ z ∈ zs, 0 ≤ z ∧ z ≤ 8 * (n : Int)) ∧ Srt zs i

theorem same_up (A B : Option Addr) (n c m d : Nat) (xs ys : List UInt8) (w W : World) (ha : RB w no A n c xs) (hb : RB W no B m d ys) (hW : Below w.heap.size w W) :
    Calls Tryd.prog 8 #[.slice A n c, .slice B m d] W fun e w' => e = .returned (.bool (eqL xs ys)) ∧ Below w.heap.size w w' :=
  (same_any A B n c m d xs ys W no no (ha.below hW) hb).mono fun _ _ ⟨h, q, hq⟩ => ⟨h, hq ▸ below_drewN hW q⟩
/-- A copy, in whatever world has grown out of w. -/
theorem copied_len (A : Option Addr) (n c : Nat) (xs : List UInt8) (w W : World) (ha : RB w no A n c xs) (hn : n ≤ 140737488355328) (hb : Below w.heap.size w W) :
    Calls Tryd.prog 7 #[.slice A n c] W fun e w' => ∃ B d, e = .returned (.slice B n d) ∧ RB w' no B n d xs ∧ Below w.heap.size w w' :=
  (copied_own A n c xs W no (ha.below hb) hn).mono fun e w' ⟨v, he, hv, hb'⟩ => by
    obtain ⟨B, d, rfl, hr⟩ := RB.of_own hv
    exact ⟨B, d, he, hr, hb.trans (hb'.mono hb.size)⟩
theorem filled_len (A : Option Addr) (n c lo : Nat) (on : Bool) (bs : List UInt8) (w W : World) (ha : RB w no A n c bs) (hn : n ≤ 16) (hlo : lo ≤ 128) (hb : Below w.heap.size w W) :
    Calls Tryd.prog 13 #[.slice A n c, .int .i64 (lo : Int), .bool on] W fun e w' => ∃ B d, e = .returned (.slice B n d) ∧ RB w' no B n d (filledL bs lo on) ∧ Below w.heap.size w w' :=
  (filled_own A n c lo on bs W (ha.below hb) hn hlo).mono fun e w' ⟨v, he, hv⟩ => by
    obtain ⟨B, d, rfl, _, _⟩ := hv.form
    exact ⟨B, d, he, hv.rb, hb.trans (hv.2.mono hb.size)⟩
theorem maskEach_len (C M : Option Addr) (n d dm : Nat) (x ms : List UInt8) (w W : World) (hC : RB W no C n d x) (hM : RB w no M n dm ms) (hn : n = 4 ∨ n = 16) (hb : Below w.heap.size w W) :
    Calls Tryd.prog 6 #[.slice (some ⟨W.heap.size, 0, none⟩) 1 1, .slice M n dm] (W.alloc (.cells #[.slice C n d] 22)) fun e w' => ∃ B f, e = .returned (.slice B 1 f) ∧ RBB w' no B 1 f [masked x ms] ∧ Below w.heap.size w w' :=
  (maskEach_any _ M 1 1 n dm [x] ms _ no no (RBB.one 22 hC) ((hM.below hb).alloc _) hn (by intro b h; simp at h; subst h; exact hC.len) (by omega)).mono fun e w' ⟨B, f, he, hr, hb'⟩ => by
    exact ⟨B, f, he, hr.free, (hb.alloc hb.size _).trans (hb'.mono (by simp; have := hb.size; omega))⟩

set_option maxRecDepth 100000 in
set_option maxHeartbeats 6400000 in
theorem fnMasksSorted_walk (w : World) (a0 : Option Addr) (n0 c0 : Nat) (b0 : List UInt8) (w0 : RB w no a0 n0 c0 b0) (r0 : c0 ≤ 1048576)
    (a1 : Option Addr) (n1 c1 : Nat) (b1 : List UInt8) (w1 : RB w no a1 n1 c1 b1) (r1 : c1 ≤ 1048576) :
    Calls Tryd.prog 5 #[.slice a0 n0 c0, .slice a1 n1 c1] w fun e w' => e = .returned (.bool true) ∧ Below w.heap.size w w' := by
  obtain ⟨i0, hi0, hz0, hz1, hz2⟩ := info_parts bytes_info
  have k0 := w0.cap
  have k1 := w1.cap
  by_cases hn : n0 = 4 ∨ n0 = 16
  case neg =>
    have t0 : ((n0 : Int) != 4) = true := by simp; omega
    have t1 : ((n0 : Int) != 16) = true := by simp; omega
    clear w0 w1 hn
    go_enter Tryd.func5, Tryd.ntmps5
    go_wp2_with fail
    go_ret
    exact ⟨rfl, Below.refl _ _⟩
  have hn16 : n0 ≤ 16 := by omega
  have Hn := hide hn
  have W0 := hide w0
  have W1 := hide w1
  have Ho := hide (onesIn_any a1 n1 c1 n0 b1 w no w1 hn16 (by omega))
  clear w0 w1
  have hcase : ((n0 : Int) != 4) = false ∨ (((n0 : Int) != 4) = true ∧ ((n0 : Int) != 16) = false) := by
    rcases hn with rfl | rfl
    · left; rfl
    · right; exact ⟨rfl, rfl⟩
  clear hn
  go_enter Tryd.func5, Tryd.ntmps5
  go_upto_region 1 with (fail)
  go_cut [23] (fun s23 wx => s23 = .bool false ∧ w = wx)
  case first =>
    rcases hcase with t1 | ⟨t1, t2⟩
    · go_wp2_with fail
      go_meet
      case rel => exact ⟨rfl, rfl⟩
    · go_wp2_with fail
      go_meet
      case rel => exact ⟨rfl, rfl⟩
  case rest =>
    obtain ⟨rfl, rfl⟩ := hcut
    clear hcase
    go_wp2_with fail
    with_reducible refine Ho.out.mono ?_
    rintro e v1 ⟨vO, rfl, hO, hb1⟩
    rw [onesL_length, W1.out.len] at hO
    obtain ⟨AO, dO, rfl, _⟩ := RI.of_own hO
    have Hst : Hid (SrtR w (.slice AO n1 dO) n1 n0 0 v1) := hide ⟨_, ⟨hO, hb1⟩, fun z hz => onesL_mem hz, fun a b h1 h2 => by omega⟩
    clear hO hb1 Ho
    go_wp2_with fail
    go_loopw [30] (fun i wr => ∃ k : Nat, k ≤ n1 ∧ i = .int .i64 k ∧ SrtR w (.slice AO n1 dO) n1 n0 k wr) (fun i _ => n1 - (intOf i).toNat)
    case atStart => exact ⟨0, Nat.zero_le _, rfl, Hst.out⟩
    case round =>
      obtain ⟨i, hi, rfl, hr⟩ := hrel
      have Hr := hide hr
      by_cases hlt : i < n1
      · obtain ⟨wo, rfl⟩ : ∃ wo : World, wo = wr := ⟨_, rfl⟩
        obtain ⟨g, rfl, hg⟩ := (hr.choose_spec.1).some_ (show 0 < n1 by omega)
        have Hs0 : Hid (∃ zs : List Int, OwnI w (.slice (some ⟨g, 0, none⟩) n1 dO) n1 zs wo ∧ (∀ z ∈ zs, 0 ≤ z ∧ z ≤ 8 * (n0 : Int)) ∧ InvK zs i i) := hide (by
          obtain ⟨zs, h1, h2, h3⟩ := hr
          exact ⟨zs, h1, h2, InvK.start h3⟩)
        clear hr Hr
        go_wp2_with fail
        go_loopw [7] (fun s wx => ∃ (k : Nat) (zs : List Int), k ≤ i ∧ s = .int .i64 k ∧ OwnI w (.slice (some ⟨g, 0, none⟩) n1 dO) n1 zs wx ∧ (∀ z ∈ zs, 0 ≤ z ∧ z ≤ 8 * (n0 : Int)) ∧ InvK zs i k) (fun s _ => (intOf s).toNat)
        case atStart =>
          obtain ⟨zs, h1, h2, h3⟩ := Hs0.out
          exact ⟨i, zs, Nat.le_refl _, rfl, h1, h2, h3⟩
        case round =>
          obtain ⟨k, zs, hk, rfl, h1, h2, h3⟩ := hrel
          have H1 := hide h1
          have H2 := hide h2
          have H3 := hide h3
          have hl := h1.len
          by_cases hk0 : k = 0
          · subst hk0
            clear h1 h2 h3
            go_wp2_with fail
            go_quiet (fail)
            go_wp2_with fail
            go_roundw
            case rel => exact ⟨i + 1, by omega, by go_num, zs, H1.out.drewN _, H2.out, H3.out.zero⟩
            case measure => simp [intOf]; omega
          · have c1 := h1.cell (k := k) (by omega)
            have c2 := h1.cell (k := k - 1) (by omega)
            have f1 := h1.1.frozenAt k
            have f2 := h1.1.frozenAt (k - 1)
            have i1 : (0 : Int) ≤ k := by omega
            have i2 : (k : Int) < n1 := by omega
            have i3 : (0 : Int) ≤ (k : Int) - 1 := by omega
            have i4 : (k : Int) - 1 < n1 := by omega
            have i5 : ((k : Int) - 1).toNat = k - 1 := by omega
            have i6 : (0 : Int) < k := by omega
            have i7 : decide (0 < k) = true := decide_eq_true (by omega)
            by_cases hzz : zs.getD k 0 < zs.getD (k - 1) 0
            · have t1 : decide (zs.getD k 0 < zs.getD (k - 1) 0) = true := decide_eq_true hzz
              have Hsw := hide (h3.swap (by omega) hk (by omega) hzz)
              have Hm := hide (swapAt_mem (k := k) (by omega) h2)
              have Hsd : Hid (swapAt zs k = (zs.set k (zs.getD (k - 1) 0)).set (k - 1) (zs.getD k 0)) := hide rfl
              generalize swapAt zs k = zs' at *
              generalize hx1 : zs.getD k 0 = zk at *
              generalize hx2 : zs.getD (k - 1) 0 = zp at *
              clear h1 h2 h3 hzz
              go_wp2_with fail
              go_quiet (fail)
              have H1q := H1.out.drewN nq
              clear c1 c2 f1 f2
              generalize wr.drewN nq = wq at *
              have c1 := H1q.cell (k := k) (by omega)
              have c2 := H1q.cell (k := k - 1) (by omega)
              rw [hx1] at c1
              rw [hx2] at c2
              have f1 := H1q.1.frozenAt k
              have hs1 := H1q.set_ hg k zp
              have f2 := hs1.1.frozenAt (k - 1)
              have c3 := hs1.cell (k := k - 1) (by omega)
              have hs2 := hs1.set_ hg (k - 1) zk
              rw [← Hsd.out] at hs2
              have Hs2 := hide hs2
              clear H1q hs1 hs2 hx1 hx2 c3
              go_wp2_with fail
              go_roundw
              case rel => exact ⟨k - 1, zs', by omega, by rw [show ((k - 1 : Nat) : Int) = (k : Int) - 1 by omega], Hs2.out, Hm.out, Hsw.out⟩
              case measure => simp [intOf]; omega
            · have t1 : decide (zs.getD k 0 < zs.getD (k - 1) 0) = false := decide_eq_false hzz
              have Hend := hide (h3.stop (by omega) hk hzz)
              generalize zs.getD k 0 = zk at *
              generalize zs.getD (k - 1) 0 = zp at *
              clear h1 h2 h3 hzz f1 f2
              go_wp2_with fail
              go_quiet (fail)
              clear c1 c2
              go_wp2_with fail
              go_roundw
              case rel => exact ⟨i + 1, by omega, by go_num, zs, H1.out.drewN _, H2.out, Hend.out⟩
              case measure => simp [intOf]; omega
      · obtain rfl : i = n1 := by omega
        obtain ⟨zs, h1, h2, h3⟩ := hr
        obtain ⟨v2, rfl⟩ : ∃ v2 : World, v2 = wr := ⟨_, rfl⟩
        have Hmk := hide (masksOf_any AO i dO n0 (8 * (n0 : Int)) zs v2 no h1.ri Hn.out rfl h2 (by omega))
        have H1 := hide h1
        have H2 := hide h2
        have H3 := hide h3
        have Hl := hide h1.len
        clear h1 h2 h3 Hr
        go_wp2_with fail
        with_reducible refine Hmk.out.mono ?_
        rintro e v3 ⟨AM, dM, rfl, hM, hb3⟩
        rw [masksL_length, Hl.out] at hM ⊢
        have HM := hide hM.free
        have HbM := hide hb3
        have hbw3 : Below w.heap.size w v3 := H1.out.2.trans (hb3.mono H1.out.2.size)
        have Hbw3 := hide hbw3
        have hne : ((i : Int) != (i : Int)) = false := by simp
        clear hM hb3 hbw3 Hmk
        have Hml : Hid ((masksL n0 zs).length = i) := hide (by rw [masksL_length]; exact Hl.out)
        have Hmem : Hid (∀ m ∈ masksL n0 zs, m.length = n0) := hide (fun m hm => by unfold masksL at hm; obtain ⟨z, _, rfl⟩ := List.mem_map.1 hm; exact cidr_length _ _)
        have Hmat : Hid (∀ (j : Nat) (m : List UInt8), (masksL n0 zs)[j]? = some m → m = cidr n0 (zs.getD j 0).toNat) := hide (fun j m hm => by
          unfold masksL at hm
          rw [List.getElem?_map] at hm
          cases hz : zs[j]? with
          | none => rw [hz] at hm; cases hm
          | some z => rw [hz] at hm; injection hm with hm; rw [List.getD_eq_getElem?_getD, hz]; exact hm.symm)
        go_wp2_with fail
        go_loopw [10, 80] (fun v s wr => ∃ j : Nat, j ≤ i ∧ s = .int .i64 j ∧ Made no v3 ((masksL n0 zs).reverse.take j) v wr) (fun _ s _ => i - (intOf s).toNat)
        case atStart => exact ⟨0, Nat.zero_le _, rfl, Made.start_nil _ _⟩
        case round =>
          obtain ⟨j, hj, rfl, hr⟩ := hrel
          have Hr := hide hr
          by_cases hltj : j < i
          · obtain ⟨xs, g1, g2, g3⟩ := hr
            obtain ⟨gm, om, B, m, d, b, rfl, hbk, hc, hb⟩ := HM.out.at_ (k := i - 1 - j) (by omega)
            obtain ⟨gm', om', Bj, mj, dj, bj, e1, hbj, hcj, hbbj⟩ := HM.out.at_ (k := j) hltj
            injection e1 with e1; injection e1 with e11 e12; subst e11 e12
            obtain rfl : m = n0 := by rw [← hb.len]; exact Hmem.out b (List.mem_of_getElem? hbk)
            obtain rfl : mj = m := by rw [← hbbj.len]; exact Hmem.out bj (List.mem_of_getElem? hbj)
            have hsn : (masksL mj zs).reverse.take (j + 1) = (masksL mj zs).reverse.take j ++ [b] := take_snoc (by rw [List.getElem?_reverse (by rw [Hml.out]; exact hltj), Hml.out]; exact hbk)
            have Hsn := hide hsn
            have hlen : ((masksL mj zs).reverse.take j).length = j := by rw [List.length_take, List.length_reverse, Hml.out]; omega
            rw [hlen] at g1
            have Hlen := hide hlen
            have G1 := hide g1
            have G2 := hide g2
            have G3 := hide g3
            have hrb : RB wr (fun g => no g ∨ rowOf u10 g) B mj d b := (hb.sub (av' := fun g => no g ∨ rowOf u10 g) fun g hg h => by
              rcases h with h | h
              · exact h.elim
              · have := (g1.lt g h).1; omega).below g3
            have Hrb := hide hrb
            have hsz := g3.size
            have G1a := hide (g1.alloc (.cells #[.slice B mj d] 22))
            have hc' : wr.cell? ⟨gm, om + (i - 1 - j), none⟩ = some (.slice B mj d) := (World.cell?_of_block (g3.block gm (World.block_lt_of_cell? _ _ hc))).trans hc
            have j1 : (0 : Int) ≤ (i : Int) - 1 - j := by omega
            have j2 : (i : Int) - 1 - j < i := by omega
            have j3 : ((i : Int) - 1 - (j : Int)).toNat = i - 1 - j := by omega
            have j4 : (0 : Int) ≤ j := by omega
            have j5 : (j : Int) < i := by omega
            have Hcj := hide hcj
            have Hbbj := hide hbbj
            have Hbj := hide (Hmat.out j bj hbj)
            generalize (masksL mj zs).reverse.take j = tl at *
            clear g1 g2 g3 hrb hsn hlen hbk hb hbj hbbj hcj Hr hc
            go_wp2_with (at_builtin; refine wpList_append_rd _ rfl (.tmp 83) (.tmp 92) _ rfl v3.heap.size 22 i0 _ 24 Tryd.underlying23 hi0 hz0 hz1 hz2 rfl _ j _ rfl G1a.out no (some ⟨wr.heap.size, 0, none⟩) 1 1 [.slice B mj d] rfl ?_ ?_ ?_ ?_ ?_ ?_)
            · exact Rd.one wr _ _ no (fun h => h)
            · first | rfl | (intro u hu; simp at hu; subst hu; rfl)
            · unfold maxLen; omega
            · omega
            · first | omega | (simp; omega)
            intro v' w2 q1 q2 q3
            have hM2 := Made.step (by rw [Hlen.out]; exact G1.out) G2.out G3.out Hrb.out (by rw [Hlen.out]; exact q1) q2 q3
            rw [← Hsn.out] at hM2
            have hb2 : Below v3.heap.size v3 w2 := hM2.choose_spec.2.2
            have HM2 := hide hM2
            have Hb2 := hide hb2
            have hcj2 : w2.cell? ⟨gm, om + j, none⟩ = some (.slice Bj mj dj) := (World.cell?_of_block (hb2.block gm (World.block_lt_of_cell? _ _ Hcj.out))).trans Hcj.out
            have hne2 : ((mj : Int) != (mj : Int)) = false := by simp
            clear q1 q2 q3 hM2 hb2 G1 G2 G3 G1a Hrb hc'
            go_wp2_with fail
            go_loopw [104] (fun s wx => ∃ kk q : Nat, kk ≤ mj ∧ s = .int .i64 kk ∧ wx = w2.drewN q) (fun s _ => mj - (intOf s).toNat)
            case atStart => exact ⟨0, 0, Nat.zero_le _, rfl, rfl⟩
            case round =>
              obtain ⟨kk, q, hkk, rfl, rfl⟩ := hrel
              have Hw : Hid (∀ nq, ∃ q2, (w2.drewN q).drewN nq = w2.drewN q2) := hide fun nq => ⟨_, World.drewN_drewN w2 q nq⟩
              have hcj3 : (w2.drewN q).cell? ⟨gm, om + j, none⟩ = some (.slice Bj mj dj) := hcj2
              have hb3 : Below v3.heap.size v3 (w2.drewN q) := below_drewN Hb2.out q
              by_cases hltk : kk < mj
              · have l1 : (0 : Int) ≤ kk := by omega
                have l2 : (kk : Int) < mj := by omega
                by_cases hj0 : j = 0
                · have t1 : decide (0 < j) = false := decide_eq_false (by omega)
                  clear hcj2 hb3
                  generalize w2.drewN q = wq at *
                  go_wp2_with fail
                  go_quiet (fail)
                  go_wp2_with fail
                  go_roundw
                  case rel => obtain ⟨q2, hq2⟩ := Hw.out nq; exact ⟨kk + 1, q2, by omega, by go_num, hq2⟩
                  case measure => simp [intOf]; omega
                · have t1 : decide (0 < j) = true := decide_eq_true (by omega)
                  obtain ⟨gm', om', Bp, mp, dp, bp, e1, hbp, hcp, hbbp⟩ := HM.out.at_ (k := j - 1) (by omega)
                  injection e1 with e1; injection e1 with e11 e12; subst e11 e12
                  obtain rfl : mp = mj := by rw [← hbbp.len]; exact Hmem.out bp (List.mem_of_getElem? hbp)
                  have hcp3 : (w2.drewN q).cell? ⟨gm, om + (j - 1), none⟩ = some (.slice Bp mp dp) := (World.cell?_of_block (hb3.block gm (World.block_lt_of_cell? _ _ hcp))).trans hcp
                  obtain ⟨gp, op, xp, rfl, hxp, hcxp⟩ := (hbbp.below hb3).at_ hltk
                  obtain ⟨gj, oj, xj, rfl, hxj, hcxj⟩ := (Hbbj.out.below hb3).at_ hltk
                  have han : bits .andNot .u8 (xp.toNat : Int) (xj.toNat : Int) = 0 := by
                    rw [Hmat.out (j - 1) bp hbp, cidr_at hltk] at hxp
                    rw [Hbj.out, cidr_at hltk] at hxj
                    injection hxp with hxp
                    injection hxj with hxj
                    rw [← hxp, ← hxj]
                    apply andNot_byteMask
                    have := H3.out (j - 1) j (by omega) (by omega)
                    omega
                  have m1 : (0 : Int) ≤ (j : Int) - 1 := by omega
                  have m2 : (j : Int) - 1 < i := by omega
                  have m3 : ((j : Int) - 1).toNat = j - 1 := by omega
                  have x1 := lt_256 xp
                  have x2 := lt_256 xj
                  clear hcj2 hb3 hbp hcp hbbp hxp hxj
                  generalize w2.drewN q = wq at *
                  go_wp2_with fail
                  go_quiet (fail)
                  go_wp2_with fail
                  go_roundw
                  case rel => obtain ⟨q2, hq2⟩ := Hw.out nq; exact ⟨kk + 1, q2, by omega, by go_num, hq2⟩
                  case measure => simp [intOf]; omega
              · clear hcj2 hcj3 hb3
                go_wp2_with fail
                go_roundw
                case rel => exact ⟨j + 1, by omega, by go_num, HM2.out.below (below_drewN (Below.refl _ _) q)⟩
                case measure => simp [intOf]; omega
          · obtain rfl : j = i := by omega
            by_cases hj0 : j = 0
            · subst hj0
              clear hr
              have hb := Hr.out.choose_spec.2.2
              have Hb := hide (Hbw3.out.trans (hb.mono Hbw3.out.size))
              clear hb
              go_wp2_with fail
              go_ret
              exact ⟨rfl, Hb.out⟩
            obtain ⟨p, rfl⟩ : ∃ p, j = p + 1 := ⟨j - 1, by omega⟩
            have hjz : ((p : Int) + 1 == 0) = false := by rw [beq_eq_false_iff_ne]; omega
            obtain ⟨v4, rfl⟩ : ∃ v4 : World, v4 = wr := ⟨_, rfl⟩
            obtain ⟨AT, dT, eT, hT, hb4⟩ := hr.ret
            rw [List.take_of_length_le (by rw [List.length_reverse, Hml.out]; omega)] at eT hT
            rw [List.length_reverse, Hml.out] at eT hT
            injection eT with eT
            subst eT
            have hbw4 : Below w.heap.size w v4 := Hbw3.out.trans (hb4.mono Hbw3.out.size)
            have Hbw4 := hide hbw4
            have HT4 := hide hT
            have HM4 := hide (HM.out.below hb4)
            have HO4 := hide ((H1.out.ri.below HbM.out).below hb4)
            have HA4 := hide (W0.out.below hbw4)
            obtain ⟨z0, hz0'⟩ : ∃ z0, zs[0]? = some z0 := ⟨_, List.getElem?_eq_getElem (by rw [Hl.out]; omega)⟩
            have hhd := H3.out.head Hl.out hz0'
            have hz0b := H2.out z0 hhd.1
            obtain ⟨f0, rfl⟩ : ∃ f0 : Nat, z0 = (f0 : Int) := ⟨z0.toNat, by omega⟩
            have Hz0 := hide hz0'
            have HFa : Hid (leftTo b0 (masksL n0 zs) (p + 1) = filledL b0 f0 false) := hide (by
              unfold leftTo
              rw [List.take_of_length_le (by rw [Hml.out]; omega), left_least W0.out.len hhd.1 hhd.2, Int.toNat_natCast])
            have HFb : Hid (leftTo b0 (masksL n0 zs).reverse (p + 1) = filledL b0 f0 false) := hide (by
              unfold leftTo
              rw [List.take_of_length_le (by rw [List.length_reverse, Hml.out]; omega), masksL_reverse, left_least (z0 := (f0 : Int)) W0.out.len (by simpa using hhd.1) (fun z hz => hhd.2 z (by simpa using hz)), Int.toNat_natCast])
            have HFd : Hid (masked b0 (cidr n0 f0) = filledL b0 f0 false) := hide (by
              have h := left_least (n := n0) (zs := [(f0 : Int)]) (z0 := (f0 : Int)) W0.out.len (by simp) (by simp)
              rw [Int.toNat_natCast] at h
              exact h)
            have Hf0 : Hid (f0 ≤ 8 * n0) := hide (by omega)
            have Hmem2 : Hid (∀ m ∈ (masksL n0 zs).reverse, m.length = n0) := hide (fun m hm => Hmem.out m (by simpa using hm))
            have Hc1 := hide (copied_len a0 n0 c0 b0 v4 v4 HA4.out (by omega) (Below.refl _ _))
            clear hr Hr hT hb4 hbw4 hz0' hhd hz0b
            go_wp2_with fail
            -- a := MasksInARow(copied(address), masks)
            with_reducible refine Hc1.out.mono ?_
            rintro e v5 ⟨C5, d5, rfl, hC5, hb5⟩
            have Hb5 := hide hb5
            have Hi5 := hide (inARow_any C5 AM n0 d5 (p + 1) dM b0 _ v5 no no hC5 (HM4.out.below hb5) Hn.out Hmem.out (by omega))
            clear hC5 hb5 Hc1
            go_wp2_with fail
            with_reducible refine Hi5.out.mono ?_
            rintro e v6 ⟨A6, d6, rfl, hA6, hb6⟩
            rw [rowTo_length] at hA6 ⊢
            have hb46 : Below v4.heap.size v4 v6 := Hb5.out.trans (hb6.mono Hb5.out.size)
            have Hb46 := hide hb46
            have HA6 := hide hA6.free
            have Hc2 := hide (copied_len a0 n0 c0 b0 v6 v6 (HA4.out.below hb46) (by omega) (Below.refl _ _))
            clear hA6 hb6 hb46 Hi5 Hb5
            go_wp2_with fail
            with_reducible refine Hc2.out.mono ?_
            rintro e v7 ⟨C7, d7, rfl, hC7, hb7⟩
            have Hb7 := hide hb7
            have Hi7 := hide (inARow_any C7 AT n0 d7 (p + 1) dT b0 _ v7 no no hC7 ((HT4.out.below Hb46.out).below hb7) Hn.out Hmem2.out (by omega))
            clear hC7 hb7 Hc2
            go_wp2_with fail
            with_reducible refine Hi7.out.mono ?_
            rintro e v8 ⟨B8, d8, rfl, hB8, hb8⟩
            rw [rowTo_length] at hB8 ⊢
            have hb68 : Below v6.heap.size v6 v8 := Hb7.out.trans (hb8.mono Hb7.out.size)
            have hb48 : Below v4.heap.size v4 v8 := Hb46.out.trans (hb68.mono Hb46.out.size)
            have Hb48 := hide hb48
            have HB8 := hide hB8.free
            have HA8 := hide (HA6.out.below hb68)
            obtain ⟨gm, om, M0, m, dm0, bm0, rfl, hbm0, hcm0, hM0⟩ := (HM4.out.below hb48).at_ (k := 0) (by omega)
            rw [Nat.add_zero] at hcm0
            have hbe := Hmat.out 0 bm0 hbm0
            rw [List.getD_eq_getElem?_getD, Hz0.out] at hbe
            simp at hbe
            obtain rfl : m = n0 := by rw [← hM0.len]; exact Hmem.out bm0 (List.mem_of_getElem? hbm0)
            have Hc8 := hide (fun (W : World) (hW : Below v8.heap.size v8 W) => copied_len a0 m c0 b0 v8 W (HA4.out.below hb48) (by omega) hW)
            have He8 := hide (fun (W : World) (C : Option Addr) (d : Nat) (hC : RB W no C m d b0) (hW : Below v8.heap.size v8 W) => maskEach_len C M0 m d dm0 b0 bm0 v8 W hC hM0 Hn.out hW)
            rw [hbe, HFd.out] at He8
            have Hk8 := hide (fun (W : World) (hW : Below v8.heap.size v8 W) => show Below v8.heap.size v8 W ∧ W.cell? ⟨gm, om, none⟩ = some (.slice M0 m dm0) from ⟨hW, (World.cell?_of_block (hW.block gm (World.block_lt_of_cell? _ _ hcm0))).trans hcm0⟩)
            have Hal8 := hide (fun (W : World) (o : Obj) (hW : Below v8.heap.size v8 W) => hW.alloc hW.size o)
            have hd8 : Below v8.heap.size v8 v8.drew := (Below.refl _ _).drew
            have jp0 : (0 : Int) < (p : Int) + 1 := by omega
            clear hB8 hb8 hb68 hb48 hbm0 hcm0 hM0 hbe Hi7 Hb7
            go_wp2_with fail
            go_region_held3 (fun W => Below v8.heap.size v8 W ∧ W.cell? ⟨gm, om, none⟩ = some (.slice M0 m dm0)) (first | exact Hk8.out _ (by assumption) | exact Hk8.out _ (Hal8.out _ _ (by assumption)))
              (first
                | (go_at_call 7; refine (Hc8.out _ ?_).mono ?_; (assumption); rintro e v9 ⟨C9, d9, rfl, hC9, hb9⟩)
                | (go_at_call 6; refine (He8.out _ _ _ ?_ ?_).mono ?_; (assumption); (assumption); rintro e v10 ⟨D, dD, rfl, hD, hb10⟩))
            clear hd8 Hc8 He8 Hk8 Hal8
            obtain ⟨ga, oa, A9, ma, da9, ba, rfl, hba, hca, hra⟩ := (HA8.out.below hb10).at_ (k := p) (by omega)
            obtain ⟨gb, ob, B9, mb, db9, bb, rfl, hbb, hcb, hrb⟩ := (HB8.out.below hb10).at_ (k := p) (by omega)
            obtain ⟨gd, od, D9, md, dd9, bd, rfl, hbd, hcd, hrd⟩ := hD.at_ (k := 0) (by omega)
            rw [Nat.add_zero] at hcd
            rw [rowTo_at (by omega)] at hba hbb
            injection hba with hba
            injection hbb with hbb
            rw [HFa.out] at hba
            rw [HFb.out] at hbb
            subst hba hbb
            simp at hbd
            subst hbd
            have hlF : (filledL b0 f0 false).length = m := by rw [filledL_length]; exact W0.out.len
            obtain rfl : ma = m := by rw [← hra.len]; exact hlF
            obtain rfl : mb = ma := by rw [← hrb.len]; exact hlF
            obtain rfl : md = mb := by rw [← hrd.len]; exact hlF
            have hb810 : Below v4.heap.size v4 v10 := Hb48.out.trans (hb10.mono Hb48.out.size)
            have hbw10 : Below w.heap.size w v10 := Hbw4.out.trans (hb810.mono Hbw4.out.size)
            have Hbw10 := hide hbw10
            obtain ⟨go, oo, zo, rfl, hzo, hczo⟩ := (HO4.out.below hb810).at_ (k := 0) (by omega)
            rw [Nat.add_zero] at hczo
            rw [Hz0.out] at hzo
            injection hzo with hzo
            subst hzo
            have hA10 := HA4.out.below hb810
            have heq : eqL (filledL b0 f0 false) (filledL b0 f0 false) = true := eqL_iff.2 rfl
            have Hs1 := hide (fun (W : World) (hW : Below v10.heap.size v10 W) => same_len A9 D9 md da9 md dd9 _ _ v10 W hra hrd hW)
            have Hs2 := hide (fun (W : World) (hW : Below v10.heap.size v10 W) => same_len B9 D9 md db9 md dd9 _ _ v10 W hrb hrd hW)
            have Hf3 := hide (fun (W : World) (hW : Below v10.heap.size v10 W) => filled_len a0 md c0 f0 false b0 v10 W hA10 hn16 (by have := Hf0.out; omega) hW)
            have Hs3 := hide (fun (W : World) (E : Option Addr) (dE : Nat) (hE : RB W no E md dE (filledL b0 f0 false)) (hW : Below v10.heap.size v10 W) => same_up D9 E md dd9 md dE _ _ v10 W hrd hE hW)
            rw [heq] at Hs1 Hs2 Hs3
            have Hk10 := hide (fun (W : World) (hW : Below v10.heap.size v10 W) => show Below v10.heap.size v10 W ∧ W.cell? ⟨ga, oa + p, none⟩ = some (.slice A9 md da9) ∧ W.cell? ⟨gb, ob + p, none⟩ = some (.slice B9 md db9) ∧ W.cell? ⟨gd, od, none⟩ = some (.slice D9 md dd9) ∧ W.cell? ⟨go, oo, none⟩ = some (.int .i64 (f0 : Int)) from
              ⟨hW, (World.cell?_of_block (hW.block ga (World.block_lt_of_cell? _ _ hca))).trans hca, (World.cell?_of_block (hW.block gb (World.block_lt_of_cell? _ _ hcb))).trans hcb, (World.cell?_of_block (hW.block gd (World.block_lt_of_cell? _ _ hcd))).trans hcd, (World.cell?_of_block (hW.block go (World.block_lt_of_cell? _ _ hczo))).trans hczo⟩)
            have hd10 : Below v10.heap.size v10 v10.drew := (Below.refl _ _).drew
            have jj : ((p : Int) + 1 == (p : Int) + 1) = true := by simp
            have jp1 : (0 : Int) ≤ (p : Int) := by omega
            have jp2 : (p : Int) < (p : Int) + 1 := by omega
            have jp4 : IntKind.i64.wrap (p : Int) = (p : Int) := IntWalk.i64_in _ (by omega)
            generalize filledL b0 f0 false = F at *
            clear hca hcb hcd hczo hra hrb hrd hA10 heq hlF hb810 hbw10 hD hb10 hb9 hC9
            go_wp2_with fail
            go_region_held3 (fun W => Below v10.heap.size v10 W ∧ W.cell? ⟨ga, oa + p, none⟩ = some (.slice A9 md da9) ∧ W.cell? ⟨gb, ob + p, none⟩ = some (.slice B9 md db9) ∧ W.cell? ⟨gd, od, none⟩ = some (.slice D9 md dd9) ∧ W.cell? ⟨go, oo, none⟩ = some (.int .i64 (f0 : Int))) (exact Hk10.out _ (by assumption))
              (first
                | (go_at_call 13; refine (Hf3.out _ ?_).mono ?_; (assumption); rintro e v11 ⟨E, dE, rfl, hE, hb11⟩)
                | (go_at_call 8; with_reducible refine (Hs1.out _ ?_).mono ?_; (assumption); rintro e v12 ⟨rfl, hb12⟩)
                | (go_at_call 8; with_reducible refine (Hs2.out _ ?_).mono ?_; (assumption); rintro e v13 ⟨rfl, hb13⟩)
                | (go_at_call 8; with_reducible refine (Hs3.out _ _ _ ?_ ?_).mono ?_; (assumption); (assumption); rintro e v14 ⟨rfl, hb14⟩))
            go_wp2_with fail
            go_ret
            exact ⟨rfl, Hbw10.out.trans (hb14.mono Hbw10.out.size)⟩
end Go.Proofs.YtknajppjgdhbfaaDoor
