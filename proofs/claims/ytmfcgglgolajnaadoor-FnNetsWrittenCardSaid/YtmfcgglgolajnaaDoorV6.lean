/-
  The contract of netip.parseIPv6 at texts without a zone. (Written by wip/v6.py.)
-/
import Derived.Test.YtmfcgglgolajnaaDoorMC
import Derived.Test.YtmfcgglgolajnaaDoorME
import Derived.Lib.Bytealg
import Derived.Deep.CutBlock
import Derived.Deep.CutRange
import Derived.Deep.DeepCutAuto
namespace Go.Proofs.YtmfcgglgolajnaaDoor
open Go.RowKit
set_option linter.unusedVariables false

theorem indexByte_none (l : List UInt8) (c : UInt8) (h : c ∉ l) : Lib.indexByte l c = -1 := by
  induction l with
  | nil => rfl
  | cons b l ih =>
    unfold Lib.indexByte
    rw [if_neg (by simp; intro e; exact h (by rw [e]; simp)), ih (fun hm => h (by simp [hm]))]
    rfl
def addr6 (g6 o6 : Nat) : List UInt8 → Value
  | [x0, x1, x2, x3, x4, x5, x6, x7, y0, y1, y2, y3, y4, y5, y6, y7] => addrV (num8 x0 x1 x2 x3 x4 x5 x6 x7) (num8 y0 y1 y2 y3 y4 y5 y6 y7) (some ⟨g6, o6, none⟩)
  | _ => .nilIface
/-- The place of the gap, as the code keeps it. -/
def ellV : Option Nat → Value
  | none => .int .i64 (-1)
  | some e => .int .i64 (e : Int)
theorem v6_ell {r : List UInt8} (h : r ≠ []) : v6 (58 :: 58 :: r) = v6go 8 r (some 0) [] := by simp [v6, h]
theorem v6_plain {s : List UInt8} (h : ¬ ∃ r, s = 58 :: 58 :: r) : v6 s = v6go 8 s none [] := by
  unfold v6
  split
  · rename_i r; exact absurd ⟨r, rfl⟩ h
  · rfl
theorem get_at {s : List UInt8} {i : Nat} {x : UInt8} (hlt : i < s.length) (hx : s[i]? = some x) : (ByteArray.mk s.toArray)[i]'(by simpa [ByteArray.size] using hlt) = x := by
  rw [List.getElem?_eq_getElem hlt] at hx
  exact Option.some.inj hx
theorem zero_u8 (w : World) : (zeroValue 5).run Tryd.prog w = .ok (.int .u8 0) w := by kernel_rfl

set_option maxRecDepth 1000000 in
set_option maxHeartbeats 8000000 in
theorem parse6_any (s : List UInt8) (w : World) (g4 o4 g6 o6 : Nat) (hz : ZX w g4 o4 g6 o6) (hs : s.length ≤ 140737488351232) (h37 : (37 : UInt8) ∉ s) :
    Calls Tryd.prog 69 #[.string ⟨s.toArray⟩] w (RetAE w ((v6 s).map (addr6 g6 o6))) := by
  have Hz := hide hz
  have Hi : Hid (Lib.indexByte (ByteArray.mk s.toArray).data.toList (Int.toNat 37).toUInt8 = -1) := hide (indexByte_none s 37 h37)
  have Hw : Hid (∃ W1, W1 = (w.alloc (.cells #[.int .u64 0, .int .u64 0, .pointer none] 89)).alloc (.cells #[.int .u8 0, .int .u8 0, .int .u8 0, .int .u8 0, .int .u8 0, .int .u8 0, .int .u8 0, .int .u8 0, .int .u8 0, .int .u8 0, .int .u8 0, .int .u8 0, .int .u8 0, .int .u8 0, .int .u8 0, .int .u8 0] 71)) := hide ⟨_, rfl⟩
  clear hz h37
  go_enter Tryd.func69, Tryd.ntmps69
  go_wp2_with fail
  rw [run_callFunc_extern Tryd.func84 (by kernel_rfl) (by kernel_rfl) (by kernel_rfl) (e := Extern.BytealgIndexByte.indexByte) (by kernel_rfl), Lib.run_indexByteString, Hi.out]
  simp only [Result.andThen]
  rw [Oper.upon_value]
  go_upto_region 10 with fail
  obtain ⟨W1, hW⟩ := Hw.out
  rw [← hW]
  have Hbw : Hid (Below w.heap.size w W1) := hide (by rw [hW]; exact ((Below.refl _ _).alloc (Nat.le_refl _) _).alloc (by simp) _)
  have hsz : W1.heap.size = w.heap.size + 2 := by rw [hW]; simp
  have hbk : Blk W1 (w.heap.size + 1) 71 zs16 := by
    rw [hW]
    have := Blk.new (w.alloc (.cells #[.int .u64 0, .int .u64 0, .pointer none] 89)) 71 zs16
    rw [show (w.alloc (.cells #[.int .u64 0, .int .u64 0, .pointer none] 89)).heap.size = w.heap.size + 1 by simp] at this
    exact this
  have hbr : Blk W1 w.heap.size 89 [.int .u64 0, .int .u64 0, .pointer none] := by
    rw [hW]
    exact (Blk.new w 89 [.int .u64 0, .int .u64 0, .pointer none]).alloc _
  have Hbk := hide hbk
  have Hbr := hide hbr
  have Hsz := hide hsz
  clear hW hbk hbr hsz Hw Hi
  go_cut [46] from 34 to 46 (fun s46 wx => ∃ b : Bool, s46 = .bool b ∧ wx = W1 ∧ (b = true ↔ ∃ r, s = 58 :: 58 :: r))
  case first => as_aux_lemma =>
    by_cases h2 : 2 ≤ s.length
    · obtain ⟨x, y, r, rfl⟩ : ∃ x y r, s = x :: y :: r := by
        match s, h2 with
        | x :: y :: r, _ => exact ⟨x, y, r, rfl⟩
      have q1 : (2 : Int) ≤ ((x :: y :: r).length : Int) := by omega
      have q2 : (0 : Int) < ((x :: y :: r).length : Int) := by omega
      have q3 : (1 : Int) < ((x :: y :: r).length : Int) := by omega
      have e0 : (ByteArray.mk (x :: y :: r).toArray)[0]'(by simp [ByteArray.size]) = x := rfl
      have e1 : (ByteArray.mk (x :: y :: r).toArray)[1]'(by simp [ByteArray.size]) = y := rfl
      have hx256 := lt_256 x
      have hy256 := lt_256 y
      have neq : ∀ c n : UInt8, c ≠ n → ((c.toNat : Int) == (n.toNat : Int)) = false := fun c n h => by
        rw [beq_eq_false_iff_ne]; intro e; exact h (UInt8.toNat_inj.1 (by omega))
      by_cases hx : x = 58
      · subst hx
        by_cases hy : y = 58
        · subst hy
          clear neq
          go_wp2_with fail
          go_meet
          case rel => exact ⟨true, rfl, rfl, by simp⟩
        · have hy' : ((y.toNat : Int) == 58) = false := neq y 58 hy
          clear neq
          go_wp2_with fail
          go_meet
          case rel => exact ⟨false, rfl, rfl, by simp [hy]⟩
      · have hx' : ((x.toNat : Int) == 58) = false := neq x 58 hx
        clear neq
        go_wp2_with fail
        go_meet
        case rel => exact ⟨false, rfl, rfl, by simp [hx]⟩
    · have q1 : ¬ ((2 : Int) ≤ (s.length : Int)) := by omega
      have hne : ¬ ∃ r, s = 58 :: 58 :: r := by rintro ⟨r, rfl⟩; simp at h2
      go_wp2_with fail
      go_meet
      case rel => exact ⟨false, rfl, rfl, by simp [hne]⟩
  case rest => as_aux_lemma =>
    obtain ⟨b, rfl, rfl, hb⟩ := hcut
    have Hb := hide hb
    clear hb
    go_upto_if 46 with fail
    go_cut [4, 8] from 47 to 54 (fun s4 s8 wx => ∃ (sr : List UInt8) (ell : Option Nat), s4 = .string ⟨sr.toArray⟩ ∧ s8 = ellV ell ∧ wx = wc ∧ v6 s = v6go 8 sr ell [] ∧ (∃ p, s = p ++ sr) ∧ (∀ e, ell = some e → e = 0))
    case first => as_aux_lemma =>
      cases b with
      | false => as_aux_lemma =>
        have Hn : Hid (¬ ∃ r, s = 58 :: 58 :: r) := hide (fun h => by have := Hb.out.2 h; cases this)
        go_wp2_with fail
        go_meet
        case rel => exact ⟨s, none, rfl, rfl, rfl, v6_plain Hn.out, ⟨[], rfl⟩, fun e h => by cases h⟩
      | true => as_aux_lemma =>
        obtain ⟨r, hr⟩ := Hb.out.1 rfl
        have Hr := hide hr
        have hl : s.length = r.length + 2 := by rw [hr]; simp
        have q1 : (2 : Int) ≤ (s.length : Int) := by omega
        have hx2 : (ByteArray.mk s.toArray).extract 2 s.length = ⟨r.toArray⟩ := by rw [ba_extract, hr]; simp
        have Hl := hide hl
        clear hr hl Hb
        by_cases h0 : r = []
        · subst h0
          have Hu := hide (fun W hW => unspec_any W g4 o4 g6 o6 (Hz.out.below hW))
          have Hwz := hide (fun W hW => withZone_any 0 0 W g4 o4 g6 o6 (Hz.out.below hW))
          have Hbw' := hide Hbw.out
          go_wp2_with fail
          with_reducible refine (Hu.out _ Hbw.out).mono ?_
          rintro e W2 ⟨rfl, hb2⟩
          have hbw2 := Hbw.out.trans (hb2.mono Hbw.out.size)
          have Hwz2 := hide (Hwz.out W2 hbw2)
          have hbr2 := Hbr.out.below hb2
          have Hbr2 := hide hbr2
          have Hbw2 := hide hbw2
          clear hb2 hbw2 hbr2 Hu Hwz
          unfold addrV at *
          rw [show ((0 : Nat) : Int) = (0 : Int) from rfl] at Hwz2
          go_wp2_with fail
          with_reducible refine Hwz2.out.mono ?_
          rintro e W3 ⟨rfl, hb3⟩
          have hbr3 := Hbr2.out.below hb3
          have e0 : W3.cell? ⟨w.heap.size, 0, none⟩ = some (.int .u64 0) := hbr3.cell 0
          have e1 : W3.cell? ⟨w.heap.size, 1, none⟩ = some (.int .u64 0) := hbr3.cell 1
          have e2 : W3.cell? ⟨w.heap.size, 2, none⟩ = some (.pointer none) := hbr3.cell 2
          have fz : ∀ i, W3.frozen? ⟨w.heap.size, i, none⟩ = false := fun i => hbr3.frozen i
          have Hbw3 := hide (Hbw2.out.trans (hb3.mono Hbw2.out.size))
          clear hb3 hbr3 Hwz2
          go_wp2_with fail
          refine bodyPost_ret (v := .tuple #[addrV 0 0 (some ⟨g6, o6, none⟩), .nilIface]) (by simp [results, Tryd.results69, addrV, go_sem, *]) rfl ?_
          refine ⟨Or.inl ⟨addrV 0 0 (some ⟨g6, o6, none⟩), by rw [Hr.out]; rfl, rfl⟩, ?_⟩
          iterate 3 refine Below.setCell ?_ (by simp) _
          exact Hbw3.out
        · have h0' : ((r.length : Int) == 0) = false := by
            rw [beq_eq_false_iff_ne]; intro e; exact h0 (List.eq_nil_of_length_eq_zero (by omega))
          have Hv : Hid (v6 s = v6go 8 r (some 0) []) := hide (by rw [Hr.out]; exact v6_ell h0)
          clear h0
          go_wp2_with fail
          go_meet
          case rel => exact ⟨r, some 0, rfl, rfl, rfl, Hv.out, ⟨[58, 58], Hr.out⟩, fun e h => by injection h with h; exact h.symm⟩
    case rest => as_aux_lemma =>
      obtain ⟨sr0, ell0, rfl, rfl, rfl, hv, ⟨p0, hp0⟩, hell⟩ := hcut
      obtain ⟨v1, rfl⟩ : ∃ v1 : World, v1 = wc := ⟨_, rfl⟩
      have Hv := hide hv
      have Hp0 := hide hp0
      have Hell := hide hell
      clear hv hp0 hell Hb
      go_upto_block 0 with fail
      go_cut [4, 6, 8] from 9 to 232 (fun s4 s6 s8 wx => ∃ (sr : List UInt8) (ell : Option Nat) (done : List UInt8), s4 = .string ⟨sr.toArray⟩ ∧ s6 = .int .i64 (done.length : Int) ∧ s8 = ellV ell ∧ v6 s = fin6 sr ell done ∧ done.length ≤ 16 ∧ (∀ e, ell = some e → e ≤ done.length) ∧ FW v1 (w.heap.size + 1) 71 zs16 0 done wx ∧ sr.length ≤ s.length)
      case first => as_aux_lemma =>
        go_wp2_with fail
        go_loopw [4, 6, 8] (fun s4 s6 s8 wr => ∃ (n : Nat) (sr : List UInt8) (ell : Option Nat) (done : List UInt8), n ≤ 8 ∧ done.length = 16 - 2 * n ∧ s4 = .string ⟨sr.toArray⟩ ∧ s6 = .int .i64 (done.length : Int) ∧ s8 = ellV ell ∧ v6go n sr ell done = v6 s ∧ (∃ p, s = p ++ sr) ∧ (∀ e, ell = some e → e ≤ done.length) ∧ FW v1 (w.heap.size + 1) 71 zs16 0 done wr) (fun _ s6 _ _ => 16 - (intOf s6).toNat)
        case atStart => exact ⟨8, sr0, ell0, [], Nat.le_refl _, rfl, rfl, rfl, rfl, Hv.out.symm, ⟨p0, Hp0.out⟩, (fun e h => by have := Hell.out e h; omega), FW.start 0 Hbk.out⟩
        case round => as_aux_lemma =>
          obtain ⟨n, sr, ell, done, hn, hdl, rfl, rfl, rfl, hgo, ⟨p, hp⟩, hel, hfw⟩ := hrel
          have Hgo := hide hgo
          have Hp := hide hp
          have Hel := hide hel
          have Hfw := hide hfw
          have hsl : sr.length ≤ s.length := by rw [hp]; simp
          have hbrr : Blk wr w.heap.size 89 [.int .u64 0, .int .u64 0, .pointer none] := Hbr.out.keep hfw.2.1 (by unfold just; omega)
          have Hbrr := hide hbrr
          have Hbel : Hid (Below w.heap.size w wr) := hide (Hbw.out.trans (hfw.below (by omega) (by have := Hsz.out; omega)))
          have Hdl := hide hdl
          generalize hi : done.length = i at *
          have Hi := hide hi
          clear hgo hp hel hfw hbrr hi
          cases n with
          | zero => as_aux_lemma =>
            obtain rfl : i = 16 := by omega
            clear hdl
            go_wp2_with fail
            go_meet
            case rel => exact ⟨sr, ell, done, rfl, by rw [Hi.out]; rfl, rfl, Hgo.out.symm, by rw [Hi.out]; omega, (fun e h => by rw [Hi.out]; exact Hel.out e h), Hfw.out, hsl⟩
          | succ n => as_aux_lemma =>
            have i1 : (0 : Int) ≤ i := by omega
            have i2 : (i : Int) < 16 := by omega
            have i3 : (i : Int) + 1 < 16 := by omega
            clear hdl
            go_upto_block 2 with fail
            go_cut [9, 10] from 57 to 117 (fun s9 s10 wx => ∃ (m a : Nat) (r : List UInt8), s9 = .int .i64 (m : Int) ∧ s10 = .int .u32 (a : Int) ∧ wx = wr ∧ grp sr 0 0 = some (m, a, r))
            case first => as_aux_lemma =>
              go_wp2_with fail
              go_loop [9, 10] (fun s9 s10 => ∃ m a : Nat, m ≤ sr.length ∧ m ≤ 4 ∧ a < 16 ^ m ∧ s9 = .int .i64 (m : Int) ∧ s10 = .int .u32 (a : Int) ∧ grp (sr.drop m) m a = grp sr 0 0) (fun s9 _ => sr.length - (intOf s9).toNat)
              case atStart => exact ⟨0, 0, Nat.zero_le _, by omega, by simp, rfl, rfl, rfl⟩
              case round => as_aux_lemma =>
                obtain ⟨m, a, hml, hm4, ha, rfl, rfl, hg⟩ := hrel
                have Hg := hide hg
                have Ha := hide ha
                have ha16 : a < 65536 := Nat.lt_of_lt_of_le ha (by calc 16 ^ m ≤ 16 ^ 4 := Nat.pow_le_pow_right (by omega) hm4
                                                                     _ = 65536 := by decide)
                have a1 : (a : Int) < 65536 := by omega
                have a0 : (0 : Int) ≤ a := by omega
                clear hg ha
                by_cases hlt : m < sr.length
                · obtain ⟨x, hx⟩ : ∃ x, sr[m]? = some x := ⟨_, List.getElem?_eq_getElem hlt⟩
                  have k1 : (0 : Int) ≤ m := by omega
                  have k2 : (m : Int) < sr.length := by omega
                  have hgx := get_at hlt hx
                  have hdr : sr.drop m = x :: sr.drop (m + 1) := by
                    rw [List.getElem?_eq_getElem hlt] at hx
                    injection hx with hx
                    rw [← hx]
                    exact (List.getElem_cons_drop hlt).symm
                  have hg := Hg.out
                  rw [hdr, grp_cons] at hg
                  have hx256 := lt_256 x
                  clear hdr hx
                  cases hd : hexD x with
                  | none => as_aux_lemma =>
                    simp only [hd] at hg
                    have Hg2 := hide hg.symm
                    have hr : ¬ ((48 : Int) ≤ (x.toNat : Int)) ∨ ((48 : Int) ≤ (x.toNat : Int) ∧ ¬ ((x.toNat : Int) ≤ 57) ∧ ¬ ((65 : Int) ≤ (x.toNat : Int)) ∧ ¬ ((97 : Int) ≤ (x.toNat : Int))) ∨ ((48 : Int) ≤ (x.toNat : Int) ∧ ¬ ((x.toNat : Int) ≤ 57) ∧ (65 : Int) ≤ (x.toNat : Int) ∧ ¬ ((x.toNat : Int) ≤ 70) ∧ ¬ ((97 : Int) ≤ (x.toNat : Int))) ∨ ((48 : Int) ≤ (x.toNat : Int) ∧ ¬ ((x.toNat : Int) ≤ 57) ∧ (65 : Int) ≤ (x.toNat : Int) ∧ ¬ ((x.toNat : Int) ≤ 70) ∧ (97 : Int) ≤ (x.toNat : Int) ∧ ¬ ((x.toNat : Int) ≤ 102)) := by
                      unfold hexD at hd
                      split at hd
                      · cases hd
                      · split at hd
                        · cases hd
                        · split at hd
                          · cases hd
                          · omega
                    clear hd hg
                    rcases hr with q1 | ⟨q1, q2, q3, q4⟩ | ⟨q1, q2, q3, q4, q5⟩ | ⟨q1, q2, q3, q4, q5, q6⟩
                    · have q3 : ¬ ((65 : Int) ≤ (x.toNat : Int)) := by omega
                      have q4 : ¬ ((97 : Int) ≤ (x.toNat : Int)) := by omega
                      go_wp2_with fail
                      go_meet
                      case rel => exact ⟨m, a, _, rfl, rfl, rfl, Hg2.out⟩
                    · go_wp2_with fail
                      go_meet
                      case rel => exact ⟨m, a, _, rfl, rfl, rfl, Hg2.out⟩
                    · go_wp2_with fail
                      go_meet
                      case rel => exact ⟨m, a, _, rfl, rfl, rfl, Hg2.out⟩
                    · go_wp2_with fail
                      go_meet
                      case rel => exact ⟨m, a, _, rfl, rfl, rfl, Hg2.out⟩
                  | some d => as_aux_lemma =>
                    simp only [hd] at hg
                    have hd16 := hexD_lt hd
                    have hk : ((48 : Int) ≤ (x.toNat : Int) ∧ (x.toNat : Int) ≤ 57 ∧ (x.toNat : Int) - 48 = d) ∨ ((48 : Int) ≤ (x.toNat : Int) ∧ ¬ ((x.toNat : Int) ≤ 57) ∧ (97 : Int) ≤ (x.toNat : Int) ∧ (x.toNat : Int) ≤ 102 ∧ (x.toNat : Int) - 97 + 10 = d) ∨ ((48 : Int) ≤ (x.toNat : Int) ∧ ¬ ((x.toNat : Int) ≤ 57) ∧ ¬ ((97 : Int) ≤ (x.toNat : Int)) ∧ (65 : Int) ≤ (x.toNat : Int) ∧ (x.toNat : Int) ≤ 70 ∧ (x.toNat : Int) - 65 + 10 = d) := by
                      unfold hexD at hd
                      split at hd
                      · injection hd with hd; omega
                      · split at hd
                        · injection hd with hd; omega
                        · split at hd
                          · injection hd with hd; omega
                          · cases hd
                    by_cases hm3 : 3 < m
                    · have j3 : (3 : Int) < m := by omega
                      rw [show (if 3 < m then none else grp (sr.drop (m + 1)) (m + 1) (a * 16 + d)) = (none : Option (Nat × Nat × List UInt8)) from if_pos hm3] at hg
                      have Hend : Hid (v6 s = none) := hide (by rw [← Hgo.out]; unfold v6go; rw [← hg])
                      have e0 : wr.cell? ⟨w.heap.size, 0, none⟩ = some (.int .u64 0) := Hbrr.out.cell 0
                      have e1 : wr.cell? ⟨w.heap.size, 1, none⟩ = some (.int .u64 0) := Hbrr.out.cell 1
                      have e2 : wr.cell? ⟨w.heap.size, 2, none⟩ = some (.pointer none) := Hbrr.out.cell 2
                      have fz : ∀ i, wr.frozen? ⟨w.heap.size, i, none⟩ = false := fun i => Hbrr.out.frozen i
                      clear hd hg hm3
                      rcases hk with ⟨q1, q2, q3⟩ | ⟨q1, q2, q3, q4, q5⟩ | ⟨q1, q2, q3, q4, q5, q6⟩
                      · go_wp2_with fail
                        refine bodyPost_ret (v := .tuple #[addrV 0 0 none, .iface _ _]) (by simp [results, Tryd.results69, addrV, go_sem, *]; exact ⟨rfl, rfl⟩) rfl ?_
                        refine ⟨Or.inr ⟨by rw [Hend.out]; rfl, _, _, rfl⟩, ?_⟩
                        iterate 3 refine Below.setCell ?_ (by simp) _
                        exact Hbel.out
                      · go_wp2_with fail
                        refine bodyPost_ret (v := .tuple #[addrV 0 0 none, .iface _ _]) (by simp [results, Tryd.results69, addrV, go_sem, *]; exact ⟨rfl, rfl⟩) rfl ?_
                        refine ⟨Or.inr ⟨by rw [Hend.out]; rfl, _, _, rfl⟩, ?_⟩
                        iterate 3 refine Below.setCell ?_ (by simp) _
                        exact Hbel.out
                      · go_wp2_with fail
                        refine bodyPost_ret (v := .tuple #[addrV 0 0 none, .iface _ _]) (by simp [results, Tryd.results69, addrV, go_sem, *]; exact ⟨rfl, rfl⟩) rfl ?_
                        refine ⟨Or.inr ⟨by rw [Hend.out]; rfl, _, _, rfl⟩, ?_⟩
                        iterate 3 refine Below.setCell ?_ (by simp) _
                        exact Hbel.out
                    · have j3 : ¬ ((3 : Int) < m) := by omega
                      rw [show (if 3 < m then none else grp (sr.drop (m + 1)) (m + 1) (a * 16 + d)) = grp (sr.drop (m + 1)) (m + 1) (a * 16 + d) from if_neg hm3] at hg
                      have Hg2 := hide hg
                      have hnew : a * 16 + d < 16 ^ (m + 1) := by have := Ha.out; rw [Nat.pow_succ]; omega
                      have hnew2 : a * 16 + d < 65536 := Nat.lt_of_lt_of_le hnew (by calc 16 ^ (m + 1) ≤ 16 ^ 4 := Nat.pow_le_pow_right (by omega) (by omega)
                                                                                          _ = 65536 := by decide)
                      have a2 : (a : Int) * 16 + (d : Int) < 4294967296 := by omega
                      have a3 : ¬ ((65535 : Int) < (a : Int) * 16 + (d : Int)) := by omega
                      have Hnew := hide hnew
                      clear hd hg hnew hnew2
                      rcases hk with ⟨q1, q2, q3⟩ | ⟨q1, q2, q3, q4, q5⟩ | ⟨q1, q2, q3, q4, q5, q6⟩
                      · go_wp2_with fail
                        go_round
                        case rel => exact ⟨m + 1, a * 16 + d, by omega, by omega, Hnew.out, by go_num, by go_num, Hg2.out⟩
                        case measure => simp [intOf]; omega
                      · go_wp2_with fail
                        go_round
                        case rel => exact ⟨m + 1, a * 16 + d, by omega, by omega, Hnew.out, by go_num, by go_num, Hg2.out⟩
                        case measure => simp [intOf]; omega
                      · go_wp2_with fail
                        go_round
                        case rel => exact ⟨m + 1, a * 16 + d, by omega, by omega, Hnew.out, by go_num, by go_num, Hg2.out⟩
                        case measure => simp [intOf]; omega
                · obtain rfl : m = sr.length := by omega
                  have hg := Hg.out
                  rw [List.drop_length] at hg
                  have Hg2 := hide hg.symm
                  clear hg
                  go_wp2_with fail
                  go_meet
                  case rel => exact ⟨sr.length, a, [], rfl, rfl, rfl, Hg2.out⟩
            case rest => as_aux_lemma =>
              obtain ⟨m, a, r, rfl, rfl, rfl, hg⟩ := hcut
              obtain ⟨v2, rfl⟩ : ∃ v2 : World, v2 = wc := ⟨_, rfl⟩
              obtain ⟨hm4, ha, _, hh, hsr, hhl⟩ := grp_bound sr 0 0 m a r hg (by omega) (by simp)
              have ha16 : a < 65536 := Nat.lt_of_lt_of_le ha (by calc 16 ^ m ≤ 16 ^ 4 := Nat.pow_le_pow_right (by omega) hm4
                                                                 _ = 65536 := by decide)
              have hgo := Hgo.out
              rw [v6go_eq hg] at hgo
              have hml : m ≤ sr.length := by rw [hsr, List.length_append]; omega
              have hext : (ByteArray.mk sr.toArray).extract m sr.length = ⟨r.toArray⟩ := by
                rw [ba_extract, List.take_length, hsr, List.drop_append, List.drop_eq_nil_of_le (by omega), show m - hh.length = 0 by omega]; rfl
              have hdm : sr.drop m = r := by
                rw [hsr, List.drop_append, List.drop_eq_nil_of_le (by omega), show m - hh.length = 0 by omega]; rfl
              have Hgo2 := hide hgo
              have Hdm := hide hdm
              have a1 : (a : Int) < 65536 := by omega
              have a0 : (0 : Int) ≤ a := by omega
              have k1 : (0 : Int) ≤ m := by omega
              have k2 : (m : Int) ≤ sr.length := by omega
              clear hgo hg hsr hhl hdm ha
              have e0 : v2.cell? ⟨w.heap.size, 0, none⟩ = some (.int .u64 0) := Hbrr.out.cell 0
              have e1 : v2.cell? ⟨w.heap.size, 1, none⟩ = some (.int .u64 0) := Hbrr.out.cell 1
              have e2 : v2.cell? ⟨w.heap.size, 2, none⟩ = some (.pointer none) := Hbrr.out.cell 2
              have fz : ∀ i, v2.frozen? ⟨w.heap.size, i, none⟩ = false := fun i => Hbrr.out.frozen i
              by_cases hm0 : m = 0
              · have hm0' : ((m : Int) == 0) = true := by rw [beq_iff_eq]; omega
                have Hend : Hid (v6 s = none) := hide (by have h := Hgo2.out; rw [if_pos hm0] at h; exact h.symm)
                clear hm0
                go_wp2_with fail
                refine bodyPost_ret (v := .tuple #[addrV 0 0 none, .iface _ _]) (by simp [results, Tryd.results69, addrV, go_sem, *]; exact ⟨rfl, rfl⟩) rfl ?_
                refine ⟨Or.inr ⟨by rw [Hend.out]; rfl, _, _, rfl⟩, ?_⟩
                iterate 3 refine Below.setCell ?_ (by simp) _
                exact Hbel.out
              · have hm0' : ((m : Int) == 0) = false := by rw [beq_eq_false_iff_ne]; omega
                have hgo := Hgo2.out
                rw [if_neg hm0] at hgo
                have Hgo3 := hide hgo
                obtain ⟨y1, y2, hy1, hy2, htw⟩ : ∃ y1 y2 : UInt8, (a : Int) / 256 = (y1.toNat : Int) ∧ (a : Int) % 256 = (y2.toNat : Int) ∧ two6 a = [y1, y2] := ⟨UInt8.ofNat (a / 256), UInt8.ofNat (a % 256), by rw [UInt8.toNat_ofNat']; omega, by rw [UInt8.toNat_ofNat']; omega, rfl⟩
                have Htw := hide htw
                have hb1 := lt_256 y1
                have hb2 := lt_256 y2
                obtain ⟨cv0, hcv0⟩ : ∃ cv, v2.cell? ⟨w.heap.size + 1, i, none⟩ = some cv := ⟨_, by rw [Hfw.out.1.cell]; exact List.getElem?_eq_getElem (by have := Hi.out; rw [put4_length (by unfold zs16; simp; omega)]; unfold zs16; simp; omega)⟩
                obtain ⟨cv1, hcv1⟩ : ∃ cv, v2.cell? ⟨w.heap.size + 1, i + 1, none⟩ = some cv := ⟨_, by rw [Hfw.out.1.cell]; exact List.getElem?_eq_getElem (by have := Hi.out; rw [put4_length (by unfold zs16; simp; omega)]; unfold zs16; simp; omega)⟩
                have hf7 : ∀ q, v2.frozen? ⟨w.heap.size + 1, q, none⟩ = false := fun q => Hfw.out.1.frozen q
                have Hst : Hid (FW v1 (w.heap.size + 1) 71 zs16 0 (done ++ two6 a) ((v2.setCell ⟨w.heap.size + 1, i, none⟩ (.int .u8 (y1.toNat : Int))).setCell ⟨w.heap.size + 1, i + 1, none⟩ (.int .u8 (y2.toNat : Int)))) := hide (by
                  have h1 := Hfw.out.step y1 (by have := Hi.out; unfold zs16; simp; omega)
                  have e1 : 0 + done.length = i := by rw [Hi.out]; omega
                  have e2 : 0 + (done ++ [y1]).length = i + 1 := by rw [List.length_append, Hi.out]; simp
                  rw [e1] at h1
                  have h2 := h1.step y2 (by have := Hi.out; unfold zs16; simp; omega)
                  rw [e2, List.append_assoc] at h2
                  rw [htw]
                  exact h2)
                have Hl2 : Hid ((done ++ two6 a).length = i + 2) := hide (by rw [htw, List.length_append, Hi.out]; rfl)
                clear hgo htw hm0
                cases r with
                | nil => as_aux_lemma =>
                  have l1 : ¬ ((m : Int) < (sr.length : Int)) := by
                    have := congrArg List.length Hdm.out
                    rw [List.length_drop] at this
                    simp at this; omega
                  have hgo := Hgo3.out
                  rw [if_neg (by simp)] at hgo
                  have Hfin : Hid (v6 s = fin6 [] ell (done ++ two6 a)) := hide hgo.symm
                  clear hgo
                  go_wp2_with fail
                  go_meet
                  case rel => exact ⟨[], ell, done ++ two6 a, rfl, by rw [Hl2.out]; go_num, rfl, Hfin.out, by rw [Hl2.out]; omega, (fun e h => by rw [Hl2.out]; have := Hel.out e h; omega), Hst.out, by simp⟩
                | cons c r1 => as_aux_lemma =>
                  obtain ⟨r, hr⟩ : ∃ r, r = c :: r1 := ⟨_, rfl⟩
                  rw [← hr] at hext
                  have hlt : m < sr.length := by
                    have := congrArg List.length Hdm.out
                    rw [List.length_drop] at this
                    simp at this; omega
                  have l1 : (m : Int) < (sr.length : Int) := by omega
                  have hcm : sr[m]? = some c := by
                    have := congrArg (fun l => l[0]?) Hdm.out
                    simp only [List.getElem?_drop, Nat.add_zero] at this
                    exact this
                  have hgc := get_at hlt hcm
                  have hc256 := lt_256 c
                  have neq : ∀ c n : UInt8, c ≠ n → ((c.toNat : Int) == (n.toNat : Int)) = false := fun c n h => by
                    rw [beq_eq_false_iff_ne]; intro e; exact h (UInt8.toNat_inj.1 (by omega))
                  have hrl : r.length = r1.length + 1 := by rw [hr]; rfl
                  have Hrl := hide hrl
                  have Hr := hide hr
                  clear hcm hrl hr
                  by_cases hc46 : c = 46
                  · subst hc46
                    have hgo := Hgo3.out
                    rw [if_pos (show (List.head? (46 :: r1) = some (46 : UInt8)) from rfl), Hi.out] at hgo
                    have Hgo4 := hide hgo
                    obtain ⟨off, hoff, hoff2⟩ : ∃ off : Nat, (s.length : Int) - (sr.length : Int) = (off : Int) ∧ off = s.length - sr.length := ⟨s.length - sr.length, by omega, rfl⟩
                    have hdrop : (s.take s.length).drop off = sr := by
                      rw [List.take_length, hoff2]
                      have h := Hp.out
                      rw [h, List.length_append, Nat.add_sub_cancel, List.drop_left]
                    have Hv4f := hide (fun (h12 : i ≤ 12) => v4fields_any s off s.length (w.heap.size + 1) i (16 - i) 71 (put4 zs16 0 done) v2 Hfw.out.1 (by have := Hi.out; rw [put4_length (by unfold zs16; simp; omega)]; unfold zs16; simp; omega) (by omega) (by omega) (Nat.le_refl _) hs sr hdrop)
                    clear hgo neq hdrop hoff2 hcv0 hcv1 hf7
                    cases ell with
                    | none => as_aux_lemma =>
                      unfold ellV
                      by_cases h12 : i = 12
                      · subst h12
                        have hgo := Hgo4.out
                        rw [if_neg (by simp), if_neg (by omega)] at hgo
                        have Hgo5 := hide hgo
                        have Hv4 := hide (Hv4f.out (by omega))
                        clear hgo Hv4f
                        go_wp2_with fail
                        with_reducible refine Hv4.out.mono ?_
                        rintro e W2 h2
                        rcases h2 with ⟨fs, hfs, hfl, rfl, hf⟩ | ⟨hno, ⟨T, v, rfl⟩, dn, hdn, hf⟩
                        · have Hjn : Hid (FW v1 (w.heap.size + 1) 71 zs16 0 (done ++ fs) W2) := hide (Hfw.out.join (by rw [Hi.out]; exact hf) (by rw [Hi.out]; omega))
                          have Hl4 : Hid ((done ++ fs).length = 12 + 4) := hide (by rw [List.length_append, Hi.out, hfl])
                          have Hfin : Hid (v6 s = fin6 [] (none) (done ++ fs)) := hide (by have h := Hgo5.out; rw [hfs] at h; exact h.symm)
                          clear hfs hfl hf Hv4
                          go_wp2_with fail
                          go_meet
                          case rel => exact ⟨[], none, done ++ fs, rfl, by rw [Hl4.out]; go_num, rfl, Hfin.out, by rw [Hl4.out]; omega, (fun e h => by rw [Hl4.out]; have := Hel.out e h; omega), Hjn.out, by simp⟩
                        · have Hend : Hid (v6 s = none) := hide (by have h := Hgo5.out; rw [hno] at h; exact h.symm)
                          have hbr2 : Blk W2 w.heap.size 89 [.int .u64 0, .int .u64 0, .pointer none] := Hbrr.out.keep hf.2.1 (by unfold just; omega)
                          have e0 : W2.cell? ⟨w.heap.size, 0, none⟩ = some (.int .u64 0) := hbr2.cell 0
                          have e1 : W2.cell? ⟨w.heap.size, 1, none⟩ = some (.int .u64 0) := hbr2.cell 1
                          have e2 : W2.cell? ⟨w.heap.size, 2, none⟩ = some (.pointer none) := hbr2.cell 2
                          have fz : ∀ i, W2.frozen? ⟨w.heap.size, i, none⟩ = false := fun i => hbr2.frozen i
                          have Hbel2 : Hid (Below w.heap.size w W2) := hide (Hbel.out.trans (hf.below (by omega) Hbel.out.size))
                          clear hno hf hbr2 Hv4
                          go_wp2_with fail
                          refine bodyPost_ret (v := .tuple #[addrV 0 0 none, .iface T v]) (by simp [results, Tryd.results69, addrV, go_sem, *]) rfl ?_
                          refine ⟨Or.inr ⟨by rw [Hend.out]; rfl, _, _, rfl⟩, ?_⟩
                          iterate 3 refine Below.setCell ?_ (by simp) _
                          exact Hbel2.out
                      · have h12' : ((i : Int) == 12) = false := by rw [beq_eq_false_iff_ne]; omega
                        have Hend : Hid (v6 s = none) := hide (by have h := Hgo4.out; rw [if_pos ⟨rfl, h12⟩] at h; exact h.symm)
                        clear h12 Hv4f
                        go_wp2_with fail
                        refine bodyPost_ret (v := .tuple #[addrV 0 0 none, .iface _ _]) (by simp [results, Tryd.results69, addrV, go_sem, *]; exact ⟨rfl, rfl⟩) rfl ?_
                        refine ⟨Or.inr ⟨by rw [Hend.out]; rfl, _, _, rfl⟩, ?_⟩
                        iterate 3 refine Below.setCell ?_ (by simp) _
                        exact Hbel.out
                    | some e => as_aux_lemma =>
                      unfold ellV
                      have ee : ¬ ((e : Int) < 0) := by omega
                      by_cases h12 : 12 < i
                      · have h12' : (16 : Int) < (i : Int) + 4 := by omega
                        have Hend : Hid (v6 s = none) := hide (by have h := Hgo4.out; rw [if_neg (by simp), if_pos h12] at h; exact h.symm)
                        clear h12 Hv4f
                        go_wp2_with fail
                        refine bodyPost_ret (v := .tuple #[addrV 0 0 none, .iface _ _]) (by simp [results, Tryd.results69, addrV, go_sem, *]; exact ⟨rfl, rfl⟩) rfl ?_
                        refine ⟨Or.inr ⟨by rw [Hend.out]; rfl, _, _, rfl⟩, ?_⟩
                        iterate 3 refine Below.setCell ?_ (by simp) _
                        exact Hbel.out
                      · have h12' : ¬ ((16 : Int) < (i : Int) + 4) := by omega
                        have h12'' : (i : Int) + 4 ≤ 16 := by omega
                        have h12a : (i : Int) ≤ (i : Int) + 4 := by omega
                        have h12b : (i : Int) ≤ 16 := by omega
                        have h12c : i ≤ 16 := by omega
                        have h12d : i + 4 ≤ 16 := by omega
                        have hgo := Hgo4.out
                        rw [if_neg (by simp), if_neg h12] at hgo
                        have Hgo5 := hide hgo
                        have Hv4 := hide (Hv4f.out (by omega))
                        clear hgo Hv4f
                        go_wp2_with fail
                        with_reducible refine Hv4.out.mono ?_
                        rintro e W2 h2
                        rcases h2 with ⟨fs, hfs, hfl, rfl, hf⟩ | ⟨hno, ⟨T, v, rfl⟩, dn, hdn, hf⟩
                        · have Hjn : Hid (FW v1 (w.heap.size + 1) 71 zs16 0 (done ++ fs) W2) := hide (Hfw.out.join (by rw [Hi.out]; exact hf) (by rw [Hi.out]; omega))
                          have Hl4 : Hid ((done ++ fs).length = i + 4) := hide (by rw [List.length_append, Hi.out, hfl])
                          have Hfin : Hid (v6 s = fin6 [] (some e) (done ++ fs)) := hide (by have h := Hgo5.out; rw [hfs] at h; exact h.symm)
                          clear hfs hfl hf Hv4
                          go_wp2_with fail
                          go_meet
                          case rel => exact ⟨[], some e, done ++ fs, rfl, by rw [Hl4.out]; go_num, rfl, Hfin.out, by rw [Hl4.out]; omega, (fun e h => by rw [Hl4.out]; have := Hel.out e h; omega), Hjn.out, by simp⟩
                        · have Hend : Hid (v6 s = none) := hide (by have h := Hgo5.out; rw [hno] at h; exact h.symm)
                          have hbr2 : Blk W2 w.heap.size 89 [.int .u64 0, .int .u64 0, .pointer none] := Hbrr.out.keep hf.2.1 (by unfold just; omega)
                          have e0 : W2.cell? ⟨w.heap.size, 0, none⟩ = some (.int .u64 0) := hbr2.cell 0
                          have e1 : W2.cell? ⟨w.heap.size, 1, none⟩ = some (.int .u64 0) := hbr2.cell 1
                          have e2 : W2.cell? ⟨w.heap.size, 2, none⟩ = some (.pointer none) := hbr2.cell 2
                          have fz : ∀ i, W2.frozen? ⟨w.heap.size, i, none⟩ = false := fun i => hbr2.frozen i
                          have Hbel2 : Hid (Below w.heap.size w W2) := hide (Hbel.out.trans (hf.below (by omega) Hbel.out.size))
                          clear hno hf hbr2 Hv4
                          go_wp2_with fail
                          refine bodyPost_ret (v := .tuple #[addrV 0 0 none, .iface T v]) (by simp [results, Tryd.results69, addrV, go_sem, *]) rfl ?_
                          refine ⟨Or.inr ⟨by rw [Hend.out]; rfl, _, _, rfl⟩, ?_⟩
                          iterate 3 refine Below.setCell ?_ (by simp) _
                          exact Hbel2.out
                  · have hc46' : ((c.toNat : Int) == 46) = false := neq c 46 hc46
                    have r0 : ((r.length : Int) == 0) = false := by rw [beq_eq_false_iff_ne]; have := Hrl.out; omega
                    have r1' : (0 : Int) < (r.length : Int) := by have := Hrl.out; omega
                    have r1'' : (1 : Int) ≤ (r.length : Int) := by omega
                    have hg0 := get_at (s := r) (i := 0) (x := c) (by have := Hrl.out; omega) (by rw [Hr.out]; rfl)
                    have hx1 : (ByteArray.mk r.toArray).extract 1 r.length = ⟨r1.toArray⟩ := by rw [ba_extract, List.take_length, Hr.out]; rfl
                    have hgo := Hgo3.out
                    rw [if_neg (by simp [hc46])] at hgo
                    have Hgo4 := hide hgo
                    clear hgo
                    by_cases hc58 : c = 58
                    · subst hc58
                      clear hc46
                      cases r1 with
                      | nil => as_aux_lemma =>
                        have r2 : ((r.length : Int) == 1) = true := by rw [beq_iff_eq]; have := Hrl.out; simp at this; omega
                        have Hend : Hid (v6 s = none) := hide (by have h := Hgo4.out; simp [v6next] at h; exact h.symm)
                        clear neq
                        go_wp2_with fail
                        refine bodyPost_ret (v := .tuple #[addrV 0 0 none, .iface _ _]) (by simp [results, Tryd.results69, addrV, go_sem, *]; exact ⟨rfl, rfl⟩) rfl ?_
                        refine ⟨Or.inr ⟨by rw [Hend.out]; rfl, _, _, rfl⟩, ?_⟩
                        iterate 5 refine Below.setCell ?_ (by simp) _
                        exact Hbel.out
                      | cons d r2 => as_aux_lemma =>
                        obtain ⟨q, hq⟩ : ∃ q, q = d :: r2 := ⟨_, rfl⟩
                        rw [← hq] at hx1
                        have hql : q.length = r2.length + 1 := by rw [hq]; rfl
                        have Hq := hide hq
                        have Hql := hide hql
                        have r2' : ((r.length : Int) == 1) = false := by rw [beq_eq_false_iff_ne]; have := Hrl.out; simp at this; omega
                        have q1' : (0 : Int) < (q.length : Int) := by omega
                        have q1'' : (1 : Int) ≤ (q.length : Int) := by omega
                        have hgq := get_at (s := q) (i := 0) (x := d) (by rw [Hql.out]; exact Nat.succ_pos _) (by rw [Hq.out]; rfl)
                        have hx2 : (ByteArray.mk q.toArray).extract 1 q.length = ⟨r2.toArray⟩ := by rw [ba_extract, List.take_length, hq]; rfl
                        have hd256 := lt_256 d
                        have Hsuf : Hid (∃ p, s = p ++ q) := hide (by
                          refine ⟨p ++ sr.take m ++ [58], ?_⟩
                          have h1 : sr = sr.take m ++ sr.drop m := (List.take_append_drop m sr).symm
                          rw [Hdm.out] at h1
                          have h2 := Hp.out
                          rw [h1] at h2
                          rw [h2, hq]
                          simp)
                        clear hq hql
                        by_cases hd58 : d = 58
                        · subst hd58
                          cases ell with
                          | some e => as_aux_lemma =>
                            have ee : (0 : Int) ≤ (e : Int) := by omega
                            have Hend : Hid (v6 s = none) := hide (by have h := Hgo4.out; simp [v6next] at h; exact h.symm)
                            unfold ellV
                            clear neq
                            go_wp2_with fail
                            refine bodyPost_ret (v := .tuple #[addrV 0 0 none, .iface _ _]) (by simp [results, Tryd.results69, addrV, go_sem, *]; exact ⟨rfl, rfl⟩) rfl ?_
                            refine ⟨Or.inr ⟨by rw [Hend.out]; rfl, _, _, rfl⟩, ?_⟩
                            iterate 5 refine Below.setCell ?_ (by simp) _
                            exact Hbel.out
                          | none => as_aux_lemma =>
                            have hgo := Hgo4.out
                            rw [v6next_gap'] at hgo
                            unfold ellV
                            by_cases h20 : r2 = []
                            · subst h20
                              rw [if_pos rfl, Hl2.out] at hgo
                              have Hfin := hide hgo.symm
                              clear hgo neq
                              go_wp2_with fail
                              go_meet
                              case rel => exact ⟨[], some (i + 2), done ++ two6 a, rfl, by rw [Hl2.out]; go_num, by unfold ellV; go_num, Hfin.out, by rw [Hl2.out]; omega, (fun e h => by injection h with h; rw [Hl2.out]; omega), Hst.out, by simp⟩
                            · have h20' : ((r2.length : Int) == 0) = false := by rw [beq_eq_false_iff_ne]; intro e; exact h20 (List.eq_nil_of_length_eq_zero (by omega))
                              rw [if_neg h20, Hl2.out] at hgo
                              have Hnx := hide hgo
                              have Hsuf2 : Hid (∃ p, s = p ++ r2) := hide (by obtain ⟨p, hp⟩ := Hsuf.out; exact ⟨p ++ [58], by rw [hp, Hq.out]; simp⟩)
                              clear hgo neq h20
                              go_wp2_with fail
                              go_roundw
                              case rel => exact ⟨n, r2, some (i + 2), done ++ two6 a, by omega, by rw [Hl2.out]; have := Hdl.out; omega, rfl, by rw [Hl2.out]; go_num, by unfold ellV; go_num, Hnx.out, Hsuf2.out, (fun e h => by injection h with h; rw [Hl2.out]; omega), Hst.out⟩
                              case measure => simp [intOf]; omega
                        · have hd58' : ((d.toNat : Int) == 58) = false := neq d 58 hd58
                          have hgo := Hgo4.out
                          rw [v6next_go' _ hd58, ← Hq.out] at hgo
                          have Hnx := hide hgo
                          clear hgo neq hd58
                          go_wp2_with fail
                          go_roundw
                          case rel => exact ⟨n, q, ell, done ++ two6 a, by omega, by rw [Hl2.out]; have := Hdl.out; omega, rfl, by rw [Hl2.out]; go_num, rfl, Hnx.out, Hsuf.out, (fun e h => by rw [Hl2.out]; have := Hel.out e h; omega), Hst.out⟩
                          case measure => simp [intOf]; omega
                    · have hc58' : ((c.toNat : Int) == 58) = false := neq c 58 hc58
                      have Hend : Hid (v6 s = none) := hide (by have h := Hgo4.out; simp [v6next, hc58] at h; exact h.symm)
                      clear neq hc46 hc58
                      go_wp2_with fail
                      refine bodyPost_ret (v := .tuple #[addrV 0 0 none, .iface _ _]) (by simp [results, Tryd.results69, addrV, go_sem, *]; exact ⟨rfl, rfl⟩) rfl ?_
                      refine ⟨Or.inr ⟨by rw [Hend.out]; rfl, _, _, rfl⟩, ?_⟩
                      iterate 5 refine Below.setCell ?_ (by simp) _
                      exact Hbel.out
      case rest => as_aux_lemma =>
        obtain ⟨sr, ell, done, rfl, rfl, rfl, hfin, hdl, hel, hfw, hsl⟩ := hcut
        obtain ⟨v3, rfl⟩ : ∃ v3 : World, v3 = wc := ⟨_, rfl⟩
        have Hfin := hide hfin
        have Hel := hide hel
        have Hfw := hide hfw
        have hbrr : Blk v3 w.heap.size 89 [.int .u64 0, .int .u64 0, .pointer none] := Hbr.out.keep hfw.2.1 (by unfold just; omega)
        have Hbrr := hide hbrr
        have Hbel : Hid (Below w.heap.size w v3) := hide (Hbw.out.trans (hfw.below (by omega) (by have := Hsz.out; omega)))
        have Hip := hide (IP6.of_fw hfw hdl)
        clear hfin hel hfw hbrr
        by_cases hs0 : sr = []
        · subst hs0
          have hfin := Hfin.out
          unfold fin6 at hfin
          rw [if_neg (by simp)] at hfin
          by_cases h16 : done.length < 16
          · rw [if_pos h16] at hfin
            cases ell with
            | none => as_aux_lemma =>
              have Hend : Hid (v6 s = none) := hide hfin
              generalize hi : done.length = i at *
              have h16' : (i : Int) < 16 := by omega
              unfold ellV
              clear hfin hi
              have e0 : v3.cell? ⟨w.heap.size, 0, none⟩ = some (.int .u64 0) := Hbrr.out.cell 0
              have e1 : v3.cell? ⟨w.heap.size, 1, none⟩ = some (.int .u64 0) := Hbrr.out.cell 1
              have e2 : v3.cell? ⟨w.heap.size, 2, none⟩ = some (.pointer none) := Hbrr.out.cell 2
              have fz : ∀ i, v3.frozen? ⟨w.heap.size, i, none⟩ = false := fun i => Hbrr.out.frozen i
              go_wp2_with fail
              refine bodyPost_ret (v := .tuple #[addrV 0 0 none, .iface _ _]) (by simp [results, Tryd.results69, addrV, go_sem, *]; exact ⟨rfl, rfl⟩) rfl ?_
              refine ⟨Or.inr ⟨by rw [Hend.out]; rfl, _, _, rfl⟩, ?_⟩
              iterate 3 refine Below.setCell ?_ (by simp) _
              exact Hbel.out
            | some e => as_aux_lemma =>
              have he : e ≤ done.length := Hel.out e rfl
              obtain ⟨n, hn⟩ : ∃ n, done.length + n = 16 := ⟨16 - done.length, by omega⟩
              have Hv : Hid (v6 s = some (done.take e ++ List.replicate n 0 ++ done.drop e)) := hide (by rw [hfin, show 16 - done.length = n by omega])
              have Hn := hide hn
              have He := hide he
              have Hst := hide Hip.out
              rw [← shif_start hn] at Hst
              generalize hi : done.length = i at *
              have Hi := hide hi
              have h16' : (i : Int) < 16 := by omega
              have ee : ¬ ((e : Int) < 0) := by omega
              have hsub : (16 : Int) - (i : Int) = (n : Int) := by omega
              unfold ellV
              clear hfin hi hn he
              go_upto_block 0 with fail
              go_wp2_with fail
              go_loopw [15] (fun j wr => ∃ k : Nat, e ≤ k ∧ k ≤ i ∧ j = .int .i64 ((k : Int) - 1) ∧ IP6 v1 (w.heap.size + 1) 71 (shif done n k) wr) (fun j _ => (intOf j + 1).toNat)
              case atStart => exact ⟨i, He.out, Nat.le_refl _, by go_num, Hst.out⟩
              case round => as_aux_lemma =>
                obtain ⟨k, hek, hki, rfl, hip⟩ := hrel
                have Hip2 := hide hip
                clear hip
                by_cases hlt : e < k
                · obtain ⟨k, rfl⟩ : ∃ k', k = k' + 1 := ⟨k - 1, by omega⟩
                  rw [show (((k + 1 : Nat) : Int) - 1) = (k : Int) by omega]
                  obtain ⟨x, hx⟩ : ∃ x, done[k]? = some x := ⟨_, List.getElem?_eq_getElem (by rw [Hi.out]; omega)⟩
                  have hl16 := shif_length (n := n) (k := k + 1) (by rw [Hi.out]; exact Hn.out) (by rw [Hi.out]; omega)
                  have hnp : 0 < n := by have := Hn.out; omega
                  have hkn : k + n < 16 := by have := Hn.out; omega
                  have hc0 : wr.cell? ⟨w.heap.size + 1, k, none⟩ = some (.int .u8 (x.toNat : Int)) := by
                    rw [Hip2.out.1.cell]
                    unfold byV
                    rw [List.getElem?_map, shif_get (by rw [Hi.out]; exact Hn.out) hnp (by rw [Hi.out]; omega), hx]
                    rfl
                  obtain ⟨cv, hc1⟩ : ∃ cv, wr.cell? ⟨w.heap.size + 1, k + n, none⟩ = some cv := ⟨_, by rw [Hip2.out.1.cell]; exact List.getElem?_eq_getElem (by unfold byV; rw [List.length_map, hl16]; exact hkn)⟩
                  have hfz : ∀ q, wr.frozen? ⟨w.heap.size + 1, q, none⟩ = false := fun q => Hip2.out.1.frozen q
                  have Hnx := hide (Hip2.out.set (k + n) x)
                  rw [shif_step (by rw [Hi.out]; exact Hn.out) (by rw [Hi.out]; omega) hx] at Hnx
                  have k0 : (0 : Int) ≤ (k : Int) := by omega
                  have k1 : (k : Int) < 16 := by omega
                  have k2 : (k : Int) + (n : Int) < 16 := by omega
                  have k3 : (0 : Int) ≤ (k : Int) + (n : Int) := by omega
                  have k4 : (e : Int) ≤ (k : Int) := by omega
                  clear hx hl16
                  go_wp2_with fail
                  go_roundw
                  case rel => exact ⟨k, by omega, by omega, by go_num, Hnx.out⟩
                  case measure => simp [intOf] <;> omega
                · obtain rfl : k = e := by omega
                  have k4 : ¬ ((k : Int) ≤ (k : Int) - 1) := by omega
                  have hnp : 0 < n := by have := Hn.out; omega
                  have hen : k + n ≤ 16 := by have := Hn.out; omega
                  have k5 : (k : Int) + (n : Int) ≤ 16 := by omega
                  have k6 : (k : Int) ≤ (k : Int) + (n : Int) := by omega
                  have k7 : (0 : Int) ≤ (k : Int) := by omega
                  have hl16 := shif_length (n := n) (k := k) (by rw [Hi.out]; exact Hn.out) (by rw [Hi.out]; omega)
                  obtain ⟨W4, hW4⟩ : ∃ W4, W4 = wr.setCells (w.heap.size + 1) k (List.replicate n (.int .u8 0)) := ⟨_, rfl⟩
                  have hcl : ∀ ty c, (Builtin.clear_ #[22] ty #[.slice (some ⟨w.heap.size + 1, k, none⟩) n c]).run Tryd.prog wr = .ok (.tuple #[]) W4 := fun ty c => by
                    rw [hW4]
                    exact Lib.run_clear_slice wr _ _ ty _ Tryd.underlying22 zero_u8 rfl rfl (w.heap.size + 1) k n c hnp (fun j hj => by rw [Hip2.out.1.cell, List.getElem?_eq_getElem (by unfold byV; rw [List.length_map, hl16]; omega)]; rfl) (fun j hj => Hip2.out.1.frozen _)
                  obtain ⟨bs, hbs0⟩ : ∃ bs, bs = done.take k ++ List.replicate n 0 ++ done.drop k := ⟨_, rfl⟩
                  have hip : IP6 v1 (w.heap.size + 1) 71 bs W4 := by
                    have h := IP6.clear n k _ _ Hip2.out (by rw [hl16]; exact hen)
                    rw [shif_clear (by rw [Hi.out]; exact Hn.out) (by rw [Hi.out]; omega), ← hbs0, ← hW4] at h
                    exact h
                  have hbs : v6 s = some bs := by rw [hbs0]; exact Hv.out
                  have hbl : bs.length = 16 := by
                    rw [hbs0, List.length_append, List.length_append, List.length_take, List.length_replicate, List.length_drop, Hi.out]
                    have := Hn.out
                    omega
                  clear hW4 hbs0 hl16
                  obtain ⟨x0, x1, x2, x3, x4, x5, x6, x7, x8, x9, x10, x11, x12, x13, x14, x15, rfl⟩ : ∃ x0 x1 x2 x3 x4 x5 x6 x7 x8 x9 x10 x11 x12 x13 x14 x15, bs = [x0, x1, x2, x3, x4, x5, x6, x7, x8, x9, x10, x11, x12, x13, x14, x15] := by
                    match bs, hbl with
                    | [x0, x1, x2, x3, x4, x5, x6, x7, x8, x9, x10, x11, x12, x13, x14, x15], _ => exact ⟨x0, x1, x2, x3, x4, x5, x6, x7, x8, x9, x10, x11, x12, x13, x14, x15, rfl⟩
                  have hbb : Blk W4 (w.heap.size + 1) 71 (byV [x0, x1, x2, x3, x4, x5, x6, x7, x8, x9, x10, x11, x12, x13, x14, x15]) := hip.1
                  have d0 : W4.cell? ⟨w.heap.size + 1, 0, none⟩ = some (.int .u8 (x0.toNat : Int)) := hbb.cell 0
                  have d1 : W4.cell? ⟨w.heap.size + 1, 1, none⟩ = some (.int .u8 (x1.toNat : Int)) := hbb.cell 1
                  have d2 : W4.cell? ⟨w.heap.size + 1, 2, none⟩ = some (.int .u8 (x2.toNat : Int)) := hbb.cell 2
                  have d3 : W4.cell? ⟨w.heap.size + 1, 3, none⟩ = some (.int .u8 (x3.toNat : Int)) := hbb.cell 3
                  have d4 : W4.cell? ⟨w.heap.size + 1, 4, none⟩ = some (.int .u8 (x4.toNat : Int)) := hbb.cell 4
                  have d5 : W4.cell? ⟨w.heap.size + 1, 5, none⟩ = some (.int .u8 (x5.toNat : Int)) := hbb.cell 5
                  have d6 : W4.cell? ⟨w.heap.size + 1, 6, none⟩ = some (.int .u8 (x6.toNat : Int)) := hbb.cell 6
                  have d7 : W4.cell? ⟨w.heap.size + 1, 7, none⟩ = some (.int .u8 (x7.toNat : Int)) := hbb.cell 7
                  have d8 : W4.cell? ⟨w.heap.size + 1, 8, none⟩ = some (.int .u8 (x8.toNat : Int)) := hbb.cell 8
                  have d9 : W4.cell? ⟨w.heap.size + 1, 9, none⟩ = some (.int .u8 (x9.toNat : Int)) := hbb.cell 9
                  have d10 : W4.cell? ⟨w.heap.size + 1, 10, none⟩ = some (.int .u8 (x10.toNat : Int)) := hbb.cell 10
                  have d11 : W4.cell? ⟨w.heap.size + 1, 11, none⟩ = some (.int .u8 (x11.toNat : Int)) := hbb.cell 11
                  have d12 : W4.cell? ⟨w.heap.size + 1, 12, none⟩ = some (.int .u8 (x12.toNat : Int)) := hbb.cell 12
                  have d13 : W4.cell? ⟨w.heap.size + 1, 13, none⟩ = some (.int .u8 (x13.toNat : Int)) := hbb.cell 13
                  have d14 : W4.cell? ⟨w.heap.size + 1, 14, none⟩ = some (.int .u8 (x14.toNat : Int)) := hbb.cell 14
                  have d15 : W4.cell? ⟨w.heap.size + 1, 15, none⟩ = some (.int .u8 (x15.toNat : Int)) := hbb.cell 15
                  have hbr4 : Blk W4 w.heap.size 89 [.int .u64 0, .int .u64 0, .pointer none] := Hbr.out.keep hip.2.1 (by unfold just; omega)
                  have hbel4 : Below w.heap.size w W4 := Hbw.out.trans (hip.below (by omega) (by have := Hsz.out; omega))
                  have Haf := hide (addrFrom16_any x0 x1 x2 x3 x4 x5 x6 x7 x8 x9 x10 x11 x12 x13 x14 x15 W4 g4 o4 g6 o6 (Hz.out.below hbel4))
                  have Hbr4 := hide hbr4
                  have Hbel4 := hide hbel4
                  have Hbs := hide hbs
                  unfold by16 addrV at Haf
                  simp only [List.map] at Haf
                  clear hbb hbr4 hbel4 hip hbl hbs
                  go_wp2_with fail
                  with_reducible refine Haf.out.mono ?_
                  rintro e W5 ⟨rfl, hb5⟩
                  have hbel5 := Hbel4.out.trans (hb5.mono Hbel4.out.size)
                  have Hwz := hide (withZone_any (num8 x0 x1 x2 x3 x4 x5 x6 x7) (num8 x8 x9 x10 x11 x12 x13 x14 x15) W5 g4 o4 g6 o6 (Hz.out.below hbel5))
                  have Hbr5 := hide (Hbr4.out.below hb5)
                  have Hbel5 := hide hbel5
                  have Had : Hid (addr6 g6 o6 [x0, x1, x2, x3, x4, x5, x6, x7, x8, x9, x10, x11, x12, x13, x14, x15] = addrV (num8 x0 x1 x2 x3 x4 x5 x6 x7) (num8 x8 x9 x10 x11 x12 x13 x14 x15) (some ⟨g6, o6, none⟩)) := hide rfl
                  unfold addrV at Hwz
                  generalize num8 x0 x1 x2 x3 x4 x5 x6 x7 = hh8 at *
                  generalize num8 x8 x9 x10 x11 x12 x13 x14 x15 = ll8 at *
                  clear hb5 hbel5 Haf d0 d1 d2 d3 d4 d5 d6 d7 d8 d9 d10 d11 d12 d13 d14 d15
                  go_wp2_with fail
                  with_reducible refine Hwz.out.mono ?_
                  rintro e W6 ⟨rfl, hb6⟩
                  have hbr6 := Hbr5.out.below hb6
                  have e0 : W6.cell? ⟨w.heap.size, 0, none⟩ = some (.int .u64 0) := hbr6.cell 0
                  have e1 : W6.cell? ⟨w.heap.size, 1, none⟩ = some (.int .u64 0) := hbr6.cell 1
                  have e2 : W6.cell? ⟨w.heap.size, 2, none⟩ = some (.pointer none) := hbr6.cell 2
                  have fz : ∀ i, W6.frozen? ⟨w.heap.size, i, none⟩ = false := fun i => hbr6.frozen i
                  have Hbel6 := hide (Hbel5.out.trans (hb6.mono Hbel5.out.size))
                  clear hb6 hbr6 Hwz
                  go_wp2_with fail
                  refine bodyPost_ret (v := .tuple #[addrV hh8 ll8 (some ⟨g6, o6, none⟩), .nilIface]) (by simp [results, Tryd.results69, addrV, go_sem, *]) rfl ?_
                  refine ⟨Or.inl ⟨addrV hh8 ll8 (some ⟨g6, o6, none⟩), by rw [Hbs.out, ← Had.out]; rfl, rfl⟩, ?_⟩
                  iterate 3 refine Below.setCell ?_ (by simp) _
                  exact Hbel6.out
          · rw [if_neg h16] at hfin
            obtain hl16 : done.length = 16 := by omega
            rw [hl16]
            rw [show ((16 : Nat) : Int) = (16 : Int) from rfl]
            cases ell with
            | some e => as_aux_lemma =>
              have Hend : Hid (v6 s = none) := hide hfin
              have ee : (0 : Int) ≤ (e : Int) := by omega
              unfold ellV
              clear hfin hl16 hdl h16
              have e0 : v3.cell? ⟨w.heap.size, 0, none⟩ = some (.int .u64 0) := Hbrr.out.cell 0
              have e1 : v3.cell? ⟨w.heap.size, 1, none⟩ = some (.int .u64 0) := Hbrr.out.cell 1
              have e2 : v3.cell? ⟨w.heap.size, 2, none⟩ = some (.pointer none) := Hbrr.out.cell 2
              have fz : ∀ i, v3.frozen? ⟨w.heap.size, i, none⟩ = false := fun i => Hbrr.out.frozen i
              go_wp2_with fail
              refine bodyPost_ret (v := .tuple #[addrV 0 0 none, .iface _ _]) (by simp [results, Tryd.results69, addrV, go_sem, *]; exact ⟨rfl, rfl⟩) rfl ?_
              refine ⟨Or.inr ⟨by rw [Hend.out]; rfl, _, _, rfl⟩, ?_⟩
              iterate 3 refine Below.setCell ?_ (by simp) _
              exact Hbel.out
            | none => as_aux_lemma =>
              have hip := Hip.out
              obtain ⟨bs, hbs0⟩ : ∃ bs, bs = by0 done := ⟨_, rfl⟩
              have hbd : bs = done := by rw [hbs0]; unfold by0; rw [hl16]; simp
              rw [← hbs0] at hip
              have hbs : v6 s = some bs := by rw [hbd]; exact hfin
              have hbl : bs.length = 16 := by rw [hbd]; exact hl16
              unfold ellV
              clear hfin hl16 hdl h16 hbs0 hbd
              obtain ⟨x0, x1, x2, x3, x4, x5, x6, x7, x8, x9, x10, x11, x12, x13, x14, x15, rfl⟩ : ∃ x0 x1 x2 x3 x4 x5 x6 x7 x8 x9 x10 x11 x12 x13 x14 x15, bs = [x0, x1, x2, x3, x4, x5, x6, x7, x8, x9, x10, x11, x12, x13, x14, x15] := by
                match bs, hbl with
                | [x0, x1, x2, x3, x4, x5, x6, x7, x8, x9, x10, x11, x12, x13, x14, x15], _ => exact ⟨x0, x1, x2, x3, x4, x5, x6, x7, x8, x9, x10, x11, x12, x13, x14, x15, rfl⟩
              have hbb : Blk v3 (w.heap.size + 1) 71 (byV [x0, x1, x2, x3, x4, x5, x6, x7, x8, x9, x10, x11, x12, x13, x14, x15]) := hip.1
              have d0 : v3.cell? ⟨w.heap.size + 1, 0, none⟩ = some (.int .u8 (x0.toNat : Int)) := hbb.cell 0
              have d1 : v3.cell? ⟨w.heap.size + 1, 1, none⟩ = some (.int .u8 (x1.toNat : Int)) := hbb.cell 1
              have d2 : v3.cell? ⟨w.heap.size + 1, 2, none⟩ = some (.int .u8 (x2.toNat : Int)) := hbb.cell 2
              have d3 : v3.cell? ⟨w.heap.size + 1, 3, none⟩ = some (.int .u8 (x3.toNat : Int)) := hbb.cell 3
              have d4 : v3.cell? ⟨w.heap.size + 1, 4, none⟩ = some (.int .u8 (x4.toNat : Int)) := hbb.cell 4
              have d5 : v3.cell? ⟨w.heap.size + 1, 5, none⟩ = some (.int .u8 (x5.toNat : Int)) := hbb.cell 5
              have d6 : v3.cell? ⟨w.heap.size + 1, 6, none⟩ = some (.int .u8 (x6.toNat : Int)) := hbb.cell 6
              have d7 : v3.cell? ⟨w.heap.size + 1, 7, none⟩ = some (.int .u8 (x7.toNat : Int)) := hbb.cell 7
              have d8 : v3.cell? ⟨w.heap.size + 1, 8, none⟩ = some (.int .u8 (x8.toNat : Int)) := hbb.cell 8
              have d9 : v3.cell? ⟨w.heap.size + 1, 9, none⟩ = some (.int .u8 (x9.toNat : Int)) := hbb.cell 9
              have d10 : v3.cell? ⟨w.heap.size + 1, 10, none⟩ = some (.int .u8 (x10.toNat : Int)) := hbb.cell 10
              have d11 : v3.cell? ⟨w.heap.size + 1, 11, none⟩ = some (.int .u8 (x11.toNat : Int)) := hbb.cell 11
              have d12 : v3.cell? ⟨w.heap.size + 1, 12, none⟩ = some (.int .u8 (x12.toNat : Int)) := hbb.cell 12
              have d13 : v3.cell? ⟨w.heap.size + 1, 13, none⟩ = some (.int .u8 (x13.toNat : Int)) := hbb.cell 13
              have d14 : v3.cell? ⟨w.heap.size + 1, 14, none⟩ = some (.int .u8 (x14.toNat : Int)) := hbb.cell 14
              have d15 : v3.cell? ⟨w.heap.size + 1, 15, none⟩ = some (.int .u8 (x15.toNat : Int)) := hbb.cell 15
              have hbr4 : Blk v3 w.heap.size 89 [.int .u64 0, .int .u64 0, .pointer none] := Hbr.out.keep hip.2.1 (by unfold just; omega)
              have hbel4 : Below w.heap.size w v3 := Hbw.out.trans (hip.below (by omega) (by have := Hsz.out; omega))
              have Haf := hide (addrFrom16_any x0 x1 x2 x3 x4 x5 x6 x7 x8 x9 x10 x11 x12 x13 x14 x15 v3 g4 o4 g6 o6 (Hz.out.below hbel4))
              have Hbr4 := hide hbr4
              have Hbel4 := hide hbel4
              have Hbs := hide hbs
              unfold by16 addrV at Haf
              simp only [List.map] at Haf
              clear hbb hbr4 hbel4 hip hbl hbs
              go_wp2_with fail
              with_reducible refine Haf.out.mono ?_
              rintro e W5 ⟨rfl, hb5⟩
              have hbel5 := Hbel4.out.trans (hb5.mono Hbel4.out.size)
              have Hwz := hide (withZone_any (num8 x0 x1 x2 x3 x4 x5 x6 x7) (num8 x8 x9 x10 x11 x12 x13 x14 x15) W5 g4 o4 g6 o6 (Hz.out.below hbel5))
              have Hbr5 := hide (Hbr4.out.below hb5)
              have Hbel5 := hide hbel5
              have Had : Hid (addr6 g6 o6 [x0, x1, x2, x3, x4, x5, x6, x7, x8, x9, x10, x11, x12, x13, x14, x15] = addrV (num8 x0 x1 x2 x3 x4 x5 x6 x7) (num8 x8 x9 x10 x11 x12 x13 x14 x15) (some ⟨g6, o6, none⟩)) := hide rfl
              unfold addrV at Hwz
              generalize num8 x0 x1 x2 x3 x4 x5 x6 x7 = hh8 at *
              generalize num8 x8 x9 x10 x11 x12 x13 x14 x15 = ll8 at *
              clear hb5 hbel5 Haf d0 d1 d2 d3 d4 d5 d6 d7 d8 d9 d10 d11 d12 d13 d14 d15
              go_wp2_with fail
              with_reducible refine Hwz.out.mono ?_
              rintro e W6 ⟨rfl, hb6⟩
              have hbr6 := Hbr5.out.below hb6
              have e0 : W6.cell? ⟨w.heap.size, 0, none⟩ = some (.int .u64 0) := hbr6.cell 0
              have e1 : W6.cell? ⟨w.heap.size, 1, none⟩ = some (.int .u64 0) := hbr6.cell 1
              have e2 : W6.cell? ⟨w.heap.size, 2, none⟩ = some (.pointer none) := hbr6.cell 2
              have fz : ∀ i, W6.frozen? ⟨w.heap.size, i, none⟩ = false := fun i => hbr6.frozen i
              have Hbel6 := hide (Hbel5.out.trans (hb6.mono Hbel5.out.size))
              clear hb6 hbr6 Hwz
              go_wp2_with fail
              refine bodyPost_ret (v := .tuple #[addrV hh8 ll8 (some ⟨g6, o6, none⟩), .nilIface]) (by simp [results, Tryd.results69, addrV, go_sem, *]) rfl ?_
              refine ⟨Or.inl ⟨addrV hh8 ll8 (some ⟨g6, o6, none⟩), by rw [Hbs.out, ← Had.out]; rfl, rfl⟩, ?_⟩
              iterate 3 refine Below.setCell ?_ (by simp) _
              exact Hbel6.out
        · have hs0' : ((sr.length : Int) == 0) = false := by rw [beq_eq_false_iff_ne]; intro e; exact hs0 (List.eq_nil_of_length_eq_zero (by omega))
          have Hend : Hid (v6 s = none) := hide (by rw [Hfin.out]; unfold fin6; rw [if_pos hs0])
          clear hs0
          have e0 : v3.cell? ⟨w.heap.size, 0, none⟩ = some (.int .u64 0) := Hbrr.out.cell 0
          have e1 : v3.cell? ⟨w.heap.size, 1, none⟩ = some (.int .u64 0) := Hbrr.out.cell 1
          have e2 : v3.cell? ⟨w.heap.size, 2, none⟩ = some (.pointer none) := Hbrr.out.cell 2
          have fz : ∀ i, v3.frozen? ⟨w.heap.size, i, none⟩ = false := fun i => Hbrr.out.frozen i
          go_wp2_with fail
          refine bodyPost_ret (v := .tuple #[addrV 0 0 none, .iface _ _]) (by simp [results, Tryd.results69, addrV, go_sem, *]; exact ⟨rfl, rfl⟩) rfl ?_
          refine ⟨Or.inr ⟨by rw [Hend.out]; rfl, _, _, rfl⟩, ?_⟩
          iterate 3 refine Below.setCell ?_ (by simp) _
          exact Hbel.out
end Go.Proofs.YtmfcgglgolajnaaDoor
