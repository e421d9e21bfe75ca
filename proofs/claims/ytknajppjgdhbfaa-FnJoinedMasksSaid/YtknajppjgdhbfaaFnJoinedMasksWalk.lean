/-
  The walk of FnJoinedMasks.
-/
import Derived.Test.YtknajppjgdhbfaaConEach
import Derived.Test.YtknajppjgdhbfaaSized
import Derived.Test.YtknajppjgdhbfaaPlain2
import Derived.Test.YtknajppjgdhbfaaBlk
import Derived.RegionTactic
namespace Go.Proofs.Ytknajppjgdhbfaa
open Go.RowKit
set_option linter.unusedVariables false

def bv (bs : List UInt8) : List Value := bs.map fun b => .int .u8 (b.toNat : Int)
def lv (ys : List Bool) : List Value := ys.map Value.bool

/-- The two rows that the law writes: the joined mask, and what is due. -/
def JM (v : World) (bs : List UInt8) (ys : List Bool) (wr : World) : Prop :=
  Blk wr v.heap.size 5 (bv bs) ∧ Blk wr (v.heap.size + 1) 4 (lv ys) ∧ Below v.heap.size v wr

theorem JM.setB {v wr : World} {bs : List UInt8} {ys : List Bool} (h : JM v bs ys wr) (k : Nat) (x : UInt8) : JM v (bs.set k x) ys (wr.setCell ⟨v.heap.size, k, none⟩ (.int .u8 (x.toNat : Int))) := by
  obtain ⟨h1, h2, h3⟩ := h
  refine ⟨?_, h2.far (by simp) _, h3.setCell (Nat.le_refl _) _⟩
  have := h1.set_ k (.int .u8 (x.toNat : Int))
  unfold bv at this ⊢
  rw [List.map_set]
  exact this
theorem JM.setL {v wr : World} {bs : List UInt8} {ys : List Bool} (h : JM v bs ys wr) (k : Nat) (x : Bool) : JM v bs (ys.set k x) (wr.setCell ⟨v.heap.size + 1, k, none⟩ (.bool x)) := by
  obtain ⟨h1, h2, h3⟩ := h
  refine ⟨h1.far (by simp) _, ?_, h3.setCell (by simp) _⟩
  have := h2.set_ k (.bool x)
  unfold lv at this ⊢
  rw [List.map_set]
  exact this
theorem JM.drew {v wr : World} {bs : List UInt8} {ys : List Bool} (h : JM v bs ys wr) : JM v bs ys wr.drew := ⟨h.1.drew, h.2.1.drew, h.2.2.drew⟩
theorem JM.below {v wr w' : World} {bs : List UInt8} {ys : List Bool} (h : JM v bs ys wr) (hb : Below wr.heap.size wr w') : JM v bs ys w' := ⟨h.1.below hb, h.2.1.below hb, h.2.2.trans (hb.mono h.2.2.size)⟩

/-- The masks joined, the first k of them. -/
def orTo (n : Nat) (ml : List (List UInt8)) (k : Nat) : List UInt8 := (ml.take k).foldl (List.zipWith (· ||| ·)) (List.replicate n 0)
theorem orTo_zero (n : Nat) (ml : List (List UInt8)) : orTo n ml 0 = List.replicate n 0 := rfl
theorem orTo_succ {n : Nat} {ml : List (List UInt8)} {k : Nat} {m : List UInt8} (h : ml[k]? = some m) : orTo n ml (k + 1) = List.zipWith (· ||| ·) (orTo n ml k) m := by
  unfold orTo; rw [take_snoc h, List.foldl_append]; rfl
theorem orTo_length {n : Nat} {ml : List (List UInt8)} (hm : ∀ m ∈ ml, m.length = n) (k : Nat) : (orTo n ml k).length = n := by
  induction k with
  | zero => rw [orTo_zero, List.length_replicate]
  | succ k ih =>
    by_cases hk : k < ml.length
    · rw [orTo_succ (List.getElem?_eq_getElem hk), List.length_zipWith, ih, hm _ (List.getElem_mem hk)]; omega
    · have e : orTo n ml (k + 1) = orTo n ml k := by
        unfold orTo; rw [List.take_of_length_le (by omega), List.take_of_length_le (by omega)]
      rw [e]; exact ih
def dueTo (n : Nat) (al : List (List UInt8)) (num : List UInt8) (ml : List (List UInt8)) (k : Nat) : List Bool := al.map (inNet num (orTo n ml k))
theorem dueTo_zero {n : Nat} {al : List (List UInt8)} {num : List UInt8} {ml : List (List UInt8)} (hn : num.length = n) (ha : ∀ b ∈ al, b.length = n) : dueTo n al num ml 0 = List.replicate al.length true := by
  unfold dueTo
  rw [orTo_zero]
  apply List.ext_getElem?
  intro i
  by_cases hi : i < al.length
  · rw [List.getElem?_map, List.getElem?_eq_getElem hi, List.getElem?_replicate, if_pos hi]
    simp only [Option.map_some, inNet_zeros hn (ha _ (List.getElem_mem hi))]
  · rw [List.getElem?_eq_none (by simp; omega), List.getElem?_eq_none (by simp; omega)]
theorem dueTo_succ {n : Nat} {al : List (List UInt8)} {num : List UInt8} {ml : List (List UInt8)} {k : Nat} {m : List UInt8} (hn : num.length = n) (ha : ∀ b ∈ al, b.length = n) (hm : ∀ m ∈ ml, m.length = n) (h : ml[k]? = some m) :
    dueTo n al num ml (k + 1) = List.zipWith (· && ·) (dueTo n al num ml k) (al.map (inNet num m)) := by
  unfold dueTo
  rw [orTo_succ h]
  apply List.ext_getElem?
  intro i
  rw [List.getElem?_zipWith]
  by_cases hi : i < al.length
  · simp only [List.getElem?_map, List.getElem?_eq_getElem hi, Option.map_some]
    rw [inNet_or (by rw [orTo_length hm]; exact hn) (by rw [orTo_length hm]; exact ha _ (List.getElem_mem hi)) (by rw [orTo_length hm]; exact hm _ (List.mem_of_getElem? h))]
  · simp only [List.getElem?_map, List.getElem?_eq_none (show al.length ≤ i by omega), Option.map_none]
theorem dueTo_length (n : Nat) (al : List (List UInt8)) (num : List UInt8) (ml : List (List UInt8)) (k : Nat) : (dueTo n al num ml k).length = al.length := List.length_map _

theorem JM.start (v : World) (n N : Nat) : JM v (List.replicate n 0) (List.replicate N false) ((v.alloc (.cells (timesOf n (.int .u8 0)).toArray 5)).alloc (.cells (timesOf N (.bool false)).toArray 4)) := by
  refine ⟨?_, ?_, ((Below.refl _ _).alloc (Nat.le_refl _) _).alloc (by simp) _⟩
  · have := (Blk.new v 5 (timesOf n (.int .u8 0))).alloc (.cells (timesOf N (.bool false)).toArray 4)
    unfold bv
    rw [List.map_replicate]
    exact this
  · have := Blk.new (v.alloc (.cells (timesOf n (.int .u8 0)).toArray 5)) 4 (timesOf N (.bool false))
    unfold lv
    rw [List.map_replicate]
    rw [show (v.alloc (.cells (timesOf n (.int .u8 0)).toArray 5)).heap.size = v.heap.size + 1 by simp] at this
    exact this
theorem fill_set (N k : Nat) (h : k < N) : (List.replicate k true ++ List.replicate (N - k) false).set k true = List.replicate (k + 1) true ++ List.replicate (N - (k + 1)) false := by
  rw [List.set_append, if_neg (by simp), List.length_replicate, Nat.sub_self]
  rw [show N - k = (N - (k + 1)) + 1 by omega, List.replicate_succ, List.set_cons_zero, List.replicate_succ', List.append_assoc]
  rfl

set_option maxRecDepth 100000 in
set_option maxHeartbeats 6400000 in
theorem fnJoinedMasks_walk (w : World) (a0 : Option Addr) (n0 c0 : Nat) (b0 : List UInt8) (w0 : RB w no a0 n0 c0 b0) (r0 : c0 ≤ 140737488351232)
    (a1 : Option Addr) (n1 c1 : Nat) (b1 : List (List UInt8)) (w1 : RBB w no a1 n1 c1 b1) (r1 : c1 * 24 ≤ 140737488351232) (l1 : ∀ b ∈ b1, b.length ≤ 140737488351232)
    (a2 : Option Addr) (n2 c2 : Nat) (b2 : List (List UInt8)) (w2 : RBB w no a2 n2 c2 b2) (r2 : c2 * 24 ≤ 140737488351232) (l2 : ∀ b ∈ b2, b.length ≤ 140737488351232) :
    Calls Try.prog 5 #[.slice a0 n0 c0, .slice a1 n1 c1, .slice a2 n2 c2] w fun e w' => e = .returned (.bool true) ∧ Below w.heap.size w w' := by
  obtain ⟨i0, hi, hz0, hz1, hz2⟩ := info_parts byte_info
  obtain ⟨j0, hj, hy0, hy1, hy2⟩ := info_parts bool_info
  have W0 := hide w0
  have W1 := hide w1
  have W2 := hide w2
  have L1 := hide l1
  have L2 := hide l2
  have k0 := w0.cap
  have k1 := w1.cap
  have k2 := w2.cap
  have Hcall := hide (alike_any _ 1 1 n0 [b0] _ (RBB.one 22 w0) (by omega) (by intro b hb; simp at hb; subst hb; rw [w0.len]; omega))
  clear w0 w1 w2 l1 l2
  go_enter Try.func5, Try.ntmps5
  go_wp2_with fail
  with_reducible refine Hcall.out.mono ?_
  rintro e v1 ⟨A1, d1, rfl, h1, hb1⟩
  rw [alikeL_one] at h1 ⊢
  have hb1' : Below w.heap.size w v1 := ((Below.refl _ _).alloc (Nat.le_refl _) _).trans (hb1.mono (by simp))
  clear hb1 Hcall h1
  cases hg : goodA n0 b0 with
  | false =>
    have Hb1 := hide hb1'
    clear hg hb1'
    go_wp2_with fail
    go_ret
    exact ⟨rfl, Hb1.out⟩
  | true =>
    have hgood : (n0 = 4 ∨ n0 = 16) ∧ mapd b0 = false := by
      unfold goodA at hg
      simp at hg
      exact ⟨hg.1.2, hg.2⟩
    obtain ⟨hn, hm⟩ := hgood
    have Hn := hide hn
    have Hm := hide hm
    have Hb1 := hide hb1'
    have hn16 : n0 ≤ 16 := by omega
    have Hcall2 := hide (alike_any a2 n2 c2 n0 b2 v1 (W2.out.below hb1') (by omega) L2.out)
    clear hn hm hb1' hg
    go_wp2_with fail
    with_reducible refine Hcall2.out.mono ?_
    rintro e v2 ⟨A2, d2, rfl, h2, hb2⟩
    have hall : ∀ b ∈ alikeL b2 n0, b.length = n0 ∧ mapd b = false := fun b hb => ⟨(alikeL_mem hb).1, (alikeL_mem hb).2.2⟩
    have hle : (alikeL b2 n0).length ≤ n2 := by
      have := List.length_filter_le (goodA n0) b2
      have h3 := W2.out.len
      unfold alikeL; omega
    generalize alikeL b2 n0 = al at *
    have Hb2 : Hid (Below w.heap.size w v2) := hide (Hb1.out.trans (hb2.mono Hb1.out.size))
    have Hall := hide hall
    have H2 := hide h2
    have hmk1 := fun W => run_make1 (P := Try.prog) 22 5 i0 (.int .u8 0) Try.underlying22 hi hz0 hz1 rfl n0 (by rw [hz2]; omega) (by omega) W
    have hmk2 := fun W => run_make1 (P := Try.prog) 25 4 j0 (.bool false) Try.underlying25 hj hy0 hy1 rfl al.length (by rw [hy2]; omega) (by omega) W
    have Hst := hide (JM.start v2 n0 al.length)
    clear hall h2 hb2 Hcall2
    go_wp2_with fail
    clear hmk1 hmk2
    go_loopw [35] (fun i wr => ∃ k : Nat, k ≤ al.length ∧ i = .int .i64 k ∧ JM v2 (List.replicate n0 0) (List.replicate k true ++ List.replicate (al.length - k) false) wr) (fun i _ => al.length - (intOf i).toNat)
    case atStart => exact ⟨0, Nat.zero_le _, rfl, Hst.out⟩
    case round =>
      obtain ⟨k, hk, rfl, hr⟩ := hrel
      have Hr := hide hr
      by_cases hlt : k < al.length
      · obtain ⟨u, hu⟩ : ∃ u, (lv (List.replicate k true ++ List.replicate (al.length - k) false))[k]? = some u := ⟨_, List.getElem?_eq_getElem (by unfold lv; simp; omega)⟩
        have hcell : wr.cell? ⟨v2.heap.size + 1, k, none⟩ = some u := by rw [hr.2.1.cell, hu]
        have hfz : wr.frozen? ⟨v2.heap.size + 1, k, none⟩ = false := hr.2.1.frozen k
        have i1 : (0 : Int) ≤ k := by omega
        clear hr hu
        go_wp2_with fail
        go_roundw
        case rel => exact ⟨k + 1, by omega, by go_num, by rw [← fill_set al.length k hlt]; exact Hr.out.setL k true⟩
        case measure => simp [intOf]; omega
      · obtain rfl : k = al.length := by omega
        rw [Nat.sub_self, List.replicate_zero, List.append_nil] at hr
        have hbw : Below w.heap.size w wr := Hb2.out.trans (hr.2.2.mono Hb2.out.size)
        have Hcall3 := hide (sized_any a1 n1 c1 n0 b1 wr (W1.out.below hbw) (by omega) L1.out)
        have Hr2 := hide hr
        obtain ⟨wx, rfl⟩ : ∃ wx : World, wx = wr := ⟨_, rfl⟩
        clear hr hbw Hr
        go_wp2_with fail
        with_reducible refine Hcall3.out.mono ?_
        rintro e v3 ⟨A3, d3, rfl, h3, hb3⟩
        have hml : ∀ m ∈ sizedL b1 n0, m.length = n0 := fun m hm => sizedL_mem hm
        have hmle : (sizedL b1 n0).length ≤ n1 := by
          have := List.length_filter_le (fun b : List UInt8 => decide (b.length = n0)) b1
          have h4 := W1.out.len
          unfold sizedL; omega
        generalize sizedL b1 n0 = ml at *
        have Hml := hide hml
        have H3 := hide h3
        have hlt1 := Hr2.out.2.1.lt
        have Hst2 : Hid (JM v2 (orTo n0 ml 0) (dueTo n0 al b0 ml 0) v3) := hide (by
          rw [orTo_zero, dueTo_zero W0.out.len (fun b hb => (Hall.out b hb).1)]
          exact Hr2.out.below hb3)
        clear h3 hb3 hml Hr2 Hst Hcall3
        go_wp2_with fail
        go_loopw [47] (fun i wr => ∃ k : Nat, k ≤ ml.length ∧ i = .int .i64 k ∧ JM v2 (orTo n0 ml k) (dueTo n0 al b0 ml k) wr ∧ RBB wr (fun g => g < wx.heap.size) A3 ml.length d3 ml) (fun i _ => ml.length - (intOf i).toNat)
        case atStart => exact ⟨0, Nat.zero_le _, rfl, Hst2.out, H3.out⟩
        case round =>
          obtain ⟨k, hk, rfl, hr, hrm⟩ := hrel
          have Hr := hide hr
          have Hrm := hide hrm
          obtain ⟨wo, rfl⟩ : ∃ wo : World, wo = wr := ⟨_, rfl⟩
          by_cases hltk : k < ml.length
          · obtain ⟨g3, o3, B, mm, f, m, rfl, hmk, hcm, hbm⟩ := hrm.at_ hltk
            obtain rfl : mm = n0 := by rw [← hbm.len]; exact Hml.out m (List.mem_of_getElem? hmk)
            have Hmk := hide hmk
            have Hbm := hide hbm
            have hol := orTo_length Hml.out k
            have Hol := hide hol
            have hml2 := hbm.len
            have Hml2 := hide hml2
            clear hr hrm hmk hbm hol hml2
            go_wp2_with fail
            go_loopw [53] (fun i wr => ∃ j : Nat, j ≤ mm ∧ i = .int .i64 j ∧ JM v2 (joinTo (· ||| ·) (orTo mm ml k) m j) (dueTo mm al b0 ml k) wr ∧ RBB wr (fun g => g < wx.heap.size) (some ⟨g3, o3, none⟩) ml.length d3 ml ∧ RB wr (fun g => g < wx.heap.size) B mm f m) (fun i _ => mm - (intOf i).toNat)
            case atStart => exact ⟨0, Nat.zero_le _, rfl, by rw [joinTo_zero]; exact Hr.out, Hrm.out, Hbm.out⟩
            case round =>
              obtain ⟨j, hj', rfl, hr, hrm, hbm⟩ := hrel
              have Hr2 := hide hr
              have Hrm2 := hide hrm
              have Hbm2 := hide hbm
              by_cases hltj : j < mm
              · obtain ⟨gb, ob, y, rfl, hy, hcy⟩ := hbm.at_ hltj
                obtain ⟨x, hx⟩ : ∃ x, (orTo mm ml k)[j]? = some x := ⟨_, List.getElem?_eq_getElem (by rw [Hol.out]; exact hltj)⟩
                have hcx : wr.cell? ⟨v2.heap.size, j, none⟩ = some (.int .u8 (x.toNat : Int)) := by
                  rw [hr.1.cell]
                  unfold bv
                  rw [List.getElem?_map, joinTo_at (by rw [Hol.out, Hml2.out]) (by rw [Hol.out]; exact hltj), hx]
                  rfl
                have hfz : wr.frozen? ⟨v2.heap.size, j, none⟩ = false := hr.1.frozen j
                have hor := u8_or_nat _ _ x.toNat_lt y.toNat_lt
                have i1 : (0 : Int) ≤ j := by omega
                have i2 : (j : Int) < mm := by omega
                have hk1 : Kept (fun g => g < wx.heap.size) wr (wr.setCell ⟨v2.heap.size, j, none⟩ (.int .u8 ((x.toNat ||| y.toNat : Nat) : Int))).drew := (Kept.setCell (w := wr)).mono (fun g h => by unfold just at h; omega)
                have Hk1 := hide hk1
                have Hs := hide ((Hr2.out.setB j (x ||| y)).drew)
                rw [joinTo_set (by rw [Hol.out, Hml2.out]) hx hy, UInt8.toNat_or] at Hs
                clear hy hx hr hrm hbm hk1
                go_wp2_with fail
                go_region
                go_wp2_with fail
                go_roundw
                case rel => exact ⟨j + 1, by omega, by go_num, Hs.out, Hrm2.out.keep Hk1.out, Hbm2.out.keep Hk1.out⟩
                case measure => simp [intOf]; omega
              · obtain rfl : j = mm := by omega
                rw [show joinTo (· ||| ·) (orTo j ml k) m j = orTo j ml (k + 1) by rw [orTo_succ Hmk.out, ← joinTo_end (f := (· ||| ·)) (xs := orTo j ml k) (ys := m) (by rw [Hol.out, Hml2.out]), Hol.out]] at hr Hr2
                have hbw : Below w.heap.size w wr := Hb2.out.trans (hr.2.2.mono Hb2.out.size)
                have Hcall4 := hide (containsEach_new a0 B A2 j c0 f al.length d2 b0 m al wr (W0.out.below hbw) hbm.free (H2.out.below hr.2.2) Hn.out Hm.out Hall.out (by omega))
                have hlt2 := hr.2.1.lt
                clear hr hrm hbm hbw
                go_wp2_with fail
                with_reducible refine Hcall4.out.mono ?_
                rintro e v4 ⟨A4, d4, rfl, h4, hb4⟩
                have hlen : (al.map (inNet b0 m)).length = al.length := List.length_map _
                rw [hlen] at h4 ⊢
                have hne : ((al.length : Int) != (al.length : Int)) = false := by simp
                have H4 := hide (h4 (fun g => g < wr.heap.size) (fun g h => h))
                have Hr4 := hide (Hr2.out.below hb4)
                have Hrm4 := hide (Hrm2.out.keep (Kept.of_below hb4 _))
                have hwrs := Hr2.out.2.2.size
                obtain ⟨wz, rfl⟩ : ∃ wz : World, wz = wr := ⟨_, rfl⟩
                clear h4 hb4 hlen Hcall4 Hr2 Hrm2 Hbm2
                go_wp2_with fail
                go_loopw [78] (fun i wr => ∃ q : Nat, q ≤ al.length ∧ i = .int .i64 q ∧ JM v2 (orTo j ml (k + 1)) (joinTo (· && ·) (dueTo j al b0 ml k) (al.map (inNet b0 m)) q) wr ∧ RBB wr (fun g => g < wx.heap.size) (some ⟨g3, o3, none⟩) ml.length d3 ml ∧ RL wr (fun g => g < wz.heap.size) A4 al.length d4 (al.map (inNet b0 m))) (fun i _ => al.length - (intOf i).toNat)
                case atStart => exact ⟨0, Nat.zero_le _, rfl, by rw [joinTo_zero]; exact Hr4.out, Hrm4.out, H4.out⟩
                case round =>
                  obtain ⟨q, hq', rfl, hr, hrm, hyes⟩ := hrel
                  have Hr5 := hide hr
                  have Hrm5 := hide hrm
                  have Hyes5 := hide hyes
                  by_cases hltq : q < al.length
                  · obtain ⟨gb, ob, y, rfl, hy, hcy⟩ := hyes.at_ hltq
                    obtain ⟨x, hx⟩ : ∃ x, (dueTo j al b0 ml k)[q]? = some x := ⟨_, List.getElem?_eq_getElem (by rw [dueTo_length]; exact hltq)⟩
                    have hll : (dueTo j al b0 ml k).length = (al.map (inNet b0 m)).length := by rw [dueTo_length, List.length_map]
                    have hcx : wr.cell? ⟨v2.heap.size + 1, q, none⟩ = some (.bool x) := by
                      rw [hr.2.1.cell]
                      unfold lv
                      rw [List.getElem?_map, joinTo_at hll (by rw [dueTo_length]; exact hltq), hx]
                      rfl
                    have hfz : wr.frozen? ⟨v2.heap.size + 1, q, none⟩ = false := hr.2.1.frozen q
                    have i1 : (0 : Int) ≤ q := by omega
                    have i2 : (q : Int) < al.length := by omega
                    have Hk1 := hide (fun u => show Kept (fun g => g < wx.heap.size) wr (wr.setCell ⟨v2.heap.size + 1, q, none⟩ u) from (Kept.setCell (w := wr)).mono (fun g h => by unfold just at h; omega))
                    have Hk2 := hide (fun u => show Kept (fun g => g < wz.heap.size) wr (wr.setCell ⟨v2.heap.size + 1, q, none⟩ u) from (Kept.setCell (w := wr)).mono (fun g h => by unfold just at h; omega))
                    have Hs := hide (Hr5.out.setL q (x && y))
                    rw [joinTo_set (f := (· && ·)) hll hx hy] at Hs
                    clear hy hx hr hrm hyes hll
                    cases x
                    all_goals
                      go_wp2_with fail
                      go_roundw
                      case rel => exact ⟨q + 1, by omega, by go_num, Hs.out, Hrm5.out.keep (Hk1.out _), Hyes5.out.keep (Hk2.out _)⟩
                      case measure => simp [intOf]; omega
                  · obtain rfl : q = al.length := by omega
                    rw [show joinTo (· && ·) (dueTo j al b0 ml k) (al.map (inNet b0 m)) al.length = dueTo j al b0 ml (k + 1) by
                      rw [dueTo_succ W0.out.len (fun b hb => (Hall.out b hb).1) Hml.out Hmk.out, ← joinTo_end (f := (· && ·)) (xs := dueTo j al b0 ml k) (ys := al.map (inNet b0 m)) (by rw [dueTo_length, List.length_map]), dueTo_length]] at Hr5
                    clear hr hrm hyes
                    go_wp2_with fail
                    go_roundw
                    case rel => exact ⟨k + 1, by omega, by go_num, Hr5.out, Hrm5.out⟩
                    case measure => simp [intOf]; omega
          · obtain rfl : k = ml.length := by omega
            have hol := orTo_length Hml.out ml.length
            have hbw : Below w.heap.size w wo := Hb2.out.trans (hr.2.2.mono Hb2.out.size)
            have hall2 : RB wo no (some ⟨v2.heap.size, 0, none⟩) n0 n0 (orTo n0 ml ml.length) := hr.1.rb (fun h => h) hol (Nat.le_refl _) (by unfold maxLen; omega)
            have hdue : RL wo no (some ⟨v2.heap.size + 1, 0, none⟩) al.length al.length (dueTo n0 al b0 ml ml.length) := hr.2.1.rl (fun h => h) (dueTo_length _ _ _ _ _) (Nat.le_refl _) (by unfold maxLen; omega)
            have Hcall5 := hide (containsEach_any a0 _ A2 n0 c0 n0 al.length d2 b0 _ al wo (W0.out.below hbw) hall2 (H2.out.below hr.2.2) Hn.out Hm.out Hall.out (by omega))
            have Hdue := hide hdue
            have Hbw := hide hbw
            clear hr hrm hol hbw hall2 hdue
            go_wp2_with fail
            with_reducible refine Hcall5.out.mono ?_
            rintro e v5 ⟨A5, d5, rfl, h5, hb5⟩
            have hlen : (al.map (inNet b0 (orTo n0 ml ml.length))).length = al.length := List.length_map _
            rw [hlen] at h5 ⊢
            have Hcall6 := hide (sameYes_any _ _ _ _ _ _ _ _ _ no no h5 (Hdue.out.below hb5))
            have Hb5 := hide (Hbw.out.trans (hb5.mono Hbw.out.size))
            clear h5 hb5 hlen Hcall5
            go_wp2_with fail
            with_reducible refine Hcall6.out.mono ?_
            rintro e v6 ⟨rfl, q, rfl⟩
            rw [show eqL (al.map (inNet b0 (orTo n0 ml ml.length))) (dueTo n0 al b0 ml ml.length) = true from eqL_iff.2 rfl]
            go_wp2_with fail
            go_ret
            exact ⟨rfl, below_drewN Hb5.out q⟩
end Go.Proofs.Ytknajppjgdhbfaa
