/-
  The contract of holding.
-/
import Derived.Test.YtknajppjgdhbfaaMasks
import Derived.Test.YtknajppjgdhbfaaGreedy
import Derived.Deep.RegionHeld3
namespace Go.Proofs.Ytknajppjgdhbfaa
open Go.RowKit
set_option linter.unusedVariables false

theorem holdL_take {al : List (List UInt8)} {os : List Int} {b a : List UInt8} {z : Int} {k : Nat} (hl : al.length = os.length) (ha : al[k]? = some a) (hz : os[k]? = some z) : holdL (al.take (k + 1)) (os.take (k + 1)) b = holdL (al.take k) (os.take k) b + (inNet a (cidr a.length z.toNat) b).toNat := by
  rw [take_snoc ha, take_snoc hz, holdL_snoc (by rw [List.length_take, List.length_take, hl])]

/-- A mask of ones and then zeros comes back. -/
theorem maskOf_len (k : Int) (n : Nat) (w W : World) (hn : n = 4 ∨ n = 16) (h0 : 0 ≤ k) (hk : k ≤ 8 * (n : Int)) (hb : Below w.heap.size w W) :
    Calls Try.prog 18 #[.int .i64 k, .int .i64 (n : Int)] W fun e w' => ∃ M d, e = .returned (.slice M n d) ∧ RB w' no M n d (cidr n k.toNat) ∧ Below w.heap.size w w' :=
  (maskOf_any k n W hn h0 hk).mono fun e w' ⟨M, d, he, hr, hb'⟩ => by
    rw [cidr_length] at he hr
    exact ⟨M, d, he, hr.free, hb.trans (hb'.mono hb.size)⟩

theorem contains_len (A M B : Option Addr) (n c d f : Nat) (xs ms b : List UInt8) (w W : World) (ha : RB w no A n c xs) (hM : RB W no M n d ms) (hB : RB w no B n f b)
    (hn : n = 4 ∨ n = 16) (hm : mapd xs = false) (hmb : mapd b = false) (hb : Below w.heap.size w W) :
    Calls Try.prog 19 #[.slice A n c, .slice M n d, .slice B n f] W fun e w' => e = .returned (.bool (inNet xs ms b)) ∧ Below w.heap.size w w' :=
  (containsOne_any A M B n c d f xs ms b W no no no (ha.below hb) hM (hB.below hb) hn hm hmb).mono fun e w' h => ⟨h.1, hb.trans (h.2.mono hb.size)⟩

set_option maxRecDepth 100000 in
set_option maxHeartbeats 3200000 in
theorem holding_any (L J B : Option Addr) (N e f n c : Nat) (al : List (List UInt8)) (os : List Int) (b : List UInt8) (w : World) (hL : RBB w no L N e al) (hJ : RI w no J N f os) (hB : RB w no B n c b)
    (hn : n = 4 ∨ n = 16) (hal : ∀ a ∈ al, a.length = n ∧ mapd a = false) (hos : ∀ z ∈ os, 0 ≤ z ∧ z ≤ 8 * (n : Int)) (hmb : mapd b = false) :
    Calls Try.prog 22 #[.slice L N e, .slice J N f, .slice B n c] w fun e w' => e = .returned (.int .i64 (holdL al os b : Int)) ∧ Below w.heap.size w w' := by
  have HL := hide hL
  have HJ := hide hJ
  have HB := hide hB
  have Hn := hide hn
  have Hal := hide hal
  have Hos := hide hos
  have Hmb := hide hmb
  have hN1 := hL.cap
  have hN2 := hL.max
  unfold maxLen at hN2
  have hnn : ¬ ((N : Int) < (N : Int)) := by omega
  clear hL hJ hB hn hal hos hmb
  go_enter Try.func22, Try.ntmps22
  go_wp2_with fail
  go_loopw [7, 14] (fun s i wr => ∃ k t : Nat, k ≤ N ∧ i = .int .i64 k ∧ s = .int .i64 (t : Int) ∧ t ≤ k ∧ t = holdL (al.take k) (os.take k) b ∧ Below w.heap.size w wr) (fun _ i _ => N - (intOf i).toNat)
  case atStart => exact ⟨0, 0, Nat.zero_le _, rfl, rfl, Nat.le_refl _, rfl, Below.refl _ _⟩
  case round =>
    obtain ⟨k, t, hk, rfl, rfl, htk, ht, hr⟩ := hrel
    have Hr := hide hr
    have Ht := hide ht
    by_cases hlt : k < N
    · obtain ⟨g, o, Bx, m, d, a, rfl, hak, hc, hba⟩ := (HL.out.below hr).at_ hlt
      obtain ⟨g2, o2, z, rfl, hzk, hz⟩ := (HJ.out.below hr).at_ hlt
      obtain ⟨hl1, hm1⟩ := Hal.out a (List.mem_of_getElem? hak)
      obtain rfl : m = n := by rw [← hba.len, hl1]
      have hzz := Hos.out z (List.mem_of_getElem? hzk)
      have Hst : Hid (holdL (al.take (k + 1)) (os.take (k + 1)) b = t + (inNet a (cidr m z.toNat) b).toNat) := hide (by
        rw [holdL_take (by rw [HL.out.len, HJ.out.len]) hak hzk, ← ht, hl1])
      have Hm := hide (fun (W : World) (hW : Below wr.heap.size wr W) => maskOf_len z m wr W Hn.out hzz.1 hzz.2 hW)
      have Hc := hide (fun (W : World) (M : Option Addr) (d' : Nat) (hW : Below wr.heap.size wr W) (hM : RB W no M m d' (cidr m z.toNat)) =>
        contains_len Bx M B m d d' c a _ b wr W hba hM (HB.out.below hr) Hn.out hm1 Hmb.out hW)
      have Hk := hide (fun (W : World) (hW : Below wr.heap.size wr W) => show Below wr.heap.size wr W ∧ W.cell? ⟨g, o + k, none⟩ = some (.slice Bx m d) ∧ W.cell? ⟨g2, o2 + k, none⟩ = some (.int .i64 z) from
        ⟨hW, (World.cell?_of_block (hW.block g (World.block_lt_of_cell? _ _ hc))).trans hc, (World.cell?_of_block (hW.block g2 (World.block_lt_of_cell? _ _ hz))).trans hz⟩)
      have hd0 : Below wr.heap.size wr wr.drew := (Below.refl _ _).drew
      have i1 : (0 : Int) ≤ k := by omega
      have i2 : (k : Int) < N := by omega
      generalize hml : cidr m z.toNat = ml at *
      clear hr ht hba hl1 hm1 hzz hak hzk hml hc hz
      generalize hbt : inNet a ml b = bt at *
      clear hbt
      go_wp2_with fail
      go_region_held3 (fun W => Below wr.heap.size wr W ∧ W.cell? ⟨g, o + k, none⟩ = some (.slice Bx m d) ∧ W.cell? ⟨g2, o2 + k, none⟩ = some (.int .i64 z)) (exact Hk.out _ (by assumption))
        (first
          | (go_at_call 18; refine (Hm.out _ ?_).mono ?_; (assumption); rintro e w1 ⟨M, d', rfl, hM, hbM⟩)
          | (go_at_call 19; refine (Hc.out _ _ _ ?_ ?_).mono ?_; (assumption); (assumption); rintro e w2 ⟨rfl, hb2⟩))
      cases bt
      · go_wp2_with fail
        go_roundw
        case rel => exact ⟨k + 1, t, by omega, by go_num, rfl, by omega, by rw [Hst.out]; rfl, Hr.out.trans (hb2.mono Hr.out.size)⟩
        case measure => simp [intOf]; omega
      · go_wp2_with fail
        go_roundw
        case rel => exact ⟨k + 1, t + 1, by omega, by go_num, by go_num, by omega, by rw [Hst.out]; rfl, Hr.out.trans (hb2.mono Hr.out.size)⟩
        case measure => simp [intOf]; omega
    · obtain rfl : k = N := by omega
      clear hr ht
      go_wp2_with fail
      go_ret
      refine ⟨ret_int ?_, Hr.out⟩
      have h := Ht.out
      rw [List.take_of_length_le (by rw [HL.out.len]; omega), List.take_of_length_le (by rw [HJ.out.len]; omega)] at h
      rw [h]

theorem holding_len (L J B : Option Addr) (N e f n c : Nat) (al : List (List UInt8)) (os : List Int) (b : List UInt8) (w W : World) (hL : RBB w no L N e al) (hJ : RI w no J N f os) (hB : RB w no B n c b)
    (hn : n = 4 ∨ n = 16) (hal : ∀ a ∈ al, a.length = n ∧ mapd a = false) (hos : ∀ z ∈ os, 0 ≤ z ∧ z ≤ 8 * (n : Int)) (hmb : mapd b = false) (hW : Below w.heap.size w W) :
    Calls Try.prog 22 #[.slice L N e, .slice J N f, .slice B n c] W fun e w' => e = .returned (.int .i64 (holdL al os b : Int)) ∧ Below w.heap.size w w' :=
  (holding_any L J B N e f n c al os b W (hL.below hW) (hJ.below hW) (hB.below hW) hn hal hos hmb).mono fun e w' h => ⟨h.1, hW.trans (h.2.mono hW.size)⟩
end Go.Proofs.Ytknajppjgdhbfaa
