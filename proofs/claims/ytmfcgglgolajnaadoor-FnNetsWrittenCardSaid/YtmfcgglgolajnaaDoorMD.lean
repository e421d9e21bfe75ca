/-
  Joined: PA, PIP, PEach, FRead.
-/
import Derived.Test.YtmfcgglgolajnaaDoorMC
import Derived.Test.YtmfcgglgolajnaaDoorMB
/-
  The contract of netip.ParseAddr, given what parseIPv6 says.
-/
namespace Go.Proofs.YtmfcgglgolajnaaDoor
open Go.RowKit
set_option linter.unusedVariables false

/-- What ParseAddr says, given what parseIPv6 says. -/
def pa (s : List UInt8) (g4 o4 : Nat) (r6 : Option Value) : Option Value := if scanL s = some 46 then (v4go s 0 0 []).map (addr4 g4 o4) else if scanL s = some 58 then r6 else none

/-- An address' cells. -/
theorem addr_flat {s : List UInt8} {g4 o4 : Nat} {v : Value} (h : (v4go s 0 0 []).map (addr4 g4 o4) = some v) : ∃ hi lo p, v = addrV hi lo p ∨ v = .nilIface := by
  cases hv : v4go s 0 0 [] with
  | none => rw [hv] at h; cases h
  | some fs =>
    rw [hv] at h
    injection h with h
    unfold addr4 at h
    split at h
    · exact ⟨_, _, _, Or.inl h.symm⟩
    · exact ⟨0, 0, none, Or.inr h.symm⟩

/-- Whatever comes back is an address. -/
def AddrLike (r : Option Value) : Prop := ∀ v, r = some v → ∃ hi lo p, v = addrV hi lo p

set_option maxRecDepth 100000 in
set_option maxHeartbeats 1600000 in
theorem parseAddr_any (s : List UInt8) (w : World) (g4 o4 g6 o6 : Nat) (r6 : Option Value) (hz : ZIs w g4 o4 g6 o6) (hs : s.length ≤ 140737488351232) (hl4 : AddrLike ((v4go s 0 0 []).map (addr4 g4 o4))) (hl6 : AddrLike r6)
    (h6 : scanL s = some 58 → ∀ W, Below w.heap.size w W → Calls Tryd.prog 69 #[.string ⟨s.toArray⟩] W (RetAE W r6)) :
    Calls Tryd.prog 58 #[.string ⟨s.toArray⟩] w (RetAE w (pa s g4 o4 r6)) := by
  have Hz := hide hz
  have H6 := hide h6
  have Hl4 := hide hl4
  have Hl6 := hide hl6
  clear hz h6 hl4 hl6
  go_enter Tryd.func58, Tryd.ntmps58
  go_wp2_with fail
  generalize hW : w.alloc (.cells #[.int .u64 0, .int .u64 0, .pointer none] 89) = W1 at *
  have Hbw : Hid (Below w.heap.size w W1) := hide (by rw [← hW]; exact (Below.refl _ _).alloc (Nat.le_refl _) _)
  have hbr : Blk W1 w.heap.size 89 [.int .u64 0, .int .u64 0, .pointer none] := by
    rw [← hW]
    exact Blk.new w 89 [.int .u64 0, .int .u64 0, .pointer none]
  have Hbr := hide hbr
  clear hW hbr
  go_loop [4] (fun x => ∃ i : Nat, i ≤ s.length ∧ x = .int .i64 i ∧ scanL (s.drop i) = scanL s) (fun x => s.length - (intOf x).toNat)
  case atStart => exact ⟨0, Nat.zero_le _, rfl, rfl⟩
  case round =>
    obtain ⟨i, hi, rfl, hsc⟩ := hrel
    have Hsc := hide hsc
    clear hsc
    by_cases hlt : i < s.length
    · obtain ⟨x, hx⟩ : ∃ x, s[i]? = some x := ⟨_, List.getElem?_eq_getElem hlt⟩
      have k1 : (0 : Int) ≤ i := by omega
      have k2 : (i : Int) < s.length := by omega
      have hgx : (ByteArray.mk s.toArray)[i]'(by simpa [ByteArray.size] using hlt) = x := by
        have h := hx
        rw [List.getElem?_eq_getElem hlt] at h
        exact Option.some.inj h
      have hdr : s.drop i = x :: s.drop (i + 1) := by
        rw [List.getElem?_eq_getElem hlt] at hx
        injection hx with hx
        rw [← hx]
        exact (List.getElem_cons_drop hlt).symm
      have hsc := Hsc.out
      rw [hdr] at hsc
      have Hsc1 := hide hsc
      have hx256 := lt_256 x
      clear hx hdr hsc
      have neq : ∀ n : UInt8, x ≠ n → ((x.toNat : Int) == (n.toNat : Int)) = false := fun n h => by
        rw [beq_eq_false_iff_ne]; intro e; exact h (UInt8.toNat_inj.1 (by omega))
      by_cases h46 : x = 46
      · subst h46
        have hs46 : scanL s = some 46 := by rw [← Hsc1.out]; rfl
        have Hpa : Hid (pa s g4 o4 r6 = (v4go s 0 0 []).map (addr4 g4 o4)) := hide (by unfold pa; rw [if_pos hs46])
        have Hc := hide (parse4_any s W1 g4 o4 g6 o6 (Hz.out.below Hbw.out) hs)
        clear hs46 neq
        go_wp2_with fail
        with_reducible refine Hc.out.mono ?_
        rintro e W2 ⟨h2, hb2⟩
        have hbr2 := Hbr.out.below hb2
        have e0 : W2.cell? ⟨w.heap.size, 0, none⟩ = some (.int .u64 0) := hbr2.cell 0
        have e1 : W2.cell? ⟨w.heap.size, 1, none⟩ = some (.int .u64 0) := hbr2.cell 1
        have e2 : W2.cell? ⟨w.heap.size, 2, none⟩ = some (.pointer none) := hbr2.cell 2
        have fz : ∀ i, W2.frozen? ⟨w.heap.size, i, none⟩ = false := fun i => hbr2.frozen i
        have Hb2 := hide (Hbw.out.trans (hb2.mono Hbw.out.size))
        clear hb2 hbr2 Hc
        rcases h2 with ⟨v, hv, rfl⟩ | ⟨hno, T, v, rfl⟩
        · obtain ⟨hi', lo', p', rfl⟩ := Hl4.out v hv
          have Hv := hide hv
          clear hv
          unfold addrV
          go_wp2_with fail
          refine bodyPost_ret (v := .tuple #[addrV hi' lo' p', .nilIface]) (by simp [results, Tryd.results58, addrV, go_sem, *]) rfl ?_
          refine ⟨Or.inl ⟨_, by rw [Hpa.out]; exact Hv.out, rfl⟩, ?_⟩
          iterate 3 refine Below.setCell ?_ (by simp) _
          exact Hb2.out
        · have Hno := hide hno
          clear hno
          unfold addrV
          go_wp2_with fail
          refine bodyPost_ret (v := .tuple #[addrV 0 0 none, .iface T v]) (by simp [results, Tryd.results58, addrV, go_sem, *]) rfl ?_
          refine ⟨Or.inr ⟨by rw [Hpa.out]; exact Hno.out, T, v, rfl⟩, ?_⟩
          iterate 3 refine Below.setCell ?_ (by simp) _
          exact Hb2.out
      · have q46 : ((x.toNat : Int) == 46) = false := neq 46 h46
        by_cases h58 : x = 58
        · subst h58
          have hs58 : scanL s = some 58 := by rw [← Hsc1.out]; rfl
          have Hpa : Hid (pa s g4 o4 r6 = r6) := hide (by unfold pa; rw [if_neg (by rw [hs58]; decide), if_pos hs58])
          have Hc := hide (H6.out hs58 W1 Hbw.out)
          clear hs58 neq h46
          go_wp2_with fail
          with_reducible refine Hc.out.mono ?_
          rintro e W2 ⟨h2, hb2⟩
          have hbr2 := Hbr.out.below hb2
          have e0 : W2.cell? ⟨w.heap.size, 0, none⟩ = some (.int .u64 0) := hbr2.cell 0
          have e1 : W2.cell? ⟨w.heap.size, 1, none⟩ = some (.int .u64 0) := hbr2.cell 1
          have e2 : W2.cell? ⟨w.heap.size, 2, none⟩ = some (.pointer none) := hbr2.cell 2
          have fz : ∀ i, W2.frozen? ⟨w.heap.size, i, none⟩ = false := fun i => hbr2.frozen i
          have Hb2 := hide (Hbw.out.trans (hb2.mono Hbw.out.size))
          clear hb2 hbr2 Hc
          rcases h2 with ⟨v, hv, rfl⟩ | ⟨hno, T, v, rfl⟩
          · obtain ⟨hi', lo', p', rfl⟩ := Hl6.out v hv
            have Hv := hide hv
            clear hv
            unfold addrV
            go_wp2_with fail
            refine bodyPost_ret (v := .tuple #[addrV hi' lo' p', .nilIface]) (by simp [results, Tryd.results58, addrV, go_sem, *]) rfl ?_
            refine ⟨Or.inl ⟨_, by rw [Hpa.out]; exact Hv.out, rfl⟩, ?_⟩
            iterate 3 refine Below.setCell ?_ (by simp) _
            exact Hb2.out
          · have Hno := hide hno
            clear hno
            unfold addrV
            go_wp2_with fail
            refine bodyPost_ret (v := .tuple #[addrV 0 0 none, .iface T v]) (by simp [results, Tryd.results58, addrV, go_sem, *]) rfl ?_
            refine ⟨Or.inr ⟨by rw [Hpa.out]; exact Hno.out, T, v, rfl⟩, ?_⟩
            iterate 3 refine Below.setCell ?_ (by simp) _
            exact Hb2.out
        · have q58 : ((x.toNat : Int) == 58) = false := neq 58 h58
          by_cases h37 : x = 37
          · subst h37
            have hs37 : scanL s = some 37 := by rw [← Hsc1.out]; rfl
            have Hpa : Hid (pa s g4 o4 r6 = none) := hide (by unfold pa; rw [if_neg (by rw [hs37]; decide), if_neg (by rw [hs37]; decide)])
            clear hs37 neq h46 h58
            have hbr1 := Hbr.out
            have e0 : W1.cell? ⟨w.heap.size, 0, none⟩ = some (.int .u64 0) := hbr1.cell 0
            have e1 : W1.cell? ⟨w.heap.size, 1, none⟩ = some (.int .u64 0) := hbr1.cell 1
            have e2 : W1.cell? ⟨w.heap.size, 2, none⟩ = some (.pointer none) := hbr1.cell 2
            have fz : ∀ i, W1.frozen? ⟨w.heap.size, i, none⟩ = false := fun i => hbr1.frozen i
            clear hbr1
            go_wp2_with fail
            refine bodyPost_ret (v := .tuple #[addrV 0 0 none, .iface _ _]) (by simp [results, Tryd.results58, addrV, go_sem, *]; exact ⟨rfl, rfl⟩) rfl ?_
            refine ⟨Or.inr ⟨Hpa.out, _, _, rfl⟩, ?_⟩
            iterate 3 refine Below.setCell ?_ (by simp) _
            exact Hbw.out
          · have q37 : ((x.toNat : Int) == 37) = false := neq 37 h37
            have Hnext : Hid (scanL (s.drop (i + 1)) = scanL s) := hide (by
              rw [← Hsc1.out]
              unfold scanL
              rw [List.find?_cons_of_neg (by unfold isSpec; simp [h46, h58, h37])])
            clear neq h46 h58 h37
            go_wp2_with fail
            go_round
            case rel => exact ⟨i + 1, by omega, by go_num, Hnext.out⟩
            case measure => simp [intOf]; omega
    · obtain rfl : i = s.length := by omega
      have Hpa : Hid (pa s g4 o4 r6 = none) := hide (by
        have h := Hsc.out
        rw [List.drop_length] at h
        have h' : scanL s = none := h.symm
        unfold pa
        rw [if_neg (by rw [h']; simp), if_neg (by rw [h']; simp)])
      have hbr1 := Hbr.out
      have e0 : W1.cell? ⟨w.heap.size, 0, none⟩ = some (.int .u64 0) := hbr1.cell 0
      have e1 : W1.cell? ⟨w.heap.size, 1, none⟩ = some (.int .u64 0) := hbr1.cell 1
      have e2 : W1.cell? ⟨w.heap.size, 2, none⟩ = some (.pointer none) := hbr1.cell 2
      have fz : ∀ i, W1.frozen? ⟨w.heap.size, i, none⟩ = false := fun i => hbr1.frozen i
      clear hbr1
      go_wp2_with fail
      refine bodyPost_ret (v := .tuple #[addrV 0 0 none, .iface _ _]) (by simp [results, Tryd.results58, addrV, go_sem, *]; exact ⟨rfl, rfl⟩) rfl ?_
      refine ⟨Or.inr ⟨Hpa.out, _, _, rfl⟩, ?_⟩
      iterate 3 refine Below.setCell ?_ (by simp) _
      exact Hbw.out
end Go.Proofs.YtmfcgglgolajnaaDoor
/-
  The contracts of net.parseIP and net.ParseIP, given what ParseAddr says (no zone).
-/
namespace Go.Proofs.YtmfcgglgolajnaaDoor
open Go.RowKit
set_option linter.unusedVariables false

/-- The address is one without a zone, its handle laid in w. -/
def NoZone (w : World) (r : Option Value) (rb : Option (List UInt8)) : Prop :=
  (r = none ∧ rb = none) ∨ ∃ hi lo g o b, r = some (addrV hi lo (some ⟨g, o, none⟩)) ∧ rb = some (be8 hi ++ be8 lo) ∧ hi < 18446744073709551616 ∧ lo < 18446744073709551616 ∧ w.cell? ⟨g, o, none⟩ = some (.bool b) ∧ w.cell? ⟨g, o + 1, none⟩ = some (.string ⟨#[]⟩)

def zeros16 : List UInt8 := List.replicate 16 0
theorem be8_length (v : Nat) : (be8 v).length = 8 := rfl

set_option maxRecDepth 100000 in
set_option maxHeartbeats 3200000 in
theorem parseip_any (s : List UInt8) (w : World) (g4 o4 g6 o6 : Nat) (r : Option Value) (rb : Option (List UInt8)) (hz : ZIs w g4 o4 g6 o6) (hr : NoZone w r rb)
    (hpa : ∀ W, Below w.heap.size w W → Calls Tryd.prog 58 #[.string ⟨s.toArray⟩] W (RetAE W r)) :
    Calls Tryd.prog 47 #[.string ⟨s.toArray⟩] w fun e w' => ((∃ bs, rb = some bs ∧ e = .returned (.tuple #[by16 bs, .bool true])) ∨ (rb = none ∧ e = .returned (.tuple #[by16 zeros16, .bool false]))) ∧ Below w.heap.size w w' := by
  have Hz := hide hz
  have Hr := hide hr
  have Hpa := hide hpa
  clear hz hr hpa
  go_enter Tryd.func47, Tryd.ntmps47
  go_wp2_with fail
  generalize hW : w.alloc (.cells #[.int .u8 0, .int .u8 0, .int .u8 0, .int .u8 0, .int .u8 0, .int .u8 0, .int .u8 0, .int .u8 0, .int .u8 0, .int .u8 0, .int .u8 0, .int .u8 0, .int .u8 0, .int .u8 0, .int .u8 0, .int .u8 0] 71) = W1 at *
  have Hbw : Hid (Below w.heap.size w W1) := hide (by rw [← hW]; exact (Below.refl _ _).alloc (Nat.le_refl _) _)
  have hbr : Blk W1 w.heap.size 71 (List.replicate 16 (.int .u8 0)) := by
    rw [← hW]
    exact Blk.new w 71 (List.replicate 16 (.int .u8 0))
  have Hbr := hide hbr
  have Hc := hide (Hpa.out W1 Hbw.out)
  clear hW hbr
  with_reducible refine Hc.out.mono ?_
  rintro e W2 ⟨h2, hb2⟩
  have Hb2 := hide hb2
  have Hbw2 := hide (Hbw.out.trans (hb2.mono Hbw.out.size))
  clear hb2 Hc Hpa
  rcases h2 with ⟨v, hv, rfl⟩ | ⟨hno, T, v, rfl⟩
  · rcases Hr.out with ⟨h1, _⟩ | ⟨hi, lo, g, o, b, h1, hrb, hh, hl, hc1, hc2⟩
    · rw [h1] at hv; cases hv
    · rw [h1] at hv
      injection hv with hv
      subst hv
      have k1 := cell_below hc1 Hbw2.out
      have k2 := cell_below hc2 Hbw2.out
      have k0 := (Hz.out.below Hbw2.out).z0
      have Hzn := hide (fun ob => zone_any hi lo g o b ⟨#[]⟩ (W2.alloc ob) (cell_alloc1 k0 ob) (cell_alloc1 k1 ob) (cell_alloc1 k2 ob))
      obtain ⟨x0, x1, x2, x3, x4, x5, x6, x7, ex, _⟩ := be8_parts hh
      obtain ⟨y0, y1, y2, y3, y4, y5, y6, y7, ey, _⟩ := be8_parts hl
      have Has : Hid (∀ W : World, Calls Tryd.prog 60 #[.agg #[.int .u64 (hi : Int), .int .u64 (lo : Int), .pointer (some ⟨g, o, none⟩)]] W fun e w' => e = .returned (.agg #[.int .u8 (x0.toNat : Int), .int .u8 (x1.toNat : Int), .int .u8 (x2.toNat : Int), .int .u8 (x3.toNat : Int), .int .u8 (x4.toNat : Int), .int .u8 (x5.toNat : Int), .int .u8 (x6.toNat : Int), .int .u8 (x7.toNat : Int), .int .u8 (y0.toNat : Int), .int .u8 (y1.toNat : Int), .int .u8 (y2.toNat : Int), .int .u8 (y3.toNat : Int), .int .u8 (y4.toNat : Int), .int .u8 (y5.toNat : Int), .int .u8 (y6.toNat : Int), .int .u8 (y7.toNat : Int)]) ∧ Below W.heap.size W w') := hide (fun (W : World) => by
        have h := as16_any hi lo (some ⟨g, o, none⟩) W hh hl
        rw [ex, ey] at h
        exact h)
      rw [ex, ey] at hrb
      have Hrb := hide hrb
      clear h1 hrb hc1 hc2 k0 k1 k2 ex ey
      unfold addrV at *
      go_wp2_with fail
      refine (Hzn.out _).mono ?_
      rintro e W3 ⟨rfl, hb3⟩
      have hba := (Blk.new W2 89 [.int .u64 (hi : Int), .int .u64 (lo : Int), .pointer (some ⟨g, o, none⟩)]).below hb3
      have m0 : W3.cell? ⟨W2.heap.size, 0, none⟩ = some (.int .u64 (hi : Int)) := hba.cell 0
      have m1 : W3.cell? ⟨W2.heap.size, 1, none⟩ = some (.int .u64 (lo : Int)) := hba.cell 1
      have m2 : W3.cell? ⟨W2.heap.size, 2, none⟩ = some (.pointer (some ⟨g, o, none⟩)) := hba.cell 2
      have hb23 : Below W2.heap.size W2 W3 := ((Below.refl _ _).alloc (Nat.le_refl _) _).trans (hb3.mono (by simp))
      have Hb23 := hide hb23
      clear hb3 hba hb23 Hzn
      go_wp2_with fail
      with_reducible refine (Has.out W3).mono ?_
      rintro e W4 ⟨rfl, hb4⟩
      have hb14 : Below W1.heap.size W1 W4 := (Hb2.out.trans (Hb23.out.mono Hb2.out.size)).trans (hb4.mono (Nat.le_trans Hb2.out.size Hb23.out.size))
      have hbr4 := Hbr.out.below hb14
      have d0 : W4.cell? ⟨w.heap.size, 0, none⟩ = some (.int .u8 0) := hbr4.cell 0
      have d1 : W4.cell? ⟨w.heap.size, 1, none⟩ = some (.int .u8 0) := hbr4.cell 1
      have d2 : W4.cell? ⟨w.heap.size, 2, none⟩ = some (.int .u8 0) := hbr4.cell 2
      have d3 : W4.cell? ⟨w.heap.size, 3, none⟩ = some (.int .u8 0) := hbr4.cell 3
      have d4 : W4.cell? ⟨w.heap.size, 4, none⟩ = some (.int .u8 0) := hbr4.cell 4
      have d5 : W4.cell? ⟨w.heap.size, 5, none⟩ = some (.int .u8 0) := hbr4.cell 5
      have d6 : W4.cell? ⟨w.heap.size, 6, none⟩ = some (.int .u8 0) := hbr4.cell 6
      have d7 : W4.cell? ⟨w.heap.size, 7, none⟩ = some (.int .u8 0) := hbr4.cell 7
      have d8 : W4.cell? ⟨w.heap.size, 8, none⟩ = some (.int .u8 0) := hbr4.cell 8
      have d9 : W4.cell? ⟨w.heap.size, 9, none⟩ = some (.int .u8 0) := hbr4.cell 9
      have d10 : W4.cell? ⟨w.heap.size, 10, none⟩ = some (.int .u8 0) := hbr4.cell 10
      have d11 : W4.cell? ⟨w.heap.size, 11, none⟩ = some (.int .u8 0) := hbr4.cell 11
      have d12 : W4.cell? ⟨w.heap.size, 12, none⟩ = some (.int .u8 0) := hbr4.cell 12
      have d13 : W4.cell? ⟨w.heap.size, 13, none⟩ = some (.int .u8 0) := hbr4.cell 13
      have d14 : W4.cell? ⟨w.heap.size, 14, none⟩ = some (.int .u8 0) := hbr4.cell 14
      have d15 : W4.cell? ⟨w.heap.size, 15, none⟩ = some (.int .u8 0) := hbr4.cell 15
      have fz : ∀ i, W4.frozen? ⟨w.heap.size, i, none⟩ = false := fun i => hbr4.frozen i
      have Hbw4 := hide (Hbw.out.trans (hb14.mono Hbw.out.size))
      clear hb4 hb14 hbr4 m0 m1 m2
      go_wp2_with fail
      refine bodyPost_ret (v := .tuple #[by16 [x0, x1, x2, x3, x4, x5, x6, x7, y0, y1, y2, y3, y4, y5, y6, y7], .bool true]) (by simp [results, Tryd.results47, by16, go_sem, *]) rfl ?_
      refine ⟨Or.inl ⟨_, Hrb.out, rfl⟩, ?_⟩
      iterate 16 refine Below.setCell ?_ (by simp) _
      exact Hbw4.out
  · have hrn : rb = none := by
      rcases Hr.out with ⟨_, h⟩ | ⟨hi, lo, g, o, b, h1, _⟩
      · exact h
      · rw [h1] at hno; cases hno
    have Hrn := hide hrn
    have hb12 : Below W1.heap.size W1 W2 := Hb2.out
    have hbr4 := Hbr.out.below hb12
    have d0 : ∀ ob, (W2.alloc ob).cell? ⟨w.heap.size, 0, none⟩ = some (.int .u8 0) := fun ob => (hbr4.alloc ob).cell 0
    have d1 : ∀ ob, (W2.alloc ob).cell? ⟨w.heap.size, 1, none⟩ = some (.int .u8 0) := fun ob => (hbr4.alloc ob).cell 1
    have d2 : ∀ ob, (W2.alloc ob).cell? ⟨w.heap.size, 2, none⟩ = some (.int .u8 0) := fun ob => (hbr4.alloc ob).cell 2
    have d3 : ∀ ob, (W2.alloc ob).cell? ⟨w.heap.size, 3, none⟩ = some (.int .u8 0) := fun ob => (hbr4.alloc ob).cell 3
    have d4 : ∀ ob, (W2.alloc ob).cell? ⟨w.heap.size, 4, none⟩ = some (.int .u8 0) := fun ob => (hbr4.alloc ob).cell 4
    have d5 : ∀ ob, (W2.alloc ob).cell? ⟨w.heap.size, 5, none⟩ = some (.int .u8 0) := fun ob => (hbr4.alloc ob).cell 5
    have d6 : ∀ ob, (W2.alloc ob).cell? ⟨w.heap.size, 6, none⟩ = some (.int .u8 0) := fun ob => (hbr4.alloc ob).cell 6
    have d7 : ∀ ob, (W2.alloc ob).cell? ⟨w.heap.size, 7, none⟩ = some (.int .u8 0) := fun ob => (hbr4.alloc ob).cell 7
    have d8 : ∀ ob, (W2.alloc ob).cell? ⟨w.heap.size, 8, none⟩ = some (.int .u8 0) := fun ob => (hbr4.alloc ob).cell 8
    have d9 : ∀ ob, (W2.alloc ob).cell? ⟨w.heap.size, 9, none⟩ = some (.int .u8 0) := fun ob => (hbr4.alloc ob).cell 9
    have d10 : ∀ ob, (W2.alloc ob).cell? ⟨w.heap.size, 10, none⟩ = some (.int .u8 0) := fun ob => (hbr4.alloc ob).cell 10
    have d11 : ∀ ob, (W2.alloc ob).cell? ⟨w.heap.size, 11, none⟩ = some (.int .u8 0) := fun ob => (hbr4.alloc ob).cell 11
    have d12 : ∀ ob, (W2.alloc ob).cell? ⟨w.heap.size, 12, none⟩ = some (.int .u8 0) := fun ob => (hbr4.alloc ob).cell 12
    have d13 : ∀ ob, (W2.alloc ob).cell? ⟨w.heap.size, 13, none⟩ = some (.int .u8 0) := fun ob => (hbr4.alloc ob).cell 13
    have d14 : ∀ ob, (W2.alloc ob).cell? ⟨w.heap.size, 14, none⟩ = some (.int .u8 0) := fun ob => (hbr4.alloc ob).cell 14
    have d15 : ∀ ob, (W2.alloc ob).cell? ⟨w.heap.size, 15, none⟩ = some (.int .u8 0) := fun ob => (hbr4.alloc ob).cell 15
    have fz : ∀ ob i, (W2.alloc ob).frozen? ⟨w.heap.size, i, none⟩ = false := fun ob i => (hbr4.alloc ob).frozen i
    have Hal : Hid (∀ ob, Below w.heap.size w (W2.alloc ob)) := hide (fun ob => Hbw2.out.alloc Hbw2.out.size ob)
    clear hno hrn hb12 hbr4
    unfold addrV
    go_wp2_with fail
    refine bodyPost_ret (v := .tuple #[by16 zeros16, .bool false]) (by simp [results, Tryd.results47, by16, zeros16, go_sem, *]) rfl ?_
    refine ⟨Or.inr ⟨Hrn.out, rfl⟩, ?_⟩
    iterate 16 refine Below.setCell ?_ (by simp) _
    exact Hal.out _

/-- What ParseIP hands back. -/
def RetP (w : World) (rb : Option (List UInt8)) (e : Ending) (w' : World) : Prop :=
  ((∃ bs g, rb = some bs ∧ bs.length = 16 ∧ e = .returned (.slice (some ⟨g, 0, none⟩) 16 16) ∧ RB w' no (some ⟨g, 0, none⟩) 16 16 bs) ∨ (rb = none ∧ e = .returned (.slice none 0 0))) ∧ Below w.heap.size w w'

set_option maxRecDepth 100000 in
set_option maxHeartbeats 3200000 in
theorem parseIP_any (s : List UInt8) (w : World) (rb : Option (List UInt8)) (hlen : ∀ bs, rb = some bs → bs.length = 16)
    (hp : Calls Tryd.prog 47 #[.string ⟨s.toArray⟩] w fun e w' => ((∃ bs, rb = some bs ∧ e = .returned (.tuple #[by16 bs, .bool true])) ∨ (rb = none ∧ e = .returned (.tuple #[by16 zeros16, .bool false]))) ∧ Below w.heap.size w w') :
    Calls Tryd.prog 37 #[.string ⟨s.toArray⟩] w (RetP w rb) := by
  have Hp := hide hp
  have Hlen := hide hlen
  clear hp hlen
  go_enter Tryd.func37, Tryd.ntmps37
  go_wp2_with fail
  with_reducible refine Hp.out.mono ?_
  rintro e W1 ⟨h1, hb1⟩
  have Hb1 := hide hb1
  have Hal : Hid (∀ ob, Below w.heap.size w (W1.alloc ob)) := hide (fun ob => hb1.alloc hb1.size ob)
  clear hb1 Hp
  rcases h1 with ⟨bs, hbs, rfl⟩ | ⟨hno, rfl⟩
  · have hl := Hlen.out bs hbs
    obtain ⟨x0, x1, x2, x3, x4, x5, x6, x7, x8, x9, x10, x11, x12, x13, x14, x15, rfl⟩ : ∃ x0 x1 x2 x3 x4 x5 x6 x7 x8 x9 x10 x11 x12 x13 x14 x15, bs = [x0, x1, x2, x3, x4, x5, x6, x7, x8, x9, x10, x11, x12, x13, x14, x15] := by
      match bs, hl with
      | [x0, x1, x2, x3, x4, x5, x6, x7, x8, x9, x10, x11, x12, x13, x14, x15], _ => exact ⟨x0, x1, x2, x3, x4, x5, x6, x7, x8, x9, x10, x11, x12, x13, x14, x15, rfl⟩
    have Hbs := hide hbs
    have Hrb : Hid (RB (W1.alloc (.cells #[.int .u8 (x0.toNat : Int), .int .u8 (x1.toNat : Int), .int .u8 (x2.toNat : Int), .int .u8 (x3.toNat : Int), .int .u8 (x4.toNat : Int), .int .u8 (x5.toNat : Int), .int .u8 (x6.toNat : Int), .int .u8 (x7.toNat : Int), .int .u8 (x8.toNat : Int), .int .u8 (x9.toNat : Int), .int .u8 (x10.toNat : Int), .int .u8 (x11.toNat : Int), .int .u8 (x12.toNat : Int), .int .u8 (x13.toNat : Int), .int .u8 (x14.toNat : Int), .int .u8 (x15.toNat : Int)] 71)) no (some ⟨W1.heap.size, 0, none⟩) 16 16 [x0, x1, x2, x3, x4, x5, x6, x7, x8, x9, x10, x11, x12, x13, x14, x15]) :=
      hide ((Blk.new W1 71 ([x0, x1, x2, x3, x4, x5, x6, x7, x8, x9, x10, x11, x12, x13, x14, x15].map fun b => Value.int .u8 (b.toNat : Int))).rb (fun h => h) rfl (Nat.le_refl _) (by unfold maxLen; omega))
    clear hbs hl
    unfold by16
    simp only [List.map]
    go_wp2_with fail
    go_ret
    exact ⟨Or.inl ⟨_, _, Hbs.out, rfl, rfl, Hrb.out⟩, Hal.out _⟩
  · have Hno := hide hno
    clear hno
    unfold by16 zeros16
    simp only [List.map, List.replicate]
    go_wp2_with fail
    go_ret
    exact ⟨Or.inr ⟨Hno.out, rfl⟩, Hal.out _⟩
end Go.Proofs.YtmfcgglgolajnaaDoor
/-
  The contracts of ParseEach, fOne and fRead, at texts without a colon ahead of the first full stop.
-/
namespace Go.Proofs.YtmfcgglgolajnaaDoor
open Go.RowKit
set_option linter.unusedVariables false

theorem v4go_length : ∀ (s : List UInt8) (val dl : Nat) (done fs : List UInt8), done.length ≤ 3 → v4go s val dl done = some fs → fs.length = 4
  | [], val, dl, done, fs, hd, h => by
    rw [v4go] at h
    split at h
    · cases h
    · injection h with h; subst h; simp; omega
  | c :: cs, val, dl, done, fs, hd, h => by
    rw [v4go] at h
    split at h
    · split at h
      · cases h
      · split at h
        · cases h
        · exact v4go_length cs _ _ _ _ hd h
    · split at h
      · split at h
        · cases h
        · split at h
          · cases h
          · exact v4go_length cs _ _ _ _ (by simp; omega) h
      · cases h
theorem u8_of {n : Nat} {x : UInt8} (h : n % 256 = x.toNat) : UInt8.ofNat n = x := UInt8.toNat_inj.1 (by rw [UInt8.toNat_ofNat']; exact h)
theorem be8_lo4 (a b c d : UInt8) : be8 0 ++ be8 (lo4 a b c d) = pre12 ++ [a, b, c, d] := by
  have ha := a.toNat_lt
  have hb := b.toNat_lt
  have hc := c.toNat_lt
  have hd := d.toNat_lt
  have e0 : be8 0 = [0, 0, 0, 0, 0, 0, 0, 0] := by decide
  have e : be8 (lo4 a b c d) = [0, 0, 255, 255, a, b, c, d] := by
    unfold be8 lo4
    rw [u8_of (x := 0) (by simp; omega), u8_of (x := 0) (by simp; omega), u8_of (x := 255) (by simp; omega), u8_of (x := 255) (by simp; omega), u8_of (x := a) (by omega), u8_of (x := b) (by omega), u8_of (x := c) (by omega), u8_of (x := d) (by omega)]
  rw [e0, e]
  rfl

/-- What a text of dotted decimal is read to: 16 bytes, or nothing. -/
def read4 (s : List UInt8) : Option (List UInt8) := if scanL s = some 46 then (v4go s 0 0 []).map (pre12 ++ ·) else none
theorem noZone4 {w : World} {g4 o4 g6 o6 : Nat} (s : List UInt8) (hz : ZIs w g4 o4 g6 o6) (hc : scanL s ≠ some 58) : NoZone w (pa s g4 o4 none) (read4 s) := by
  unfold pa read4
  by_cases h46 : scanL s = some 46
  · rw [if_pos h46, if_pos h46]
    cases hv : v4go s 0 0 [] with
    | none => exact Or.inl ⟨rfl, rfl⟩
    | some fs =>
      have hl := v4go_length s 0 0 [] fs (by simp) hv
      match fs, hl with
      | [a, b, c, d], _ =>
        right
        refine ⟨0, lo4 a b c d, g4, o4, false, rfl, ?_, by omega, ?_, hz.b4, hz.s4⟩
        · rw [be8_lo4]; rfl
        · have := a.toNat_lt; have := b.toNat_lt; have := c.toNat_lt; have := d.toNat_lt; unfold lo4; omega
  · rw [if_neg h46, if_neg h46, if_neg hc]
    exact Or.inl ⟨rfl, rfl⟩
theorem addrLike4 (s : List UInt8) (g4 o4 : Nat) : AddrLike ((v4go s 0 0 []).map (addr4 g4 o4)) := by
  intro v hv
  cases h : v4go s 0 0 [] with
  | none => rw [h] at hv; cases hv
  | some fs =>
    have hl := v4go_length s 0 0 [] fs (by simp) h
    rw [h] at hv
    injection hv with hv
    match fs, hl with
    | [a, b, c, d], _ => exact ⟨_, _, _, hv.symm⟩
theorem read4_len {s bs : List UInt8} (h : read4 s = some bs) : bs.length = 16 := by
  unfold read4 at h
  split at h
  · cases hv : v4go s 0 0 [] with
    | none => rw [hv] at h; cases h
    | some fs =>
      rw [hv] at h
      injection h with h
      subst h
      have := v4go_length s 0 0 [] fs (by simp) hv
      simp [pre12, this]
  · cases h

theorem parseIP4_any (s : List UInt8) (w : World) (g4 o4 g6 o6 : Nat) (hz : ZIs w g4 o4 g6 o6) (hs : s.length ≤ 140737488351232) (hc : scanL s ≠ some 58) :
    Calls Tryd.prog 37 #[.string ⟨s.toArray⟩] w (RetP w (read4 s)) :=
  parseIP_any s w (read4 s) (fun bs h => read4_len h)
    (parseip_any s w g4 o4 g6 o6 (pa s g4 o4 none) (read4 s) hz (noZone4 s hz hc)
      (fun W hW => parseAddr_any s W g4 o4 g6 o6 none (hz.below hW) hs (addrLike4 s g4 o4) (fun v h => by cases h) (fun h => absurd h hc)))

def readB (s : List UInt8) : List UInt8 := (read4 s).getD []
theorem readB_snoc {ss : List (List UInt8)} {k : Nat} {s : List UInt8} (h : ss[k]? = some s) : (ss.take (k + 1)).map readB = (ss.take k).map readB ++ [readB s] := by rw [take_snoc h]; simp

set_option maxRecDepth 100000 in
set_option maxHeartbeats 1600000 in
theorem parseEach_any (L : Option Addr) (N e : Nat) (ss : List (List UInt8)) (w : World) (g4 o4 g6 o6 : Nat) (hL : RS w no L N e ss) (hN : N * 24 ≤ 140737488351232) (hz : ZIs w g4 o4 g6 o6) (hall : ∀ s ∈ ss, s.length ≤ 140737488351232 ∧ scanL s ≠ some 58) :
    Calls Tryd.prog 21 #[.slice L N e] w (RetBB w (ss.map readB)) := by
  obtain ⟨i0, hi, hz0, hz1, hz2⟩ := info_parts bytes_info
  have HL := hide hL
  have Hz := hide hz
  have Hall := hide hall
  have Hst := hide (Made.start no w)
  clear hL hz hall
  go_enter Tryd.func21, Tryd.ntmps21
  go_wp2_with fail
  go_loopw [3, 9] (fun v i wr => ∃ k : Nat, k ≤ N ∧ i = .int .i64 k ∧ Made no w ((ss.take k).map readB) v wr) (fun _ i _ => N - (intOf i).toNat)
  case atStart => exact ⟨0, Nat.zero_le _, rfl, Hst.out⟩
  case round =>
    obtain ⟨k, hk, rfl, hr⟩ := hrel
    have Hr := hide hr
    by_cases hlt : k < N
    · obtain ⟨xs, h1, h2, h3⟩ := hr
      obtain ⟨g, o, s, rfl, hsk, hc⟩ := (HL.out.below h3).at_ hlt
      obtain ⟨hsl, hsc⟩ := Hall.out s (List.mem_of_getElem? hsk)
      have Hcall := hide (parseIP4_any s wr g4 o4 g6 o6 (Hz.out.below h3) hsl hsc)
      have Hsn := hide (readB_snoc hsk)
      have hlen : ((ss.take k).map readB).length = k := by rw [List.length_map, List.length_take, HL.out.len]; omega
      rw [hlen] at h1
      have Hlen := hide hlen
      have H1 := hide h1
      have H2 := hide h2
      have H3 := hide h3
      have Hown : Hid (∀ g, rowOf u3 g → g < wr.heap.size) := hide fun g h => (h1.lt g h).2
      have Hread : Hid (∀ bs, read4 s = some bs → readB s = bs) := hide (fun bs h => by unfold readB; rw [h]; rfl)
      have Hread0 : Hid (read4 s = none → readB s = []) := hide (fun h => by unfold readB; rw [h]; rfl)
      generalize readB s = rb at *
      generalize (ss.take k).map readB = al at *
      clear h1 h2 h3 hsk hsl hsc hlen Hr
      go_wp2_with fail
      with_reducible refine Hcall.out.mono ?_
      rintro e W1 ⟨h1, hb1⟩
      obtain ⟨A1, c1, m1, rfl, hrb, hm1⟩ : ∃ A1 c1 m1, e = .returned (.slice A1 m1 c1) ∧ RB W1 no A1 m1 c1 rb ∧ m1 ≤ 16 := by
        rcases h1 with ⟨bs, g, h, hl, he, hr⟩ | ⟨h, he⟩
        · rw [Hread.out bs h]; exact ⟨_, _, _, he, hr, Nat.le_refl _⟩
        · rw [Hread0.out h]; exact ⟨_, _, _, he, RB.nil, Nat.zero_le _⟩
      have Hf := hide (formBytes_own A1 m1 c1 rb W1 no hrb (by omega))
      have Hb1 := hide hb1
      clear h1 hb1 hrb Hcall
      go_wp2_with fail
      with_reducible refine Hf.out.mono ?_
      rintro e W2 ⟨vc, rfl, hcv, hb2⟩
      have hb12 : Below wr.heap.size wr W2 := Hb1.out.trans (hb2.mono Hb1.out.size)
      obtain ⟨A2, c2, rfl, hr2⟩ := RB.of_own_av (av := fun g => no g ∨ rowOf u3 g) hcv (by
        intro g hg
        rcases hg with hg | hg
        · exact hg.elim
        · have := Hown.out g hg; have := Hb1.out.size; omega)
      have h1' := own_below H1.out hb12
      have H1' := hide h1'
      have H2' := hide (H2.out.keep (Kept.of_below hb12 _))
      have hb3 := H3.out.trans (hb12.mono H3.out.size)
      have H3' := hide hb3
      have Hr2 := hide hr2
      have hsz := hb3.size
      have Ha := hide (h1'.alloc (.cells #[.slice A2 m1 c2] 22))
      clear hcv hb2 hb12 hr2 h1' hb3 Hf
      go_wp2_with (at_builtin; refine wpList_append_rd _ rfl (.tmp 13) (.tmp 17) _ rfl w.heap.size 22 i0 _ 24 Tryd.underlying27 hi hz0 hz1 hz2 rfl _ k _ rfl Ha.out no (some ⟨W2.heap.size, 0, none⟩) 1 1 [.slice A2 m1 c2] rfl ?_ ?_ ?_ ?_ ?_ ?_)
      · exact Rd.one W2 _ _ no (fun h => h)
      · first | rfl | (intro u hu; simp at hu; subst hu; rfl)
      · unfold maxLen; omega
      · omega
      · first | omega | (simp; omega)
      intro v' w3 q1 q2 q3
      have hM := Made.step (by rw [Hlen.out]; exact H1'.out) H2'.out H3'.out Hr2.out (by rw [Hlen.out]; exact q1) q2 q3
      rw [← Hsn.out] at hM
      have HM := hide hM
      clear q1 q2 q3 hM
      go_wp2_with fail
      go_roundw
      case rel => exact ⟨k + 1, by omega, by go_num, HM.out⟩
      case measure => simp [intOf]; omega
    · obtain rfl : k = N := by omega
      clear hr
      go_wp2_with fail
      go_ret
      have h := Hr.out.ret
      rw [List.take_of_length_le (by rw [HL.out.len]; omega)] at h
      exact h
end Go.Proofs.YtmfcgglgolajnaaDoor
/-
  The contracts of fOne and fRead.
-/
namespace Go.Proofs.YtmfcgglgolajnaaDoor
open Go.RowKit
set_option linter.unusedVariables false

set_option maxHeartbeats 800000 in
theorem fOne_any (A B : Option Addr) (c m d : Nat) (b : List UInt8) (g o : Nat) (w : World) (hA : A = some ⟨g, o, none⟩) (hc : w.cell? ⟨g, o, none⟩ = some (.slice B m d)) :
    Calls Tryd.prog 35 #[.slice A 1 c] w fun e w' => e = .returned (.slice B m d) ∧ w = w' := by
  subst hA
  go_enter Tryd.func35, Tryd.ntmps35
  go_wp2_with fail
  go_ret
  exact ⟨rfl, rfl⟩

/-- What fRead hands back. -/
def RetRead (w : World) (bs : List UInt8) (e : Ending) (w' : World) : Prop := ∃ A c, e = .returned (.tuple #[.slice A bs.length c, .bool true]) ∧ RB w' no A bs.length c bs ∧ Below w.heap.size w w'

set_option maxRecDepth 100000 in
set_option maxHeartbeats 800000 in
theorem fRead_any (s : List UInt8) (w : World) (g4 o4 g6 o6 : Nat) (hz : ZIs w g4 o4 g6 o6) (hs : s.length ≤ 140737488351232) (hc : scanL s ≠ some 58) :
    Calls Tryd.prog 14 #[.string ⟨s.toArray⟩] w (RetRead w (readB s)) := by
  have hb0 : Below w.heap.size w (w.alloc (.cells #[.string ⟨s.toArray⟩] 9)) := (Below.refl _ _).alloc (Nat.le_refl _) _
  have hrs : RS (w.alloc (.cells #[.string ⟨s.toArray⟩] 9)) no (some ⟨w.heap.size, 0, none⟩) 1 1 [s] := ⟨rfl, Nat.le_refl _, by unfold maxLen; omega, Rd.one w _ _ no (fun h => h)⟩
  have Hc := hide (parseEach_any _ 1 1 [s] _ g4 o4 g6 o6 hrs (by omega) (hz.below hb0) (by intro t ht; simp at ht; subst ht; exact ⟨hs, hc⟩))
  have Hb0 := hide hb0
  clear hz hrs hb0 hc
  go_enter Tryd.func14, Tryd.ntmps14
  go_wp2_with fail
  with_reducible refine Hc.out.mono ?_
  rintro e w1 ⟨A1, c1, rfl, h1, hb1⟩
  rw [show ([s].map readB).length = 1 from rfl] at h1 ⊢
  obtain ⟨g, o, B, m, d, b, rfl, hbk, hcell, hb⟩ := h1.at_ (k := 0) (by omega)
  obtain rfl : b = readB s := by simp at hbk; exact hbk.symm
  obtain rfl : (readB s).length = m := hb.len
  rw [Nat.add_zero] at hcell
  have Ho := hide (fOne_any (some ⟨g, o, none⟩) B c1 _ d (readB s) g o w1 rfl hcell)
  have Hb := hide hb
  have Hb1 := hide (Hb0.out.trans (hb1.mono Hb0.out.size))
  clear h1 hbk hb hb1 Hc hcell
  go_wp2_with fail
  with_reducible refine Ho.out.mono ?_
  rintro e w2 ⟨rfl, rfl⟩
  go_wp2_with fail
  go_ret2
  exact ⟨B, d, rfl, Hb.out, Hb1.out⟩
end Go.Proofs.YtmfcgglgolajnaaDoor
