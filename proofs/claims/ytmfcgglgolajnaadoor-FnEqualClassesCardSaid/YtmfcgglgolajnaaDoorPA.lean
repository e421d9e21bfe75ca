/-
  The contract of netip.ParseAddr, given what parseIPv6 says.
-/
import Derived.Test.YtmfcgglgolajnaaDoorP4
namespace Go.Proofs.YtmfcgglgolajnaaDoor
open Go.RowKit
set_option linter.unusedVariables false

/-- What ParseAddr says, given what parseIPv6 says. -/
def pa (s : List UInt8) (g4 o4 : Nat) (r6 : Option Value) : Option Value := if scanL s = some 46 then (v4go s 0 0 []).map (addr4 g4 o4) else if scanL s = some 58 then r6 else none

/-- An address' cells. -/
theorem addr_flat {s : List UInt8} {g4 o4 : Nat} {v : Value} (h : (v4go s 0 0 []).map (addr4 g4 o4) = some v) : ∃ hi lo p, v = addrV hi lo p ∨ v = .nilIface := by
  cases hv : v4go s 0 0 [] with
  | none => rw [hv] at h; cases h
  | some fs =>
    rw [hv] at h
    injection h with h
    unfold addr4 at h
    split at h
    · exact ⟨_, _, _, Or.inl h.symm⟩
    · exact ⟨0, 0, none, Or.inr h.symm⟩

/-- Whatever comes back is an address. -/
def AddrLike (r : Option Value) : Prop := ∀ v, r = some v → ∃ hi lo p, v = addrV hi lo p

set_option maxRecDepth 100000 in
set_option maxHeartbeats 1600000 in
theorem parseAddr_any (s : List UInt8) (w : World) (g4 o4 g6 o6 : Nat) (r6 : Option Value) (hz : ZIs w g4 o4 g6 o6) (hs : s.length ≤ 140737488351232) (hl4 : AddrLike ((v4go s 0 0 []).map (addr4 g4 o4))) (hl6 : AddrLike r6)
    (h6 : scanL s = some 58 → ∀ W, Below w.heap.size w W → Calls Tryd.prog 69 #[.string ⟨s.toArray⟩] W (RetAE W r6)) :
    Calls Tryd.prog 58 #[.string ⟨s.toArray⟩] w (RetAE w (pa s g4 o4 r6)) := by
  have Hz := hide hz
  have H6 := hide h6
  have Hl4 := hide hl4
  have Hl6 := hide hl6
  clear hz h6 hl4 hl6
  go_enter Tryd.func58, Tryd.ntmps58
  go_wp2_with fail
  generalize hW : w.alloc (.cells #[.int .u64 0, .int .u64 0, .pointer none] 89) = W1 at *
  have Hbw : Hid (Below w.heap.size w W1) := hide (by rw [← hW]; exact (Below.refl _ _).alloc (Nat.le_refl _) _)
  have hbr : Blk W1 w.heap.size 89 [.int .u64 0, .int .u64 0, .pointer none] := by
    rw [← hW]
    exact Blk.new w 89 [.int .u64 0, .int .u64 0, .pointer none]
  have Hbr := hide hbr
  clear hW hbr
  go_loop [4] (fun x => ∃ i : Nat, i ≤ s.length ∧ x = .int .i64 i ∧ scanL (s.drop i) = scanL s) (fun x => s.length - (intOf x).toNat)
  case atStart => exact ⟨0, Nat.zero_le _, rfl, rfl⟩
  case round =>
    obtain ⟨i, hi, rfl, hsc⟩ := hrel
    have Hsc := hide hsc
    clear hsc
    by_cases hlt : i < s.length
    · obtain ⟨x, hx⟩ : ∃ x, s[i]? = some x := ⟨_, List.getElem?_eq_getElem hlt⟩
      have k1 : (0 : Int) ≤ i := by omega
      have k2 : (i : Int) < s.length := by omega
      have hgx : (ByteArray.mk s.toArray)[i]'(by simpa [ByteArray.size] using hlt) = x := by
        have h := hx
        rw [List.getElem?_eq_getElem hlt] at h
        exact Option.some.inj h
      have hdr : s.drop i = x :: s.drop (i + 1) := by
        rw [List.getElem?_eq_getElem hlt] at hx
        injection hx with hx
        rw [← hx]
        exact (List.getElem_cons_drop hlt).symm
      have hsc := Hsc.out
      rw [hdr] at hsc
      have Hsc1 := hide hsc
      have hx256 := lt_256 x
      clear hx hdr hsc
      have neq : ∀ n : UInt8, x ≠ n → ((x.toNat : Int) == (n.toNat : Int)) = false := fun n h => by
        rw [beq_eq_false_iff_ne]; intro e; exact h (UInt8.toNat_inj.1 (by omega))
      by_cases h46 : x = 46
      · subst h46
        have hs46 : scanL s = some 46 := by rw [← Hsc1.out]; rfl
        have Hpa : Hid (pa s g4 o4 r6 = (v4go s 0 0 []).map (addr4 g4 o4)) := hide (by unfold pa; rw [if_pos hs46])
        have Hc := hide (parse4_any s W1 g4 o4 g6 o6 (Hz.out.below Hbw.out) hs)
        clear hs46 neq
        go_wp2_with fail
        with_reducible refine Hc.out.mono ?_
        rintro e W2 ⟨h2, hb2⟩
        have hbr2 := Hbr.out.below hb2
        have e0 : W2.cell? ⟨w.heap.size, 0, none⟩ = some (.int .u64 0) := hbr2.cell 0
        have e1 : W2.cell? ⟨w.heap.size, 1, none⟩ = some (.int .u64 0) := hbr2.cell 1
        have e2 : W2.cell? ⟨w.heap.size, 2, none⟩ = some (.pointer none) := hbr2.cell 2
        have fz : ∀ i, W2.frozen? ⟨w.heap.size, i, none⟩ = false := fun i => hbr2.frozen i
        have Hb2 := hide (Hbw.out.trans (hb2.mono Hbw.out.size))
        clear hb2 hbr2 Hc
        rcases h2 with ⟨v, hv, rfl⟩ | ⟨hno, T, v, rfl⟩
        · obtain ⟨hi', lo', p', rfl⟩ := Hl4.out v hv
          have Hv := hide hv
          clear hv
          unfold addrV
          go_wp2_with fail
          refine bodyPost_ret (v := .tuple #[addrV hi' lo' p', .nilIface]) (by simp [results, Tryd.results58, addrV, go_sem, *]) rfl ?_
          refine ⟨Or.inl ⟨_, by rw [Hpa.out]; exact Hv.out, rfl⟩, ?_⟩
          iterate 3 refine Below.setCell ?_ (by simp) _
          exact Hb2.out
        · have Hno := hide hno
          clear hno
          unfold addrV
          go_wp2_with fail
          refine bodyPost_ret (v := .tuple #[addrV 0 0 none, .iface T v]) (by simp [results, Tryd.results58, addrV, go_sem, *]) rfl ?_
          refine ⟨Or.inr ⟨by rw [Hpa.out]; exact Hno.out, T, v, rfl⟩, ?_⟩
          iterate 3 refine Below.setCell ?_ (by simp) _
          exact Hb2.out
      · have q46 : ((x.toNat : Int) == 46) = false := neq 46 h46
        by_cases h58 : x = 58
        · subst h58
          have hs58 : scanL s = some 58 := by rw [← Hsc1.out]; rfl
          have Hpa : Hid (pa s g4 o4 r6 = r6) := hide (by unfold pa; rw [if_neg (by rw [hs58]; decide), if_pos hs58])
          have Hc := hide (H6.out hs58 W1 Hbw.out)
          clear hs58 neq h46
          go_wp2_with fail
          with_reducible refine Hc.out.mono ?_
          rintro e W2 ⟨h2, hb2⟩
          have hbr2 := Hbr.out.below hb2
          have e0 : W2.cell? ⟨w.heap.size, 0, none⟩ = some (.int .u64 0) := hbr2.cell 0
          have e1 : W2.cell? ⟨w.heap.size, 1, none⟩ = some (.int .u64 0) := hbr2.cell 1
          have e2 : W2.cell? ⟨w.heap.size, 2, none⟩ = some (.pointer none) := hbr2.cell 2
          have fz : ∀ i, W2.frozen? ⟨w.heap.size, i, none⟩ = false := fun i => hbr2.frozen i
          have Hb2 := hide (Hbw.out.trans (hb2.mono Hbw.out.size))
          clear hb2 hbr2 Hc
          rcases h2 with ⟨v, hv, rfl⟩ | ⟨hno, T, v, rfl⟩
          · obtain ⟨hi', lo', p', rfl⟩ := Hl6.out v hv
            have Hv := hide hv
            clear hv
            unfold addrV
            go_wp2_with fail
            refine bodyPost_ret (v := .tuple #[addrV hi' lo' p', .nilIface]) (by simp [results, Tryd.results58, addrV, go_sem, *]) rfl ?_
            refine ⟨Or.inl ⟨_, by rw [Hpa.out]; exact Hv.out, rfl⟩, ?_⟩
            iterate 3 refine Below.setCell ?_ (by simp) _
            exact Hb2.out
          · have Hno := hide hno
            clear hno
            unfold addrV
            go_wp2_with fail
            refine bodyPost_ret (v := .tuple #[addrV 0 0 none, .iface T v]) (by simp [results, Tryd.results58, addrV, go_sem, *]) rfl ?_
            refine ⟨Or.inr ⟨by rw [Hpa.out]; exact Hno.out, T, v, rfl⟩, ?_⟩
            iterate 3 refine Below.setCell ?_ (by simp) _
            exact Hb2.out
        · have q58 : ((x.toNat : Int) == 58) = false := neq 58 h58
          by_cases h37 : x = 37
          · subst h37
            have hs37 : scanL s = some 37 := by rw [← Hsc1.out]; rfl
            have Hpa : Hid (pa s g4 o4 r6 = none) := hide (by unfold pa; rw [if_neg (by rw [hs37]; decide), if_neg (by rw [hs37]; decide)])
            clear hs37 neq h46 h58
            have hbr1 := Hbr.out
            have e0 : W1.cell? ⟨w.heap.size, 0, none⟩ = some (.int .u64 0) := hbr1.cell 0
            have e1 : W1.cell? ⟨w.heap.size, 1, none⟩ = some (.int .u64 0) := hbr1.cell 1
            have e2 : W1.cell? ⟨w.heap.size, 2, none⟩ = some (.pointer none) := hbr1.cell 2
            have fz : ∀ i, W1.frozen? ⟨w.heap.size, i, none⟩ = false := fun i => hbr1.frozen i
            clear hbr1
            go_wp2_with fail
            refine bodyPost_ret (v := .tuple #[addrV 0 0 none, .iface _ _]) (by simp [results, Tryd.results58, addrV, go_sem, *]; exact ⟨rfl, rfl⟩) rfl ?_
            refine ⟨Or.inr ⟨Hpa.out, _, _, rfl⟩, ?_⟩
            iterate 3 refine Below.setCell ?_ (by simp) _
            exact Hbw.out
          · have q37 : ((x.toNat : Int) == 37) = false := neq 37 h37
            have Hnext : Hid (scanL (s.drop (i + 1)) = scanL s) := hide (by
              rw [← Hsc1.out]
              unfold scanL
              rw [List.find?_cons_of_neg (by unfold isSpec; simp [h46, h58, h37])])
            clear neq h46 h58 h37
            go_wp2_with fail
            go_round
            case rel => exact ⟨i + 1, by omega, by go_num, Hnext.out⟩
            case measure => simp [intOf]; omega
    · obtain rfl : i = s.length := by omega
      have Hpa : Hid (pa s g4 o4 r6 = none) := hide (by
        have h := Hsc.out
        rw [List.drop_length] at h
        have h' : scanL s = none := h.symm
        unfold pa
        rw [if_neg (by rw [h']; simp), if_neg (by rw [h']; simp)])
      have hbr1 := Hbr.out
      have e0 : W1.cell? ⟨w.heap.size, 0, none⟩ = some (.int .u64 0) := hbr1.cell 0
      have e1 : W1.cell? ⟨w.heap.size, 1, none⟩ = some (.int .u64 0) := hbr1.cell 1
      have e2 : W1.cell? ⟨w.heap.size, 2, none⟩ = some (.pointer none) := hbr1.cell 2
      have fz : ∀ i, W1.frozen? ⟨w.heap.size, i, none⟩ = false := fun i => hbr1.frozen i
      clear hbr1
      go_wp2_with fail
      refine bodyPost_ret (v := .tuple #[addrV 0 0 none, .iface _ _]) (by simp [results, Tryd.results58, addrV, go_sem, *]; exact ⟨rfl, rfl⟩) rfl ?_
      refine ⟨Or.inr ⟨Hpa.out, _, _, rfl⟩, ?_⟩
      iterate 3 refine Below.setCell ?_ (by simp) _
      exact Hbw.out
end Go.Proofs.YtmfcgglgolajnaaDoor
