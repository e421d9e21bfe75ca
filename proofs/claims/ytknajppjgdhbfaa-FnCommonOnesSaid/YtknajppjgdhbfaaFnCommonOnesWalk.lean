/-
  The walk of FnCommonOnes.
-/
import Derived.Test.YtknajppjgdhbfaaMasks
import Derived.Test.YtknajppjgdhbfaaSizeEach
import Derived.Test.YtknajppjgdhbfaaIsBit
import Derived.Test.YtknajppjgdhbfaaTwo
import Derived.Deep.DeepCutAuto
import Derived.Deep.CutBlock
namespace Go.Proofs.Ytknajppjgdhbfaa
open Go.RowKit
set_option linter.unusedVariables false

/-- The first j bits are the same. -/
def SameTo (a b : List UInt8) (j : Nat) : Prop := ∀ i, i < j → bitAt a i = bitAt b i
theorem common_net {a b : List UInt8} {n j k : Nat} (ha : a.length = n) (hb : b.length = n) (hs : SameTo a b j) (hj : j ≤ 8 * n) (hd : j < 8 * n → bitAt a j ≠ bitAt b j) (hk : k ≤ 8 * n) : inNet a (cidr n k) b = decide (k ≤ j) := by
  rw [Bool.eq_iff_iff, decide_eq_true_iff, inNet_cidr k ha hb]
  constructor
  · intro h
    rcases Nat.lt_or_ge j k with hlt | hge
    · exact absurd (h j (by omega) hlt) (hd (by omega))
    · exact hge
  · intro h i _ hik
    exact hs i (by omega)

def natsTo (k : Nat) : List Int := (List.range k).map fun (i : Nat) => (i : Int)
def natsV (k : Nat) : List Value := (natsTo k).map (Value.int .i64)
theorem natsTo_length (k : Nat) : (natsTo k).length = k := by unfold natsTo; simp
theorem natsV_snoc (k : Nat) : natsV (k + 1) = natsV k ++ [.int .i64 (k : Int)] := by unfold natsV natsTo; rw [List.range_succ]; simp
theorem natsTo_at {k i : Nat} (h : i < k) : (natsTo k)[i]? = some (i : Int) := by unfold natsTo; rw [List.getElem?_map, List.getElem?_range h]; rfl
theorem natsTo_mem {k : Nat} {z : Int} (h : z ∈ natsTo k) : 0 ≤ z ∧ z < k := by
  unfold natsTo at h
  obtain ⟨i, hi, rfl⟩ := List.mem_map.1 h
  have := List.mem_range.1 hi
  omega
theorem masks_at {n N i : Nat} {b : List UInt8} (hi : i < N) (h : (masksL n (natsTo N))[i]? = some b) : b = cidr n i := by
  unfold masksL at h
  rw [List.getElem?_map, natsTo_at hi] at h
  simp at h
  exact h.symm
theorem sizeOnes_cidr {n k : Nat} (hk : k ≤ 8 * n) : sizeOnes (cidr n k) = (k : Int) := by
  unfold sizeOnes; rw [ones_cidr hk, if_neg (by omega)]
theorem sizeBits_cidr {n k : Nat} (hk : k ≤ 8 * n) : sizeBits (cidr n k) = 8 * (n : Int) := by
  unfold sizeBits; rw [ones_cidr hk, if_neg (by omega), cidr_length]

set_option maxRecDepth 100000 in
set_option maxHeartbeats 6400000 in
theorem fnCommonOnes_walk (w : World) (a0 : Option Addr) (n0 c0 : Nat) (b0 : List UInt8) (w0 : RB w no a0 n0 c0 b0) (r0 : c0 ≤ 140737488351232)
    (a1 : Option Addr) (n1 c1 : Nat) (b1 : List UInt8) (w1 : RB w no a1 n1 c1 b1) (r1 : c1 ≤ 140737488351232) :
    Calls Try.prog 11 #[.slice a0 n0 c0, .slice a1 n1 c1] w fun e w' => e = .returned (.bool true) ∧ Below w.heap.size w w' := by
  obtain ⟨i0, hi, hz0, hz1, hz2⟩ := info_parts int_info
  have W0 := hide w0
  have W1 := hide w1
  have k0 := w0.cap
  have k1 := w1.cap
  have Hcall := hide (alike_any _ 2 2 n0 [b0, b1] _ (RBB.two 22 w0 w1) (by omega) (by intro b hb; simp at hb; rcases hb with rfl | rfl; (rw [w0.len]; omega); (rw [w1.len]; omega)))
  clear w0 w1
  go_enter Try.func11, Try.ntmps11
  go_wp2_with fail
  with_reducible refine Hcall.out.mono ?_
  rintro e v1 ⟨A1, d1, rfl, h1, hb1⟩
  have hb1' : Below w.heap.size w v1 := ((Below.refl _ _).alloc (Nat.le_refl _) _).trans (hb1.mono (by simp))
  have Hb1 := hide hb1'
  have htwo := alikeL_two b0 b1 n0
  generalize alikeL [b0, b1] n0 = al2 at *
  clear hb1 Hcall h1 hb1'
  rcases htwo with ⟨hg0, hg1, hl2⟩ | hl2
  rotate_left
  · have hne : ((al2.length : Int) != 2) = true := by rw [bne_iff_ne]; omega
    go_wp2_with fail
    go_ret
    exact ⟨rfl, Hb1.out⟩
  obtain ⟨_, hn, hm0⟩ := goodA_out hg0
  obtain ⟨hlb1, _, hm1⟩ := goodA_out hg1
  obtain rfl : n1 = n0 := by rw [← W1.out.len]; exact hlb1
  have Hn := hide hn
  have hn16 : n1 ≤ 16 := by omega
  have Hm0 := hide hm0
  have Hm1 := hide hm1
  rw [hl2]
  clear hn hm0 hm1 hg0 hg1 hl2 hlb1
  have W0' := hide (W0.out.below Hb1.out)
  have W1' := hide (W1.out.below Hb1.out)
  go_upto_block 0 with (fail)
  go_cut [6] (fun s6 wx => ∃ j : Nat, s6 = .int .i64 j ∧ j ≤ 8 * n1 ∧ SameTo b0 b1 j ∧ (j < 8 * n1 → bitAt b0 j ≠ bitAt b1 j) ∧ v1 = wx)
  case first =>
    go_wp2_with fail
    go_loop [6] (fun i => ∃ j : Nat, j ≤ 8 * n1 ∧ i = .int .i64 j ∧ SameTo b0 b1 j) (fun i => 8 * n1 - (intOf i).toNat)
    case atStart => exact ⟨0, Nat.zero_le _, rfl, fun i hi => by omega⟩
    case round =>
      obtain ⟨j, hj, rfl, hs⟩ := hrel
      have Hs := hide hs
      clear hs
      by_cases hltj : j < 8 * n1
      · have Hi1 := hide (isBit_any a0 n1 c0 j b0 v1 no W0'.out (by omega) hltj)
        have Hi2 := hide (isBit_any a1 n1 c1 j b1 v1 no W1'.out (by omega) hltj)
        by_cases hbit : bitAt b0 j = bitAt b1 j
        · have Hnext : Hid (SameTo b0 b1 (j + 1)) := hide (fun i hi => by
            rcases Nat.lt_or_ge i j with h | h
            · exact Hs.out i h
            · rw [show i = j by omega]; exact hbit)
          rw [← hbit] at Hi2
          clear hbit
          generalize bitAt b0 j = u at *
          cases u
          all_goals
            go_wp2_with fail
            with_reducible refine Hi1.out.mono ?_
            rintro e w' ⟨rfl, rfl⟩
            go_wp2_with fail
            with_reducible refine Hi2.out.mono ?_
            rintro e w' ⟨rfl, rfl⟩
            go_wp2_with fail
            go_round
            case rel => exact ⟨j + 1, by omega, by go_num, Hnext.out⟩
            case measure => simp [intOf]; omega
        · have Hbit := hide hbit
          have hx : bitAt b1 j = !bitAt b0 j := by cases h1 : bitAt b0 j <;> cases h2 : bitAt b1 j <;> simp_all
          rw [hx] at Hi2
          clear hbit hx
          generalize bitAt b0 j = u at Hi1 Hi2
          cases u
          all_goals
            go_wp2_with fail
            with_reducible refine Hi1.out.mono ?_
            rintro e w' ⟨rfl, rfl⟩
            go_wp2_with fail
            with_reducible refine Hi2.out.mono ?_
            rintro e w' ⟨rfl, rfl⟩
            go_wp2_with fail
            go_meet
            case rel => exact ⟨j, rfl, hj, Hs.out, fun _ => Hbit.out, rfl⟩
      · go_wp2_with fail
        go_meet
        case rel => exact ⟨j, rfl, hj, Hs.out, fun h => absurd h hltj, rfl⟩
  case rest =>
    obtain ⟨j, rfl, hj, hs, hd, rfl⟩ := hcut
    have Hs := hide hs
    have Hd := hide hd
    clear hs hd
    have Hst : Hid (v1.ownsRow v1.heap.size 3 1 (.slice none 0 0) 0 (natsV 0) ∧ Below v1.heap.size v1 v1) := hide ⟨World.ownsRow_nil v1 _ _ _, Below.refl _ _⟩
    go_wp2_with fail
    go_loopw [7, 41] (fun v i wr => ∃ k : Nat, k ≤ 8 * n1 + 1 ∧ i = .int .i64 k ∧ wr.ownsRow v1.heap.size 3 1 v k (natsV k) ∧ Below v1.heap.size v1 wr) (fun _ i _ => 8 * n1 + 1 - (intOf i).toNat)
    case atStart => exact ⟨0, Nat.zero_le _, rfl, Hst.out⟩
    case round =>
      obtain ⟨k, hk, rfl, h1, h2⟩ := hrel
      have H1 := hide h1
      have H2 := hide h2
      by_cases hlt : k < 8 * n1 + 1
      · have Hsn := hide (natsV_snoc k)
        have Ho := hide (h1.alloc (.cells #[.int .i64 (k : Int)] 3))
        have hsz := h2.size
        generalize natsV k = nk at *
        clear h1 h2
        go_wp2_with (at_builtin; refine wpList_append_rd _ rfl (.tmp 44) (.tmp 46) _ rfl v1.heap.size 3 i0 _ 8 Try.underlying34 hi hz0 hz1 hz2 rfl _ k _ rfl Ho.out no (some ⟨wr.heap.size, 0, none⟩) 1 1 [.int .i64 (k : Int)] rfl ?_ ?_ ?_ ?_ ?_ ?_)
        · exact Rd.one wr _ _ no (fun h => h)
        · intro u hu; simp at hu; subst hu; rfl
        · unfold maxLen; omega
        · omega
        · simp; omega
        intro v' w2 h1 h2 h3
        have Hs2 := hide h1
        rw [← Hsn.out] at Hs2
        have Hb2 := hide (below_append (H2.out.alloc H2.out.size _) h2 Ho.out (by simp; omega))
        clear h1 h2 h3
        go_wp2_with fail
        go_roundw
        case rel => exact ⟨k + 1, by omega, by go_num, Hs2.out, Hb2.out⟩
        case measure => simp [intOf]; omega
      · obtain rfl : k = 8 * n1 + 1 := by omega
        obtain ⟨A7, d7, rfl, hRI⟩ := RI.of_own (zs := natsTo (8 * n1 + 1)) h1
        have Hm := hide (masksOf_any A7 (8 * n1 + 1) d7 n1 (8 * (n1 : Int)) (natsTo (8 * n1 + 1)) wr no hRI Hn.out rfl (fun z hz => by have := natsTo_mem hz; omega) (by omega))
        have Hbw := hide (Hb1.out.trans (h2.mono Hb1.out.size))
        clear h1 h2 hRI H1 H2 Hst
        go_wp2_with fail
        with_reducible refine Hm.out.mono ?_
        rintro e v3 ⟨A3, d3, rfl, h3, hb3⟩
        have hlen : (masksL n1 (natsTo (8 * n1 + 1))).length = 8 * n1 + 1 := by rw [masksL_length, natsTo_length]
        have hmat := fun i b (hi : i < 8 * n1 + 1) (h : (masksL n1 (natsTo (8 * n1 + 1)))[i]? = some b) => masks_at hi h
        rw [hlen] at h3 ⊢
        generalize masksL n1 (natsTo (8 * n1 + 1)) = ml at *
        have Hmat := hide hmat
        have H3 := hide h3.free
        have Hb3 := hide (Hbw.out.trans (hb3.mono Hbw.out.size))
        have Hse := hide (sizeEach_any A3 (8 * n1 + 1) d3 ml v3 _ h3 (by omega) (fun b hb => by
          obtain ⟨i, hi, he⟩ := List.getElem_of_mem hb
          rw [hmat i b (by omega) (by rw [← he]; exact List.getElem?_eq_getElem hi), cidr_length]
          omega))
        have Hlen := hide hlen
        clear hb3 Hm h3 hmat hlen Hbw
        go_wp2_with fail
        with_reducible refine Hse.out.mono ?_
        rintro e v4 ⟨v, u, rfl, h4⟩
        obtain ⟨hv1, hu1, _, hb4⟩ := h4
        rw [show (onesEach ml).length = 8 * n1 + 1 by unfold onesEach; rw [List.length_map]; exact Hlen.out] at hv1
        rw [show (bitsEach ml).length = 8 * n1 + 1 by unfold bitsEach; rw [List.length_map]; exact Hlen.out] at hu1
        obtain ⟨A4, d4, rfl, h4⟩ := RI.of_own hv1
        obtain ⟨A5, d5, rfl, h5⟩ := RI.of_own hu1
        have H3' := hide (H3.out.below hb4)
        have H4 := hide h4
        have H5 := hide h5
        have Hb4 := hide (Hb3.out.trans (hb4.mono Hb3.out.size))
        have hne : ((8 * (n1 : Int) + 1) != (8 * (n1 : Int) + 1)) = false := by simp
        have hne2 : (((8 * n1 + 1 : Nat) : Int) != (8 * (n1 : Int) + 1)) = false := by simp
        clear hv1 hu1 hb4 h4 h5 Hb3 H3 Hse
        go_wp2_with fail
        go_loopw [78] (fun i wr => ∃ k : Nat, k ≤ 8 * n1 + 1 ∧ i = .int .i64 k ∧ Below v4.heap.size v4 wr) (fun i _ => 8 * n1 + 1 - (intOf i).toNat)
        case atStart => exact ⟨0, Nat.zero_le _, rfl, Below.refl _ _⟩
        case round =>
          obtain ⟨k, hk, rfl, hbk⟩ := hrel
          have Hbk := hide hbk
          by_cases hlt : k < 8 * n1 + 1
          · obtain ⟨g3, o3, B, mb, f, b, rfl, hbb, hc3, hrb⟩ := (H3'.out.below hbk).at_ hlt
            obtain ⟨g4, o4, z4, rfl, hz4, hc4⟩ := (H4.out.below hbk).at_ hlt
            obtain ⟨g5, o5, z5, rfl, hz5, hc5⟩ := (H5.out.below hbk).at_ hlt
            have hbe := Hmat.out k b hlt hbb
            have e4 : z4 = (k : Int) := by
              unfold onesEach at hz4
              rw [List.getElem?_map, hbb] at hz4
              simp at hz4
              rw [← hz4, hbe, sizeOnes_cidr (by omega)]
            have e5 : z5 = 8 * (n1 : Int) := by
              unfold bitsEach at hz5
              rw [List.getElem?_map, hbb] at hz5
              simp at hz5
              rw [← hz5, hbe, sizeBits_cidr (by omega)]
            subst e4 e5 hbe
            obtain rfl : mb = n1 := by rw [← hrb.len, cidr_length]
            have hbw : Below w.heap.size w wr := Hb4.out.trans (hbk.mono Hb4.out.size)
            have Hco := hide (containsOne_any a0 B a1 mb c0 f c1 b0 _ b1 wr no no no (W0.out.below hbw) hrb (W1.out.below hbw) Hn.out Hm0.out Hm1.out)
            rw [common_net W0.out.len W1.out.len Hs.out hj Hd.out (by omega)] at Hco
            have t1 : ((k : Int) != (k : Int)) = false := by simp
            have t2 : ((8 * (mb : Int)) != (8 * (mb : Int))) = false := by simp
            have i1 : (0 : Int) ≤ k := by omega
            clear hbk hbb hrb hz4 hz5 hbw
            by_cases hkj : k ≤ j
            · have t3 : decide (k ≤ j) = true := by simpa using hkj
              have t4 : decide ((k : Int) ≤ (j : Int)) = true := by simp; omega
              rw [t3] at Hco
              go_wp2_with fail
              with_reducible refine Hco.out.mono ?_
              rintro e v5 ⟨rfl, hb5⟩
              have Hb5 := hide hb5
              clear hb5
              go_wp2_with fail
              go_roundw
              case rel => exact ⟨k + 1, by omega, by go_num, Hbk.out.trans (Hb5.out.mono Hbk.out.size)⟩
              case measure => simp [intOf]; omega
            · have t3 : decide (k ≤ j) = false := by simpa using hkj
              have t4 : decide ((k : Int) ≤ (j : Int)) = false := by simp; omega
              rw [t3] at Hco
              go_wp2_with fail
              with_reducible refine Hco.out.mono ?_
              rintro e v5 ⟨rfl, hb5⟩
              have Hb5 := hide hb5
              clear hb5
              go_wp2_with fail
              go_roundw
              case rel => exact ⟨k + 1, by omega, by go_num, Hbk.out.trans (Hb5.out.mono Hbk.out.size)⟩
              case measure => simp [intOf]; omega
          · clear hbk
            go_wp2_with fail
            go_ret
            exact ⟨rfl, Hb4.out.trans (Hbk.out.mono Hb4.out.size)⟩
end Go.Proofs.Ytknajppjgdhbfaa
