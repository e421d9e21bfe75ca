/-
  The contracts of networkNumberAndMask and Contains, where number, mask and address are of one length and not IPv4-mapped.
-/
import Derived.Test.YtknajppjgdhbfaaFour
namespace Go.Proofs.Ytknajppjgdhbfaa
open Go.RowKit

set_option maxHeartbeats 800000 in
theorem nnm_four (p q : Nat) (A : Addr) (M : Option Addr) (c d : Nat) (w : World) (h0 : w.cell? ⟨p, q, none⟩ = some (.slice (some A) 4 c)) (h1 : w.cell? ⟨p, q + 1, none⟩ = some (.slice M 4 d)) :
    Calls Try.prog 31 #[.pointer (some ⟨p, q, none⟩)] w fun e w' => e = .returned (.tuple #[.slice (some A) 4 c, .slice M 4 d]) ∧ w = w' := by
  have hnil := fun (w : World) a n c => Lib.run_eql_slice_nil (P := Try.prog) w 49 5 a n c 0 0 Try.underlying49
  go_enter Try.func31, Try.ntmps31
  go_wp2_with fail
  refine (to4_four _ _ _).mono ?_
  rintro e w' ⟨rfl, rfl⟩
  go_wp2
  go_ret2
  exact ⟨rfl, rfl⟩

set_option maxHeartbeats 800000 in
theorem nnm_six (p q : Nat) (A : Option Addr) (M : Option Addr) (c d : Nat) (w : World) (av : Nat → Prop) (xs : List UInt8) (h0 : w.cell? ⟨p, q, none⟩ = some (.slice A 16 c)) (h1 : w.cell? ⟨p, q + 1, none⟩ = some (.slice M 16 d))
    (ha : RB w av A 16 c xs) (hm : mapd xs = false) :
    Calls Try.prog 31 #[.pointer (some ⟨p, q, none⟩)] w fun e w' => e = .returned (.tuple #[.slice A 16 c, .slice M 16 d]) ∧ w = w' := by
  have hnil := fun (w : World) a n c => Lib.run_eql_slice_nil (P := Try.prog) w 49 5 a n c 0 0 Try.underlying49
  have Hm := hide hm
  have Ha := hide ha
  clear hm ha
  go_enter Try.func31, Try.ntmps31
  go_wp2_with fail
  refine (to4_six _ _ _ _ _ Ha.out Hm.out).mono ?_
  rintro e w' ⟨rfl, rfl⟩
  go_wp2
  go_ret2
  exact ⟨rfl, rfl⟩

theorem nnm_any (p q n : Nat) (A : Option Addr) (M : Option Addr) (c d : Nat) (w : World) (av : Nat → Prop) (xs : List UInt8) (h0 : w.cell? ⟨p, q, none⟩ = some (.slice A n c)) (h1 : w.cell? ⟨p, q + 1, none⟩ = some (.slice M n d))
    (hn : n = 4 ∨ n = 16) (ha : RB w av A n c xs) (hm : mapd xs = false) :
    Calls Try.prog 31 #[.pointer (some ⟨p, q, none⟩)] w fun e w' => e = .returned (.tuple #[.slice A n c, .slice M n d]) ∧ w = w' := by
  rcases hn with rfl | rfl
  · obtain ⟨g, o, x, rfl, _, _⟩ := ha.at_ (k := 0) (by omega)
    exact nnm_four p q _ M c d w h0 h1
  · exact nnm_six p q A M c d w av xs h0 h1 ha hm

/-- To4 where it does not turn: the address, or nil. -/
theorem to4_any (A : Option Addr) (n c : Nat) (xs : List UInt8) (w : World) (av : Nat → Prop) (hn : n = 4 ∨ n = 16) (ha : RB w av A n c xs) (hm : mapd xs = false) :
    Calls Try.prog 32 #[.slice A n c] w fun e w' => ((n = 4 ∧ e = .returned (.slice A n c)) ∨ (n = 16 ∧ e = .returned (.slice none 0 0))) ∧ w = w' := by
  rcases hn with rfl | rfl
  · exact (to4_four A c w).mono fun e w' ⟨h1, h2⟩ => ⟨.inl ⟨rfl, h1⟩, h2⟩
  · exact (to4_six A c xs w av ha hm).mono fun e w' ⟨h1, h2⟩ => ⟨.inr ⟨rfl, h1⟩, h2⟩

set_option maxHeartbeats 1600000 in
theorem contains_any (p q n : Nat) (A M B : Option Addr) (c d e : Nat) (w : World) (av bv cv : Nat → Prop) (xs ms ys : List UInt8) (h0 : w.cell? ⟨p, q, none⟩ = some (.slice A n c)) (h1 : w.cell? ⟨p, q + 1, none⟩ = some (.slice M n d))
    (hn : n = 4 ∨ n = 16) (ha : RB w av A n c xs) (hM : RB w bv M n d ms) (hb : RB w cv B n e ys) (hm : mapd xs = false) (hm2 : mapd ys = false) :
    Calls Try.prog 28 #[.pointer (some ⟨p, q, none⟩), .slice B n e] w fun e w' => e = .returned (.bool (inNet xs ms ys)) ∧ ∃ q, w' = w.drewN q := by
  have hneq := fun (w : World) a n c => run_neq_slice_nil_any (P := Try.prog) w 49 5 a n c 0 0 Try.underlying49
  obtain ⟨g, o, x0, rfl, _, _⟩ := ha.at_ (k := 0) (by omega)
  obtain ⟨g2, o2, x0, rfl, _, _⟩ := hM.at_ (k := 0) (by omega)
  obtain ⟨g3, o3, x0, rfl, _, _⟩ := hb.at_ (k := 0) (by omega)
  have Hm := hide hm
  have Hm2 := hide hm2
  have Ha := hide ha
  have Hb := hide hb
  have HM := hide hM
  have Hn := hide hn
  have hn2 : n ≤ 16 := by omega
  have hne : ((n : Int) != (n : Int)) = false := by simp
  clear hm hm2 ha hb hM hn
  go_enter Try.func28, Try.ntmps28
  go_wp2_with fail
  refine (nnm_any _ _ _ _ _ _ _ _ _ _ h0 h1 Hn.out Ha.out Hm.out).mono ?_
  rintro e w' ⟨rfl, rfl⟩
  go_wp2_with fail
  refine (to4_any _ _ _ _ _ _ Hn.out Hb.out Hm2.out).mono ?_
  rintro e w' ⟨⟨hq, rfl⟩ | ⟨hq, rfl⟩, rfl⟩
  all_goals
    have Hq := hide hq
    clear hq
    go_wp2
    go_loopw [9] (fun i wr => ∃ k q : Nat, k ≤ n ∧ i = .int .i64 k ∧ wr = w.drewN q ∧ (List.zipWith (· &&& ·) xs ms).take k = (List.zipWith (· &&& ·) ys ms).take k) (fun i _ => n - (intOf i).toNat)
    case atStart => exact ⟨0, 0, Nat.zero_le _, rfl, rfl, rfl⟩
    case round =>
      obtain ⟨k, q, hk, rfl, rfl, htk⟩ := hrel
      have Ht := hide htk
      clear htk
      by_cases hlt : k < n
      · obtain ⟨g', o', x, hA, hx, hc⟩ := Ha.out.at_ hlt
        injection hA with hA; injection hA with e1 e2; subst e1 e2
        obtain ⟨g', o', m, hA, hm, hcm⟩ := HM.out.at_ hlt
        injection hA with hA; injection hA with e1 e2; subst e1 e2
        obtain ⟨g', o', y, hA, hy, hcy⟩ := Hb.out.at_ hlt
        injection hA with hA; injection hA with e1 e2; subst e1 e2
        have Hx := hide hx
        have Hy := hide hy
        have HMm := hide hm
        clear hx hy hm h0 h1 hneq
        have i1 : (0 : Int) ≤ k := by omega
        have i2 : (k : Int) < n := by omega
        have b1 := u8_and_nat _ _ x.toNat_lt m.toNat_lt
        have b2 := u8_and_nat _ _ y.toNat_lt m.toNat_lt
        by_cases hxy : x &&& m = y &&& m
        · have t1 : (((x.toNat &&& m.toNat : Nat) : Int) != ((y.toNat &&& m.toNat : Nat) : Int)) = false := by rw [← UInt8.toNat_and, ← UInt8.toNat_and, hxy]; simp
          have Hxy := hide hxy
          clear hxy
          go_wp2
          go_quiet (fail)
          go_wp2
          go_roundw
          case rel => exact ⟨k + 1, _, by omega, by go_num, rfl, take_step Ht.out (zip_at Hx.out HMm.out) (by rw [zip_at Hy.out HMm.out, Hxy.out])⟩
          case measure => simp [intOf]; omega
        · have t1 : (((x.toNat &&& m.toNat : Nat) : Int) != ((y.toNat &&& m.toNat : Nat) : Int)) = true := by
            rw [← UInt8.toNat_and, ← UInt8.toNat_and, bne_iff_ne]; intro h; exact hxy (UInt8.toNat_inj.1 (by omega))
          have Hxy := hide hxy
          clear hxy
          go_wp2
          go_quiet (fail)
          go_wp2
          go_ret
          exact ⟨ret_bool (eqL_ne (zip_at Hx.out HMm.out) (zip_at Hy.out HMm.out) Hxy.out).symm, _, World.drewN_drewN w q nq⟩
      · go_wp2
        go_ret
        refine ⟨ret_bool (eqL_take (k := k) Ht.out ?_ ?_).symm, _, rfl⟩
        · rw [List.length_zipWith, Ha.out.len]; omega
        · rw [List.length_zipWith, Hb.out.len]; omega
end Go.Proofs.Ytknajppjgdhbfaa
