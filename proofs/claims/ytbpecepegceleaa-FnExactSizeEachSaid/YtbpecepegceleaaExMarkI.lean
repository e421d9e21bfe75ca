/-
  The contracts of markIntS and heldIntS.
-/
import Derived.Test.YtbpecepegceleaaSizeEach
namespace Go.Proofs.Ytbpecepegceleaa
open Go.RowKit
set_option linter.unusedVariables false

/-- The marks: q and on. -/
def marks (q n : Nat) : List Int := (List.range n).map fun j => ((q + j : Nat) : Int)
theorem marks_length (q n : Nat) : (marks q n).length = n := by unfold marks; simp
theorem marks_at {q n k : Nat} (h : k < n) : (marks q n)[k]? = some ((q + k : Nat) : Int) := by unfold marks; simp [h]
theorem marks_succ (q k : Nat) : marks q (k + 1) = marks q k ++ [((q + k : Nat) : Int)] := by unfold marks; rw [List.range_succ]; simp
theorem marks_step {q k : Nat} {zs : List Int} (h : zs.take k = marks q k) (hk : k < zs.length) : (zs.set k ((q + k : Nat) : Int)).take (k + 1) = marks q (k + 1) := by
  rw [marks_succ, ← h, take_snoc (show (zs.set k ((q + k : Nat) : Int))[k]? = some ((q + k : Nat) : Int) by simp [hk]), List.take_set_of_le (Nat.le_refl _)]

/-- The first k are marked. -/
def MarkI (w : World) (base : Nat) (v : Value) (n q k : Nat) (wr : World) : Prop := ∃ zs : List Int, wr.ownsRow base 3 1 v n (zs.map (Value.int .i64)) ∧ zs.take k = marks q k ∧ w.grownBy wr v.ownBlock

theorem grown_trans {a b c : World} {r : Option Nat} (h : a.grownBy b r) (k : b.grownBy c r) : a.grownBy c r :=
  ⟨k.os.trans h.os, k.tape.trans h.tape, k.output.trans h.output, Nat.le_trans h.size k.size, fun i hi hr => (k.block i (Nat.lt_of_lt_of_le hi h.size) hr).trans (h.block i hi hr)⟩
theorem MarkI.step {w wr : World} {base n q k g c : Nat} (h : MarkI w base (.slice (some ⟨g, 0, none⟩) n c) n q k wr) (hk : k < n) :
    MarkI w base (.slice (some ⟨g, 0, none⟩) n c) n q (k + 1) (wr.setCell ⟨g, k, none⟩ (.int .i64 ((q + k : Nat) : Int))) := by
  obtain ⟨zs, h1, h2, h3⟩ := h
  have hl : zs.length = n := by have := h1.1; simpa using this
  have hs := h1.stored k (.int .i64 ((q + k : Nat) : Int))
  refine ⟨zs.set k ((q + k : Nat) : Int), ?_, marks_step h2 (by omega), grown_trans h3 hs.2⟩
  rw [List.map_set]
  exact hs.1
theorem MarkI.cell {w wr : World} {base n q k g c : Nat} (h : MarkI w base (.slice (some ⟨g, 0, none⟩) n c) n q k wr) {j : Nat} (hj : j < n) : ∃ u, wr.cell? ⟨g, j, none⟩ = some u := by
  obtain ⟨zs, h1, h2, h3⟩ := h
  have hl := h1.1
  refine ⟨_, (h1.cellAt j (by omega)).trans (List.getElem?_eq_getElem (by omega))⟩
theorem MarkI.frozen {w wr : World} {base n q k g c : Nat} (h : MarkI w base (.slice (some ⟨g, 0, none⟩) n c) n q k wr) (j : Nat) : wr.frozen? ⟨g, j, none⟩ = false := by
  obtain ⟨zs, h1, h2, h3⟩ := h
  exact h1.frozenAt j
theorem MarkI.full {w wr : World} {base n q : Nat} {v : Value} (h : MarkI w base v n q n wr) : wr.ownsRow base 3 1 v n ((marks q n).map (Value.int .i64)) ∧ w.grownBy wr v.ownBlock := by
  obtain ⟨zs, h1, h2, h3⟩ := h
  have hl : zs.length = n := by have := h1.1; simpa using this
  rw [List.take_of_length_le (by omega)] at h2
  subst h2
  exact ⟨h1, h3⟩

set_option maxHeartbeats 1600000 in
theorem markIntS_any (A : Option Addr) (base n c q : Nat) (zs : List Int) (w : World) (h : w.ownsRow base 3 1 (.slice A n c) n (zs.map (Value.int .i64))) (hn : n ≤ 1048577) (hq : q ≤ 1048577) :
    Calls Try.prog 15 #[.slice A n c, .int .i64 (q : Int)] w fun e w' => e = .returned (.int .i64 ((q + n : Nat) : Int)) ∧ MarkI w base (.slice A n c) n q n w' := by
  have H0 : Hid (MarkI w base (.slice A n c) n q 0 w) := hide ⟨zs, h, by simp [marks], World.grownBy.refl w _⟩
  have hA : n = 0 ∨ ∃ g, A = some ⟨g, 0, none⟩ := by
    rcases h.2 with ⟨_, h2⟩ | ⟨g, cap, cur, h2, _⟩
    · exact Or.inl h2
    · injection h2 with h2 _ _; exact Or.inr ⟨g, h2⟩
  have HA := hide hA
  clear h hA
  go_enter Try.func15, Try.ntmps15
  go_wp2_with fail
  go_loopw [1, 5] (fun s i wr => ∃ k : Nat, k ≤ n ∧ i = .int .i64 k ∧ s = .int .i64 ((q + k : Nat) : Int) ∧ MarkI w base (.slice A n c) n q k wr) (fun _ i _ => n - (intOf i).toNat)
  case atStart => exact ⟨0, Nat.zero_le _, rfl, rfl, H0.out⟩
  case round =>
    obtain ⟨k, hk, rfl, rfl, hr⟩ := hrel
    have Hr := hide hr
    by_cases hlt : k < n
    · obtain ⟨g, rfl⟩ : ∃ g, A = some ⟨g, 0, none⟩ := by
        rcases HA.out with h0 | h0
        · omega
        · exact h0
      obtain ⟨u, hu⟩ := hr.cell hlt
      have hfz := hr.frozen k
      have i1 : (0 : Int) ≤ k := by omega
      have i2 : (k : Int) < n := by omega
      have Hst := hide (hr.step hlt)
      clear hr
      go_wp2_with fail
      go_roundw
      case rel => exact ⟨k + 1, by omega, by go_num, by go_num, Hst.out⟩
      case measure => simp [intOf]; omega
    · obtain rfl : k = n := by omega
      clear hr
      go_wp2_with fail
      go_ret
      exact ⟨rfl, Hr.out⟩

set_option maxHeartbeats 1600000 in
theorem heldIntS_any (A : Option Addr) (n c q : Nat) (w : World) (av : Nat → Prop) (h : RI w av A n c (marks q n)) (hn : n ≤ 1048577) (hq : q ≤ 1048577) :
    Calls Try.prog 16 #[.slice A n c, .int .i64 (q : Int)] w fun e w' => e = .returned (.int .i64 ((q + n : Nat) : Int)) ∧ ∃ q', w' = w.drewN q' := by
  have Ha := hide h
  clear h
  go_enter Try.func16, Try.ntmps16
  go_wp2_with fail
  go_loopw [1, 5] (fun s i wr => ∃ k q' : Nat, k ≤ n ∧ i = .int .i64 k ∧ s = .int .i64 ((q + k : Nat) : Int) ∧ wr = w.drewN q') (fun _ i _ => n - (intOf i).toNat)
  case atStart => exact ⟨0, 0, Nat.zero_le _, rfl, rfl, rfl⟩
  case round =>
    obtain ⟨k, q', hk, rfl, rfl, rfl⟩ := hrel
    by_cases hlt : k < n
    · obtain ⟨g, o, x, rfl, hx, hc⟩ := Ha.out.at_ hlt
      rw [marks_at hlt] at hx
      injection hx with hx
      subst hx
      have i1 : (0 : Int) ≤ k := by omega
      have i2 : (k : Int) < n := by omega
      have hne : ((((q + k : Nat) : Int)) != (((q + k : Nat) : Int))) = false := by simp
      go_wp2_with fail
      go_roundw
      case rel => exact ⟨k + 1, _, by omega, by go_num, by go_num, rfl⟩
      case measure => simp [intOf]; omega
    · obtain rfl : k = n := by omega
      go_wp2_with fail
      go_ret
      exact ⟨rfl, _, rfl⟩
end Go.Proofs.Ytbpecepegceleaa
