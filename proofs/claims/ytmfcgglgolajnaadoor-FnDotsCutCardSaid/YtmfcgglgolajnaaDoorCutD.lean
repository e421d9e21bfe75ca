/-
  Dotted decimal, cut anywhere: how the rest is read. No program is named here.
-/
import Derived.Test.YtmfcgglgolajnaaDoorPEach
namespace Go.Proofs.YtmfcgglgolajnaaDoor
set_option linter.unusedVariables false

/-- Reading on, with no word on the end. -/
def mach : List UInt8 → Nat → Nat → List UInt8 → Option (Nat × Nat × List UInt8)
  | [], val, dl, done => some (val, dl, done)
  | c :: cs, val, dl, done =>
    if isDig c then (if dl = 1 ∧ val = 0 then none else if 255 < val * 10 + (c.toNat - 48) then none else mach cs (val * 10 + (c.toNat - 48)) (dl + 1) done)
    else if c = 46 then (if dl = 0 then none else if done.length = 3 then none else mach cs 0 0 (done ++ [UInt8.ofNat val]))
    else none
theorem mach_append : ∀ (p q : List UInt8) (v d : Nat) (dn : List UInt8), mach (p ++ q) v d dn = (mach p v d dn).bind fun t => mach q t.1 t.2.1 t.2.2
  | [], q, v, d, dn => rfl
  | c :: p, q, v, d, dn => by
    simp only [List.cons_append, mach]
    split
    · split
      · rfl
      · split
        · rfl
        · exact mach_append p q _ _ _
    · split
      · split
        · rfl
        · split
          · rfl
          · exact mach_append p q _ _ _
      · rfl
theorem mach_of_v4go : ∀ (s : List UInt8) (v d : Nat) (dn fs : List UInt8), v4go s v d dn = some fs → ∃ val dl done, mach s v d dn = some (val, dl, done) ∧ fs = done ++ [UInt8.ofNat val] ∧ ¬ done.length < 3
  | [], v, d, dn, fs, h => by
    simp only [v4go] at h
    split at h
    · cases h
    · rename_i hn
      injection h with h
      exact ⟨v, d, dn, rfl, h.symm, hn⟩
  | c :: cs, v, d, dn, fs, h => by
    simp only [v4go] at h
    simp only [mach]
    split at h
    · rename_i hd
      rw [if_pos hd]
      split at h
      · cases h
      · rename_i h1
        rw [if_neg h1]
        split at h
        · cases h
        · rename_i h2
          rw [if_neg h2]
          exact mach_of_v4go cs _ _ _ _ h
    · rename_i hd
      rw [if_neg hd]
      split at h
      · rename_i hc
        rw [if_pos hc]
        split at h
        · cases h
        · rename_i h1
          rw [if_neg (fun e => h1 (Or.inl e))]
          split at h
          · cases h
          · rename_i h2
            rw [if_neg h2]
            exact mach_of_v4go cs _ _ _ _ h
      · cases h
/-- What is read where the text ends there. -/
theorem v4go_of_mach : ∀ (s : List UInt8) (v d : Nat) (dn : List UInt8) (val dl : Nat) (done : List UInt8), s ≠ [] → mach s v d dn = some (val, dl, done) → v4go s v d dn = if dl = 0 then none else if done.length < 3 then none else some (done ++ [UInt8.ofNat val])
  | [], _, _, _, _, _, _, h, _ => absurd rfl h
  | c :: cs, v, d, dn, val, dl, done, _, h => by
    simp only [mach] at h
    simp only [v4go]
    split at h
    · rename_i hd
      rw [if_pos hd]
      split at h
      · cases h
      · rename_i h1
        rw [if_neg h1]
        split at h
        · cases h
        · rename_i h2
          rw [if_neg h2]
          cases cs with
          | nil =>
            simp only [mach, Option.some.injEq, Prod.mk.injEq] at h
            obtain ⟨rfl, rfl, rfl⟩ := h
            rw [if_neg (by omega)]
            rfl
          | cons x r => exact v4go_of_mach (x :: r) _ _ _ _ _ _ (by simp) h
    · rename_i hd
      rw [if_neg hd]
      split at h
      · rename_i hc
        rw [if_pos hc]
        split at h
        · cases h
        · rename_i h1
          split at h
          · cases h
          · rename_i h2
            cases cs with
            | nil =>
              simp only [mach, Option.some.injEq, Prod.mk.injEq] at h
              obtain ⟨rfl, rfl, rfl⟩ := h
              rw [if_pos (Or.inr rfl), if_pos rfl]
            | cons x r =>
              rw [if_neg (by simp [h1]), if_neg h2]
              exact v4go_of_mach (x :: r) _ _ _ _ _ _ (by simp) h
      · cases h
/-- The counts of the law: stops, digits behind the last one, their number. -/
def cutSt : List UInt8 → Nat × Nat × Nat → Nat × Nat × Nat
  | [], t => t
  | c :: cs, t => cutSt cs (if c = 46 then (t.1 + 1, 0, 0) else (t.1, t.2.1 + 1, 10 * t.2.2 + (c.toNat - 48)))
theorem cutSt_append : ∀ (p q : List UInt8) (t : Nat × Nat × Nat), cutSt (p ++ q) t = cutSt q (cutSt p t)
  | [], _, _ => rfl
  | c :: p, q, t => cutSt_append p q _
theorem cutSt_mach : ∀ (s : List UInt8) (v d : Nat) (dn : List UInt8) (val dl : Nat) (done : List UInt8), mach s v d dn = some (val, dl, done) → v ≤ 255 → cutSt s (dn.length, d, v) = (done.length, dl, val) ∧ val ≤ 255 ∧ (∃ t, done = dn ++ t) ∧ (∀ c ∈ s, isDig c = true ∨ c = 46) ∧ (dn.length < done.length → 46 ∈ s)
  | [], v, d, dn, val, dl, done, h, hv => by
    simp only [mach, Option.some.injEq, Prod.mk.injEq] at h
    obtain ⟨rfl, rfl, rfl⟩ := h
    exact ⟨rfl, hv, ⟨[], by simp⟩, by simp, fun h => by omega⟩
  | c :: cs, v, d, dn, val, dl, done, h, hv => by
    simp only [mach] at h
    split at h
    · rename_i hd
      split at h
      · cases h
      · split at h
        · cases h
        · rename_i h2
          have hne : c ≠ 46 := fun e => by rw [e, dot_notdig] at hd; cases hd
          obtain ⟨q1, q2, q3, q4, q5⟩ := cutSt_mach cs _ _ _ _ _ _ h (by omega)
          refine ⟨?_, q2, q3, ?_, fun h => by simp [q5 h]⟩
          · unfold cutSt
            rw [if_neg hne, show 10 * v + (c.toNat - 48) = v * 10 + (c.toNat - 48) by omega]
            exact q1
          · intro x hx
            rcases List.mem_cons.1 hx with rfl | hx
            · exact Or.inl hd
            · exact q4 x hx
    · split at h
      · rename_i hc
        split at h
        · cases h
        · split at h
          · cases h
          · obtain ⟨q1, q2, ⟨t, q3⟩, q4, q5⟩ := cutSt_mach cs _ _ _ _ _ _ h (by omega)
            refine ⟨?_, q2, ⟨UInt8.ofNat v :: t, by rw [q3]; simp⟩, ?_, fun _ => by simp [hc]⟩
            · unfold cutSt
              rw [if_pos hc]
              rw [List.length_append] at q1
              exact q1
            · intro x hx
              rcases List.mem_cons.1 hx with rfl | hx
              · exact Or.inr hc
              · exact q4 x hx
      · cases h
theorem scan_only {s : List UInt8} (h : ∀ c ∈ s, isDig c = true ∨ c = 46) : scanL s ≠ some 58 ∧ (46 ∈ s → scanL s = some 46) := by
  induction s with
  | nil => exact ⟨by rw [scan_nil]; simp, fun h => by cases h⟩
  | cons c s ih =>
    have ih := ih (fun x hx => h x (by simp [hx]))
    rcases h c (by simp) with hd | rfl
    · have e : scanL (c :: s) = scanL s := by
        have := scan_digs (s := [c]) (fun x hx => by rw [List.mem_singleton.1 hx]; exact hd) s
        exact this
      have hne : (46 : UInt8) ≠ c := fun e => by rw [← e, dot_notdig] at hd; cases hd
      rw [e]
      exact ⟨ih.1, fun hm => ih.2 (by rcases List.mem_cons.1 hm with h | h; exact absurd h hne; exact h)⟩
    · exact ⟨by rw [scan_dot]; simp, fun _ => scan_dot _⟩

/-- What the law says of a cut. -/
theorem read_cut (a b c d : UInt8) (k : Nat) : ∃ st dg vl, cutSt ((dotsL [a, b, c, d]).take k) (0, 0, 0) = (st, dg, vl) ∧ vl ≤ 255 ∧ dg ≤ k ∧ st ≤ 3 ∧ scanL ((dotsL [a, b, c, d]).take k) ≠ some 58 ∧ (∀ x ∈ (dotsL [a, b, c, d]).take k, isDig x = true ∨ x = 46) ∧
    readB ((dotsL [a, b, c, d]).take k) = if st < 3 ∨ dg = 0 then [] else pre12 ++ [a, b, c, UInt8.ofNat vl] := by
  have hT := v4go_dots [a, b, c, d] [] (by simp) (by simp)
  rw [if_pos (by simp), List.nil_append] at hT
  obtain ⟨V, D, N, h1, h2, h3⟩ := mach_of_v4go _ _ _ _ _ hT
  have hN : N = [a, b, c] := by
    have := congrArg List.dropLast h2
    simp at this
    exact this.symm
  rw [← List.take_append_drop k (dotsL [a, b, c, d]), mach_append] at h1
  cases hp : mach ((dotsL [a, b, c, d]).take k) 0 0 [] with
  | none => rw [hp] at h1; cases h1
  | some t =>
    obtain ⟨vl, dg, dn⟩ := t
    rw [hp] at h1
    simp only [Option.bind_some] at h1
    obtain ⟨q1, q2, q3, q4, q5⟩ := cutSt_mach _ _ _ _ _ _ _ hp (by omega)
    obtain ⟨r1, r2, ⟨t, r3⟩, _, _⟩ := cutSt_mach _ _ _ _ _ _ _ h1 q2
    obtain ⟨s1, s2⟩ := scan_only q4
    have hdg : dg ≤ k := by
      have key : ∀ (s : List UInt8) (x y z : Nat), (cutSt s (x, y, z)).2.1 ≤ y + s.length := by
        intro s
        induction s with
        | nil => intro x y z; simp [cutSt]
        | cons c s ih =>
          intro x y z
          unfold cutSt
          split
          · have := ih (x + 1) 0 0; simp at this ⊢; omega
          · have := ih x (y + 1) (10 * z + (c.toNat - 48)); simp at this ⊢; omega
      have := key ((dotsL [a, b, c, d]).take k) 0 0 0
      rw [show (0, 0, 0) = (([] : List UInt8).length, 0, 0) from rfl, q1, List.length_take] at this
      simp at this
      omega
    have hst : dn.length ≤ 3 := by
      have hlen := congrArg List.length r3
      rw [hN, List.length_append] at hlen
      simp at hlen
      omega
    refine ⟨dn.length, dg, vl, q1, q2, hdg, hst, s1, q4, ?_⟩
    by_cases h0 : (dotsL [a, b, c, d]).take k = []
    · rw [h0] at hp ⊢
      simp only [mach, Option.some.injEq, Prod.mk.injEq] at hp
      obtain ⟨rfl, rfl, rfl⟩ := hp
      rw [if_pos (Or.inr rfl)]
      rfl
    · have hv := v4go_of_mach _ _ _ _ _ _ _ h0 hp
      unfold readB read4
      by_cases hc : dn.length < 3 ∨ dg = 0
      · rw [if_pos hc]
        have hn : v4go ((dotsL [a, b, c, d]).take k) 0 0 [] = none := by
          rw [hv]
          by_cases hd : dg = 0
          · rw [if_pos hd]
          · rw [if_neg hd, if_pos (hc.resolve_right hd)]
        rw [hn]
        split <;> rfl
      · have hd : ¬ dg = 0 := fun e => hc (Or.inr e)
        have hl : ¬ dn.length < 3 := fun e => hc (Or.inl e)
        rw [if_neg hd, if_neg hl] at hv
        have hdn : dn = [a, b, c] := by
          rw [hN] at r3
          have hlen := congrArg List.length r3
          simp at hlen
          have ht : t = [] := List.eq_nil_of_length_eq_zero (by omega)
          rw [ht, List.append_nil] at r3
          exact r3.symm
        rw [if_neg hc, s2 (q5 (by simp; omega)), if_pos rfl, hv, hdn]
        rfl
theorem cut_end (a b c d : UInt8) : ∃ dg, cutSt (dotsL [a, b, c, d]) (0, 0, 0) = (3, dg, d.toNat) := by
  have hT := v4go_dots [a, b, c, d] [] (by simp) (by simp)
  rw [if_pos (by simp), List.nil_append] at hT
  obtain ⟨V, D, N, h1, h2, h3⟩ := mach_of_v4go _ _ _ _ _ hT
  obtain ⟨q1, q2, _⟩ := cutSt_mach _ _ _ _ _ _ _ h1 (by omega)
  have hN : N = [a, b, c] := by
    have := congrArg List.dropLast h2
    simp at this
    exact this.symm
  subst hN
  have hV : V = d.toNat := by
    have : d = UInt8.ofNat V := by simpa using h2
    rw [this, UInt8.toNat_ofNat']; omega
  subst hV
  exact ⟨D, q1⟩
end Go.Proofs.YtmfcgglgolajnaaDoor
