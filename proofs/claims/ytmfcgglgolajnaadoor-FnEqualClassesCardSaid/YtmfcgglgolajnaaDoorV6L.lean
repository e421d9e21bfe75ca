/-
  Groups of hexadecimal digits and how they are read. No program is named here.
-/
import Derived.Test.YtmfcgglgolajnaaDoorDecL
import Derived.Test.YtmfcgglgolajnaaDoorLong
namespace Go.Proofs.YtmfcgglgolajnaaDoor

/-- The value of a hexadecimal digit. -/
def hexD (c : UInt8) : Option Nat :=
  if 48 ≤ c.toNat ∧ c.toNat ≤ 57 then some (c.toNat - 48) else if 97 ≤ c.toNat ∧ c.toNat ≤ 102 then some (c.toNat - 87) else if 65 ≤ c.toNat ∧ c.toNat ≤ 70 then some (c.toNat - 55) else none
theorem hexD_lt {c : UInt8} {d : Nat} (h : hexD c = some d) : d < 16 := by
  unfold hexD at h
  split at h
  · injection h with h; omega
  · split at h
    · injection h with h; omega
    · split at h
      · injection h with h; omega
      · cases h

/-- The digits that a text begins with: how many, their number, and what is left; from n digits of number a on. -/
def hexGo : List UInt8 → Nat → Nat → Nat × Nat × List UInt8
  | [], n, a => (n, a, [])
  | c :: r, n, a => match hexD c with
    | some d => hexGo r (n + 1) (a * 16 + d)
    | none => (n, a, c :: r)
/-- .. where there are more than four: nothing. -/
def grp : List UInt8 → Nat → Nat → Option (Nat × Nat × List UInt8)
  | [], n, a => some (n, a, [])
  | c :: r, n, a => match hexD c with
    | some d => if 3 < n then none else grp r (n + 1) (a * 16 + d)
    | none => some (n, a, c :: r)
theorem grp_cons (c : UInt8) (r : List UInt8) (n a : Nat) : grp (c :: r) n a = match hexD c with | some d => if 3 < n then none else grp r (n + 1) (a * 16 + d) | none => some (n, a, c :: r) := by rw [grp]
theorem grp_bound : ∀ (s : List UInt8) (n a : Nat) (m b : Nat) (r : List UInt8), grp s n a = some (m, b, r) → n ≤ 4 → a < 16 ^ n → m ≤ 4 ∧ b < 16 ^ m ∧ n ≤ m ∧ ∃ h, s = h ++ r ∧ h.length = m - n
  | [], n, a, m, b, r, h, hn, ha => by
    simp only [grp, Option.some.injEq, Prod.mk.injEq] at h
    obtain ⟨rfl, rfl, rfl⟩ := h
    exact ⟨hn, ha, Nat.le_refl _, [], rfl, by simp⟩
  | c :: t, n, a, m, b, r, h, hn, ha => by
    unfold grp at h
    cases hd : hexD c with
    | none =>
      rw [hd] at h
      simp only [Option.some.injEq, Prod.mk.injEq] at h
      obtain ⟨rfl, rfl, rfl⟩ := h
      exact ⟨hn, ha, Nat.le_refl _, [], rfl, by simp⟩
    | some d =>
      rw [hd] at h
      by_cases h3 : 3 < n
      · simp [h3] at h
      · simp only [h3, if_false] at h
        have hlt := hexD_lt hd
        obtain ⟨q1, q2, q3, l, q4, q5⟩ := grp_bound t (n + 1) (a * 16 + d) m b r h (by omega) (by rw [Nat.pow_succ]; omega)
        exact ⟨q1, q2, by omega, c :: l, by rw [q4]; rfl, by simp [q5]; omega⟩

/-- The end: all must have been read; a gap is filled with zeros. -/
def fin6 (s : List UInt8) (ell : Option Nat) (done : List UInt8) : Option (List UInt8) :=
  if s ≠ [] then none
  else if done.length < 16 then (match ell with | none => none | some e => some (done.take e ++ List.replicate (16 - done.length) 0 ++ done.drop e))
  else (match ell with | none => some done | some _ => none)
/-- Two bytes of a number. -/
def two6 (a : Nat) : List UInt8 := [UInt8.ofNat (a / 256), UInt8.ofNat (a % 256)]

/-- One round: the group is read; what is left behind it is r. -/
def v6next (go : List UInt8 → Option Nat → List UInt8 → Option (List UInt8)) (r : List UInt8) (ell : Option Nat) (done : List UInt8) : Option (List UInt8) :=
  match r with
  | [] => fin6 [] ell done
  | c :: r1 =>
    if c ≠ 58 then none
    else match r1 with
      | [] => none
      | d :: r2 => if d = 58 then (if ell ≠ none then none else if r2 = [] then fin6 [] (some done.length) done else go r2 (some done.length) done) else go (d :: r2) ell done
def v6go : Nat → List UInt8 → Option Nat → List UInt8 → Option (List UInt8)
  | 0, s, ell, done => fin6 s ell done
  | n + 1, s, ell, done =>
    match grp s 0 0 with
    | none => none
    | some (m, a, r) =>
      if m = 0 then none
      else if r.head? = some 46 then
        (if ell = none ∧ done.length ≠ 12 then none else if 12 < done.length then none else match v4go s 0 0 [] with | none => none | some fs => fin6 [] ell (done ++ fs))
      else v6next (v6go n) r ell (done ++ two6 a)
theorem v6go_eq {n m a : Nat} {s r : List UInt8} {ell : Option Nat} {done : List UInt8} (h : grp s 0 0 = some (m, a, r)) : v6go (n + 1) s ell done = if m = 0 then none else if r.head? = some 46 then (if ell = none ∧ done.length ≠ 12 then none else if 12 < done.length then none else match v4go s 0 0 [] with | none => none | some fs => fin6 [] ell (done ++ fs)) else v6next (v6go n) r ell (done ++ two6 a) := by rw [v6go, h]
theorem v6next_gap' (go : List UInt8 → Option Nat → List UInt8 → Option (List UInt8)) (r done : List UInt8) : v6next go (58 :: 58 :: r) none done = if r = [] then fin6 [] (some done.length) done else go r (some done.length) done := by simp [v6next]
theorem v6next_go' (go : List UInt8 → Option Nat → List UInt8 → Option (List UInt8)) {d : UInt8} (h : d ≠ 58) (r : List UInt8) (ell : Option Nat) (done : List UInt8) : v6next go (58 :: d :: r) ell done = go (d :: r) ell done := by simp [v6next, h]
/-- A text without a zone. -/
def v6 (s : List UInt8) : Option (List UInt8) :=
  match s with
  | 58 :: 58 :: r => if r = [] then some (List.replicate 16 0) else v6go 8 r (some 0) []
  | s => v6go 8 s none []
end Go.Proofs.YtmfcgglgolajnaaDoor
