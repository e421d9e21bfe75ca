/-
  Numbers in decimal digits; dotted decimal and how it is read. No program is named here.
-/
import Derived.Test.YtmfcgglgolajnaaDoorPlain
namespace Go.Proofs.YtmfcgglgolajnaaDoor

/-- A digit. -/
def isDig (c : UInt8) : Bool := decide (48 ≤ c.toNat) && decide (c.toNat ≤ 57)
/-- A number in decimal digits. -/
def decL (n : Nat) : List UInt8 := if h : n < 10 then [UInt8.ofNat (48 + n)] else decL (n / 10) ++ [UInt8.ofNat (48 + n % 10)]
termination_by n
decreasing_by omega
theorem decL_small {n : Nat} (h : n < 10) : decL n = [UInt8.ofNat (48 + n)] := by rw [decL, dif_pos h]
theorem decL_big {n : Nat} (h : ¬ n < 10) : decL n = decL (n / 10) ++ [UInt8.ofNat (48 + n % 10)] := by rw [decL, dif_neg h]
theorem decL_ne (n : Nat) : decL n ≠ [] := by
  by_cases h : n < 10
  · rw [decL_small h]; simp
  · rw [decL_big h]; simp
theorem dig_toNat {d : Nat} (h : d < 10) : (UInt8.ofNat (48 + d)).toNat = 48 + d := by rw [UInt8.toNat_ofNat']; omega
theorem dig_is {d : Nat} (h : d < 10) : isDig (UInt8.ofNat (48 + d)) = true := by unfold isDig; rw [dig_toNat h]; simp; omega
theorem decL_digs (n : Nat) : ∀ c ∈ decL n, isDig c = true := by
  induction n using Nat.strongRecOn with
  | ind n ih =>
    intro c hc
    by_cases h : n < 10
    · rw [decL_small h, List.mem_singleton] at hc; subst hc; exact dig_is h
    · rw [decL_big h] at hc
      rcases List.mem_append.1 hc with hc | hc
      · exact ih (n / 10) (by omega) c hc
      · rw [List.mem_singleton] at hc; subst hc; exact dig_is (Nat.mod_lt _ (by omega))
theorem decL_length_le {n k : Nat} (h : n < 10 ^ (k + 1)) : (decL n).length ≤ k + 1 := by
  induction k generalizing n with
  | zero => rw [decL_small (by simpa using h)]; simp
  | succ k ih =>
    by_cases h1 : n < 10
    · rw [decL_small h1]; simp
    · rw [decL_big h1, List.length_append]
      have := ih (n := n / 10) (by rw [Nat.div_lt_iff_lt_mul (by omega)]; rw [Nat.pow_succ] at h; exact h)
      simp; omega

/-- Dotted decimal: the value and the digits of the number at hand, the numbers before. -/
def v4go : List UInt8 → Nat → Nat → List UInt8 → Option (List UInt8)
  | [], val, _, done => if done.length < 3 then none else some (done ++ [UInt8.ofNat val])
  | c :: cs, val, dl, done =>
    if isDig c then (if dl = 1 ∧ val = 0 then none else if 255 < val * 10 + (c.toNat - 48) then none else v4go cs (val * 10 + (c.toNat - 48)) (dl + 1) done)
    else if c = 46 then (if dl = 0 ∨ cs = [] then none else if done.length = 3 then none else v4go cs 0 0 (done ++ [UInt8.ofNat val]))
    else none

theorem v4go_dec (n : Nat) : ∀ (r done : List UInt8), v4go (decL n ++ r) 0 0 done = if n ≤ 255 then v4go r n (decL n).length done else none := by
  induction n using Nat.strongRecOn with
  | ind n ih =>
    intro r done
    by_cases h : n < 10
    · rw [decL_small h, if_pos (by omega)]
      simp only [List.cons_append, List.nil_append, List.length_cons, List.length_nil, v4go]
      rw [if_pos (dig_is h), if_neg (by omega), dig_toNat h, if_neg (by omega)]
      rw [show 0 * 10 + (48 + n - 48) = n by omega]
    · rw [decL_big h, List.append_assoc, ih (n / 10) (by omega)]
      by_cases h2 : n / 10 ≤ 255
      · have hd : n % 10 < 10 := Nat.mod_lt _ (by omega)
        rw [if_pos h2]
        simp only [List.cons_append, List.nil_append, v4go]
        rw [if_pos (dig_is hd), if_neg (by omega), dig_toNat hd, show n / 10 * 10 + (48 + n % 10 - 48) = n by omega]
        by_cases h3 : n ≤ 255
        · rw [if_neg (by omega), if_pos h3, List.length_append]; rfl
        · rw [if_pos (by omega), if_neg h3]
      · rw [if_neg h2, if_neg (by omega)]

/-- Texts with a full stop between them. -/
def joinL (b : List UInt8) : List (List UInt8) → List UInt8
  | [] => []
  | [s] => s
  | s :: t :: l => s ++ b ++ joinL b (t :: l)
theorem joinL_snoc (b : List UInt8) : ∀ (l : List (List UInt8)) (s : List UInt8), joinL b (l ++ [s]) = if l = [] then s else joinL b l ++ b ++ s
  | [], s => rfl
  | [x], s => rfl
  | x :: y :: l, s => by
    have := joinL_snoc b (y :: l) s
    rw [if_neg (by simp)] at this
    simp only [List.cons_append] at this ⊢
    rw [joinL, this, if_neg (by simp), joinL]
    simp [List.append_assoc]
def dotsL (ns : List UInt8) : List UInt8 := joinL [46] (ns.map fun n => decL n.toNat)
theorem dotsL_ne {ns : List UInt8} (h : ns ≠ []) : dotsL ns ≠ [] := by
  match ns, h with
  | [n], _ => exact decL_ne _
  | n :: m :: ns, _ => unfold dotsL; simp [joinL]
theorem dot_notdig : isDig 46 = false := by decide
theorem v4go_dots : ∀ (ns done : List UInt8), ns ≠ [] → done.length ≤ 3 → v4go (dotsL ns) 0 0 done = if done.length + ns.length = 4 then some (done ++ ns) else none
  | [], _, h, _ => absurd rfl h
  | [n], done, _, hd => by
    have hlt := n.toNat_lt
    have := v4go_dec n.toNat [] done
    rw [List.append_nil, if_pos (by omega)] at this
    show v4go (decL n.toNat) 0 0 done = _
    rw [this, v4go]
    by_cases h : done.length < 3
    · rw [if_pos h, if_neg (by simp; omega)]
    · rw [if_neg h, if_pos (by simp; omega), UInt8.ofNat_toNat]
  | n :: m :: ns, done, _, hd => by
    have hlt := n.toNat_lt
    have e : dotsL (n :: m :: ns) = decL n.toNat ++ (46 :: dotsL (m :: ns)) := by unfold dotsL; simp [joinL]
    have hl : (decL n.toNat).length ≠ 0 := fun h => decL_ne n.toNat (List.eq_nil_of_length_eq_zero h)
    rw [e, v4go_dec, if_pos (by omega), v4go, if_neg (by rw [dot_notdig]; simp), if_pos rfl, if_neg (by
      intro h
      rcases h with h | h
      · exact hl h
      · exact dotsL_ne (by simp) h)]
    by_cases h3 : done.length = 3
    · rw [if_pos h3, if_neg (by simp; omega)]
    · rw [if_neg h3, v4go_dots (m :: ns) _ (by simp) (by simp; omega), UInt8.ofNat_toNat]
      simp only [List.length_append, List.length_cons, List.length_nil, List.append_assoc, List.cons_append, List.nil_append]
      by_cases h4 : done.length + 1 + (ns.length + 1) = 4
      · rw [if_pos (by omega), if_pos (by omega)]
      · rw [if_neg (by omega), if_neg (by omega)]

/-- Zeros ahead of a number. -/
def zerosAhead (m n : Nat) : List UInt8 := List.replicate m 48 ++ decL n
theorem dec_head (n : Nat) : ∃ c l, decL n = c :: l ∧ isDig c = true := by
  cases h : decL n with
  | nil => exact absurd h (decL_ne n)
  | cons c l => exact ⟨c, l, rfl, decL_digs n c (by rw [h]; simp)⟩
theorem v4go_zeros {m : Nat} (hm : 0 < m) (n : Nat) (r done : List UInt8) : v4go (zerosAhead m n ++ r) 0 0 done = none := by
  obtain ⟨c, l, hc, hd⟩ := dec_head n
  have h0 : isDig 48 = true := by decide
  have key : ∀ (x : UInt8) (l : List UInt8), isDig x = true → v4go (48 :: x :: l) 0 0 done = none := by
    intro x l hx
    simp only [v4go]
    rw [if_pos h0, if_neg (by omega), if_neg (by decide), if_pos hx, if_pos (by decide)]
  unfold zerosAhead
  match m, hm with
  | 1, _ => rw [hc]; exact key c _ hd
  | k + 2, _ => exact key 48 _ h0

/-- The first full stop, colon or percent sign. -/
def isSpec (c : UInt8) : Bool := decide (c = 46) || (decide (c = 58) || decide (c = 37))
def scanL (s : List UInt8) : Option UInt8 := s.find? isSpec
theorem dig_notspec {c : UInt8} (h : isDig c = true) : isSpec c = false := by
  have key : ∀ x : Fin 256, isDig (UInt8.ofNat x.val) = true → isSpec (UInt8.ofNat x.val) = false := by decide +kernel
  have := key ⟨c.toNat, c.toNat_lt⟩
  simp only [UInt8.ofNat_toNat] at this
  exact this h
theorem scan_digs {s : List UInt8} (h : ∀ c ∈ s, isDig c = true) (r : List UInt8) : scanL (s ++ r) = scanL r := by
  unfold scanL
  rw [List.find?_append, List.find?_eq_none.2 (fun c hc => by rw [dig_notspec (h c hc)]; simp)]
  rfl
theorem scan_dot (r : List UInt8) : scanL (46 :: r) = some 46 := rfl
theorem scan_nil : scanL [] = none := rfl
end Go.Proofs.YtmfcgglgolajnaaDoor
