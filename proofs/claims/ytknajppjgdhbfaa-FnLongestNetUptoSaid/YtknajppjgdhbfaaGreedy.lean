/-
  The greatest blocks from one number to another one: each number lies in one of them, and there are at most 64. No program is named here.
-/
import Derived.Test.YtknajppjgdhbfaaRangeL
namespace Go.Proofs.Ytknajppjgdhbfaa

/-- A block of 2^t numbers may begin at x. -/
def okB (x T t : Nat) : Prop := x % 2 ^ t = 0 ∧ x + 2 ^ t ≤ T + 1
theorem okB_zero {x T : Nat} (h : x ≤ T) : okB x T 0 := ⟨Nat.mod_one _, by omega⟩

theorem mod_step {x t : Nat} (h : x % 2 ^ t = 0) : x % 2 ^ (t + 1) = 0 ∨ (x + 2 ^ t) % 2 ^ (t + 1) = 0 := by
  have hd := Nat.div_add_mod x (2 ^ t)
  rw [h, Nat.add_zero] at hd
  rw [← hd]
  have hp : 2 ^ (t + 1) = 2 ^ t * 2 := Nat.pow_succ ..
  rw [hp]
  rcases Nat.mod_two_eq_zero_or_one (x / 2 ^ t) with h2 | h2
  · left
    rw [Nat.mul_mod_mul_left, h2, Nat.mul_zero]
  · right
    rw [← Nat.mul_succ, Nat.mul_mod_mul_left, show (x / 2 ^ t).succ % 2 = 0 by omega, Nat.mul_zero]
theorem mod_less {x a b : Nat} (h : x % 2 ^ b = 0) (hab : a ≤ b) : x % 2 ^ a = 0 :=
  Nat.mod_eq_zero_of_dvd (Nat.dvd_trans (Nat.pow_dvd_pow 2 hab) (Nat.dvd_of_mod_eq_zero h))
theorem mod_add {x t : Nat} (h : x % 2 ^ t = 0) : (x + 2 ^ t) % 2 ^ t = 0 := by rw [Nat.add_mod_right]; exact h

/-- How many blocks there are so far: as they grow, or as they shrink. -/
def Ph (x T c : Nat) : Prop :=
  (∃ lo, lo ≤ 32 ∧ x % 2 ^ lo = 0 ∧ c ≤ lo) ∨ (∃ hi, hi ≤ 32 ∧ x % 2 ^ hi = 0 ∧ T + 1 < x + 2 ^ hi ∧ c + hi ≤ 64)
theorem Ph.start (x T : Nat) : Ph x T 0 := Or.inl ⟨0, by omega, Nat.mod_one _, Nat.le_refl _⟩
theorem Ph.step {x T c t : Nat} (h : Ph x T c) (ht : t ≤ 32) (hT : T < 2 ^ 32) (ho : okB x T t) (hn : t = 32 ∨ ¬ okB x T (t + 1)) : c + 1 ≤ 64 ∧ (x + 2 ^ t ≤ T → Ph (x + 2 ^ t) T (c + 1)) := by
  obtain ⟨ho1, ho2⟩ := ho
  by_cases h32 : t = 32
  · subst h32
    refine ⟨?_, fun h => by omega⟩
    rcases h with ⟨lo, h1, h2, h3⟩ | ⟨hi, h1, h2, h3, h4⟩
    · omega
    · have : 2 ^ hi ≤ 2 ^ 32 := Nat.pow_le_pow_right (by omega) h1
      omega
  · have hn' : ¬ okB x T (t + 1) := hn.resolve_left h32
    unfold okB at hn'
    have hp : 2 ^ (t + 1) = 2 ^ t + 2 ^ t := by rw [Nat.pow_succ]; omega
    rcases h with ⟨lo, h1, h2, h3⟩ | ⟨hi, h1, h2, h3, h4⟩
    · refine ⟨by omega, fun hle => ?_⟩
      by_cases hB : T + 1 < x + 2 ^ (t + 1)
      · right
        exact ⟨t, ht, mod_add ho1, by omega, by omega⟩
      · have hA : ¬ x % 2 ^ (t + 1) = 0 := fun e => hn' ⟨e, by omega⟩
        left
        refine ⟨t + 1, by omega, ?_, ?_⟩
        · rcases mod_step ho1 with e | e
          · exact absurd e hA
          · exact e
        · have : ¬ t + 1 ≤ lo := fun e => hA (mod_less h2 e)
          omega
    · have hth : t < hi := by
        rcases Nat.lt_or_ge t hi with e | e
        · exact e
        · have : 2 ^ hi ≤ 2 ^ t := Nat.pow_le_pow_right (by omega) e
          omega
      refine ⟨by omega, fun hle => ?_⟩
      have hB : T + 1 < x + 2 ^ (t + 1) := by
        rcases Nat.lt_or_ge (T + 1) (x + 2 ^ (t + 1)) with e | e
        · exact e
        · exact absurd ⟨mod_less h2 hth, e⟩ hn'
      right
      exact ⟨t, ht, mod_add ho1, by omega, by omega⟩

theorem okB_iff {at_ to_ : List UInt8} {n : Nat} (hn : n ≤ 32) (ha : at_.length = 4) (ht : to_.length = 4) : (eqL (filledL at_ n false) at_ && !earlierL to_ (filledL at_ n true)) = true ↔ okB (valOf at_) (valOf to_) (32 - n) := by
  have hl1 : (filledL at_ n false).length = 4 := by rw [filledL_length, ha]
  have hl2 : (filledL at_ n true).length = 4 := by rw [filledL_length, ha]
  have hp : 0 < 2 ^ (32 - n) := Nat.pow_pos (by omega)
  rw [same_val hl1 ha, earlier_val ht hl2, filled_lo hn ha, filled_hi hn ha]
  have hdm := Nat.div_add_mod (valOf at_) (2 ^ (32 - n))
  rw [Nat.mul_comm] at hdm
  have hm := Nat.mod_lt (valOf at_) hp
  unfold okB
  generalize valOf at_ / 2 ^ (32 - n) * 2 ^ (32 - n) = y at *
  generalize valOf at_ % 2 ^ (32 - n) = r at *
  generalize 2 ^ (32 - n) = p at *
  simp
  omega
theorem val_last {at_ : List UInt8} {n : Nat} (hn : n ≤ 32) (ha : at_.length = 4) {T : Nat} (h : okB (valOf at_) T (32 - n)) : valOf (filledL at_ n true) + 1 = valOf at_ + 2 ^ (32 - n) := by
  have hp : 0 < 2 ^ (32 - n) := Nat.pow_pos (by omega)
  rw [filled_hi hn ha]
  have hdm := Nat.div_add_mod (valOf at_) (2 ^ (32 - n))
  rw [Nat.mul_comm, h.1] at hdm
  omega
/-- An address lies in a block just if it is not before nor behind it. -/
theorem inNet_block {at_ b : List UInt8} {n : Nat} (hn : n ≤ 32) (ha : at_.length = 4) (hb : b.length = 4) (h : valOf at_ % 2 ^ (32 - n) = 0) : inNet at_ (cidr 4 n) b = decide (valOf at_ ≤ valOf b ∧ valOf b < valOf at_ + 2 ^ (32 - n)) := by
  have hp : 0 < 2 ^ (32 - n) := Nat.pow_pos (by omega)
  rw [inNet_val hn ha hb]
  have h1 := Nat.div_add_mod (valOf at_) (2 ^ (32 - n))
  have h2 := Nat.div_add_mod (valOf b) (2 ^ (32 - n))
  have h3 := Nat.mod_lt (valOf b) hp
  rw [h] at h1
  apply decide_eq_decide.2
  constructor
  · intro e
    rw [e] at h1
    omega
  · rintro ⟨e1, e2⟩
    symm
    rw [Nat.mul_comm, Nat.add_zero] at h1
    exact Nat.div_eq_of_lt_le (by omega) (by rw [Nat.add_mul, Nat.one_mul]; omega)

/-- In how many networks it is. -/
def holdL (al : List (List UInt8)) (os : List Int) (b : List UInt8) : Nat := ((al.zip os).filter fun p => inNet p.1 (cidr p.1.length p.2.toNat) b).length
theorem holdL_nil (b : List UInt8) : holdL [] [] b = 0 := rfl
theorem holdL_snoc {al : List (List UInt8)} {os : List Int} (hl : al.length = os.length) (a : List UInt8) (o : Int) (b : List UInt8) : holdL (al ++ [a]) (os ++ [o]) b = holdL al os b + (inNet a (cidr a.length o.toNat) b).toNat := by
  unfold holdL
  rw [List.zip_append hl, List.filter_append, List.length_append]
  simp only [List.zip_cons_cons, List.zip_nil_right, List.filter_cons, List.filter_nil]
  cases inNet a (cidr a.length o.toNat) b <;> rfl

/-- The blocks so far cover what lies from F on, up to x. -/
def Cover (al : List (List UInt8)) (os : List Int) (F x : Nat) : Prop :=
  al.length = os.length ∧ (∀ a ∈ al, a.length = 4) ∧ (∀ o ∈ os, 0 ≤ o ∧ o ≤ 32) ∧ ∀ b : List UInt8, b.length = 4 → holdL al os b = (decide (F ≤ valOf b ∧ valOf b < x)).toNat
theorem Cover.start (x : Nat) : Cover [] [] x x := ⟨rfl, by simp, by simp, fun b hb => by rw [holdL_nil, decide_eq_false (by omega)]; rfl⟩
theorem Cover.step {al : List (List UInt8)} {os : List Int} {F : Nat} {at_ : List UInt8} {n : Nat} (hn : n ≤ 32) (h : Cover al os F (valOf at_)) (ha : at_.length = 4) (hF : F ≤ valOf at_) (hm : valOf at_ % 2 ^ (32 - n) = 0) : Cover (al ++ [at_]) (os ++ [(n : Int)]) F (valOf at_ + 2 ^ (32 - n)) := by
  obtain ⟨h1, h2, h3, h4⟩ := h
  refine ⟨by simp [h1], ?_, ?_, ?_⟩
  · intro a h
    rcases List.mem_append.1 h with h | h
    · exact h2 a h
    · simp at h; subst h; exact ha
  · intro o h
    rcases List.mem_append.1 h with h | h
    · exact h3 o h
    · simp at h; subst h; omega
  · intro b hb
    rw [holdL_snoc h1, h4 b hb, ha, Int.toNat_natCast, inNet_block hn ha hb hm]
    by_cases c1 : valOf b < valOf at_
    · rw [decide_eq_false (p := valOf at_ ≤ valOf b ∧ _) (by omega)]
      by_cases c2 : F ≤ valOf b
      · rw [decide_eq_true ⟨c2, c1⟩, decide_eq_true (by omega)]; rfl
      · rw [decide_eq_false (by omega), decide_eq_false (by omega)]; rfl
    · rw [decide_eq_false (p := F ≤ valOf b ∧ valOf b < valOf at_) (by omega)]
      by_cases c2 : valOf b < valOf at_ + 2 ^ (32 - n)
      · rw [decide_eq_true (by omega), decide_eq_true (by omega)]; rfl
      · rw [decide_eq_false (by omega), decide_eq_false (by omega)]; rfl

theorem val_set {b : List UInt8} (h : b.length = 4) {i : Nat} {x y : UInt8} (hx : b[i]? = some x) : valOf (b.set i y) + x.toNat * 256 ^ (3 - i) = valOf b + y.toNat * 256 ^ (3 - i) := by
  obtain ⟨x0, x1, x2, x3, rfl⟩ := four_of h
  have hi : i < 4 := (List.getElem?_eq_some_iff.1 hx).1
  rcases i with _ | _ | _ | _ | i
  · simp at hx; subst hx; rw [List.set_cons_zero, val4, val4]; omega
  · simp at hx; subst hx; rw [List.set_cons_succ, List.set_cons_zero, val4, val4]; omega
  · simp at hx; subst hx; rw [List.set_cons_succ, List.set_cons_succ, List.set_cons_zero, val4, val4]; omega
  · simp at hx; subst hx; rw [List.set_cons_succ, List.set_cons_succ, List.set_cons_succ, List.set_cons_zero, val4, val4]; omega
  · omega
/-- One more, so far as the last j bytes go. -/
def Inc (V : Nat) (cur : List UInt8) (j : Nat) : Prop := cur.length = 4 ∧ valOf cur + 256 ^ j = V + 1
theorem Inc.full {V : Nat} {cur : List UInt8} {j : Nat} {x : UInt8} (h : Inc V cur j) (hj : j < 4) (hx : cur[3 - j]? = some x) (hf : x = 255) : Inc V (cur.set (3 - j) (x + 1)) (j + 1) := by
  obtain ⟨h1, h2⟩ := h
  have e := val_set (y := x + 1) h1 hx
  subst hf
  rw [show 3 - (3 - j) = j by omega, show ((255 : UInt8) + 1).toNat = 0 by decide, show (255 : UInt8).toNat = 255 by decide] at e
  refine ⟨by simp [h1], ?_⟩
  rw [Nat.pow_succ]
  omega
theorem Inc.stop {V : Nat} {cur : List UInt8} {j : Nat} {x : UInt8} (h : Inc V cur j) (hj : j < 4) (hx : cur[3 - j]? = some x) (hf : x ≠ 255) : (cur.set (3 - j) (x + 1)).length = 4 ∧ valOf (cur.set (3 - j) (x + 1)) = V + 1 := by
  obtain ⟨h1, h2⟩ := h
  have e := val_set (y := x + 1) h1 hx
  have hx1 : (x + 1).toNat = x.toNat + 1 := by
    have h255 : x.toNat ≠ 255 := fun h => hf (UInt8.toNat_inj.1 h)
    have := x.toNat_lt
    rw [UInt8.toNat_add, show (1 : UInt8).toNat = 1 from rfl]
    omega
  rw [show 3 - (3 - j) = j by omega, hx1, Nat.add_mul, Nat.one_mul] at e
  exact ⟨by simp [h1], by omega⟩
theorem byte_up (x : UInt8) : ((x.toNat : Int) + 1) % 256 = ((x + 1).toNat : Int) := by
  rw [UInt8.toNat_add, show (1 : UInt8).toNat = 1 from rfl]
  omega
theorem byte_up0 (x : UInt8) : (((x + 1).toNat : Int) != 0) = decide (x ≠ 255) := by
  rw [UInt8.toNat_add, show (1 : UInt8).toNat = 1 from rfl]
  have hlt := x.toNat_lt
  by_cases h : x = 255
  · subst h; decide
  · have h255 : x.toNat ≠ 255 := fun e => h (UInt8.toNat_inj.1 e)
    rw [decide_eq_true h, bne_iff_ne]
    omega
end Go.Proofs.Ytknajppjgdhbfaa
