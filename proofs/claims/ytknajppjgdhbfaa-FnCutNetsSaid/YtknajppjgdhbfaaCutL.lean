/-
  A network that is cut into halves again and again: an address lies in one part just if it lies in the network. No program is named here.
-/
import Derived.Test.YtknajppjgdhbfaaGreedy
namespace Go.Proofs.Ytknajppjgdhbfaa

theorem holdL_cons (a : List UInt8) (z : Int) (al : List (List UInt8)) (os : List Int) (b : List UInt8) : holdL (a :: al) (z :: os) b = (inNet a (cidr a.length z.toNat) b).toNat + holdL al os b := by
  unfold holdL
  simp only [List.zip_cons_cons, List.filter_cons]
  cases inNet a (cidr a.length z.toNat) b
  · simp
  · simp; omega
theorem holdL_set {b a : List UInt8} {z z' : Int} : ∀ {al : List (List UInt8)} {os : List Int} {k : Nat}, al[k]? = some a → os[k]? = some z →
    holdL al (os.set k z') b + (inNet a (cidr a.length z.toNat) b).toNat = holdL al os b + (inNet a (cidr a.length z'.toNat) b).toNat
  | [], _, k, h, _ => by simp at h
  | _ :: _, [], k, _, h => by simp at h
  | a' :: al, o :: os, 0, h1, h2 => by
    simp at h1 h2
    subst h1 h2
    rw [List.set_cons_zero, holdL_cons, holdL_cons]
    omega
  | a' :: al, o :: os, k + 1, h1, h2 => by
    simp at h1 h2
    rw [List.set_cons_succ, holdL_cons, holdL_cons]
    have := holdL_set (b := b) (z' := z') h1 h2
    omega

theorem or_xor {c : UInt8} {s : Nat} (hs : s < 8) (hb : c.toNat.testBit s = false) : c.toNat ||| 2 ^ s = (c ^^^ UInt8.ofNat (2 ^ s)).toNat := by
  rw [UInt8.toNat_xor, two_pow_u8 hs]
  apply Nat.eq_of_testBit_eq
  intro i
  rw [Nat.testBit_or, Nat.testBit_xor, Nat.testBit_two_pow]
  by_cases h : s = i
  · subst h; rw [hb]; simp
  · rw [decide_eq_false h]; simp

/-- A half and the other half. -/
theorem inNet_halves {a b : List UInt8} {n o : Nat} (ha : a.length = n) (hb : b.length = n) (ho : o < 8 * n) (h0 : bitAt a o = false) :
    (inNet a (cidr n o) b).toNat = (inNet a (cidr n (o + 1)) b).toNat + (inNet (flip1 a o) (cidr n (o + 1)) b).toNat := by
  have hf : (flip1 a o).length = n := by rw [flip1_length, ha]
  have e0 := inNet_cidr o ha hb
  have e1 := inNet_cidr (o + 1) ha hb
  have e2 := inNet_cidr (o + 1) hf hb
  have hbit := fun j => bitAt_flip1 (b := a) (k := o) (by omega) j
  by_cases hin : inNet a (cidr n o) b = true
  · have h := e0.1 hin
    cases hbo : bitAt b o with
    | false =>
      have h1 : inNet a (cidr n (o + 1)) b = true := e1.2 (fun j hj hk => by
        by_cases e : j = o
        · subst e; rw [h0, hbo]
        · exact h j hj (by omega))
      have h2 : inNet (flip1 a o) (cidr n (o + 1)) b = false := by
        rw [Bool.eq_false_iff]; intro hh
        have := e2.1 hh o ho (by omega)
        rw [hbit, if_pos rfl, h0, hbo] at this
        cases this
      rw [hin, h1, h2]; rfl
    | true =>
      have h1 : inNet a (cidr n (o + 1)) b = false := by
        rw [Bool.eq_false_iff]; intro hh
        have := e1.1 hh o ho (by omega)
        rw [h0, hbo] at this
        cases this
      have h2 : inNet (flip1 a o) (cidr n (o + 1)) b = true := e2.2 (fun j hj hk => by
        rw [hbit]
        by_cases e : j = o
        · subst e; rw [if_pos rfl, h0, hbo]; rfl
        · rw [if_neg e]; exact h j hj (by omega))
      rw [hin, h1, h2]; rfl
  · have h1 : inNet a (cidr n (o + 1)) b = false := by
      rw [Bool.eq_false_iff]; intro hh
      exact hin (e0.2 fun j hj hk => e1.1 hh j hj (by omega))
    have h2 : inNet (flip1 a o) (cidr n (o + 1)) b = false := by
      rw [Bool.eq_false_iff]; intro hh
      refine hin (e0.2 fun j hj hk => ?_)
      have := e2.1 hh j hj (by omega)
      rw [hbit, if_neg (by omega)] at this
      exact this
    rw [Bool.eq_false_iff.2 hin, h1, h2]; rfl

/-- The parts so far. -/
structure CutR (n : Nat) (adr : List UInt8) (f0 : Nat) (al : List (List UInt8)) (os : List Int) : Prop where
  len : os.length = al.length
  all : ∀ a ∈ al, a.length = n
  ons : ∀ z ∈ os, 0 ≤ z ∧ z ≤ 8 * (n : Int)
  zer : ∀ (i : Nat) (a : List UInt8) (z : Int), al[i]? = some a → os[i]? = some z → ∀ j, z.toNat ≤ j → j < 8 * n → bitAt a j = false
  cnt : ∀ b : List UInt8, b.length = n → holdL al os b = (inNet adr (cidr n f0) b).toNat
  first : al[0]? = some (filledL adr f0 false)
  bound : (al.length : Int) ≤ 1 + (os.take 256).sum

theorem inNet_filled {adr b : List UInt8} {n f0 : Nat} (ha : adr.length = n) (hb : b.length = n) : inNet (filledL adr f0 false) (cidr n f0) b = inNet adr (cidr n f0) b := by
  rw [Bool.eq_iff_iff, inNet_cidr f0 (by rw [filledL_length, ha]) hb, inNet_cidr f0 ha hb]
  constructor
  · intro h j hj hk
    have := h j hj hk
    rw [bitAt_filledL _ _ _ _ (by omega), if_neg (by omega)] at this
    exact this
  · intro h j hj hk
    rw [bitAt_filledL _ _ _ _ (by omega), if_neg (by omega)]
    exact h j hj hk
theorem CutR.start {n : Nat} {adr : List UInt8} {f0 : Nat} (ha : adr.length = n) (hf : f0 ≤ 8 * n) : CutR n adr f0 [filledL adr f0 false] [(f0 : Int)] := by
  refine ⟨rfl, ?_, ?_, ?_, ?_, rfl, ?_⟩
  · intro a h; simp at h; subst h; rw [filledL_length, ha]
  · intro z h; simp at h; subst h; omega
  · intro i a z h1 h2 j hj1 hj2
    rcases i with _ | i
    · simp at h1 h2
      subst h1 h2
      rw [bitAt_filledL _ _ _ _ (by omega), if_pos (by omega)]
    · simp at h1
  · intro b hb
    rw [holdL_cons, filledL_length, ha, Int.toNat_natCast, inNet_filled ha hb]
    rfl
  · simp; omega
theorem sum_le : ∀ {l : List Int} {m : Int}, (∀ z ∈ l, z ≤ m) → l.sum ≤ l.length * m
  | [], m, _ => by simp
  | x :: l, m, h => by
    have h1 := sum_le (l := l) (m := m) fun z hz => h z (by simp [hz])
    have h2 := h x (by simp)
    simp only [List.sum_cons, List.length_cons]
    rw [Int.natCast_add, Int.add_mul]
    omega
theorem sum_set {l : List Int} {k : Nat} {z z' : Int} (h : l[k]? = some z) : (l.set k z').sum + z = l.sum + z' := by
  induction l generalizing k with
  | nil => simp at h
  | cons x l ih =>
    rcases k with _ | k
    · simp at h; subst h; simp; omega
    · simp at h; have := ih h; simp; omega
theorem sum_app_take {l : List Int} {z : Int} (hz : 0 ≤ z) : (l.take 256).sum ≤ ((l ++ [z]).take 256).sum := by
  rw [List.take_append, List.sum_append]
  have : 0 ≤ (List.take (256 - l.length) [z]).sum := by
    cases 256 - l.length with
    | zero => simp
    | succ m => simp; exact hz
  omega
theorem CutR.few {n : Nat} {adr : List UInt8} {f0 : Nat} {al : List (List UInt8)} {os : List Int} (h : CutR n adr f0 al os) (hn : n ≤ 16) : al.length ≤ 32769 := by
  have h1 := sum_le (l := os.take 256) (m := 8 * (n : Int)) fun z hz => (h.ons z (List.mem_of_mem_take hz)).2
  have h2 := h.bound
  have h3 : ((os.take 256).length : Int) ≤ 256 := by rw [List.length_take]; omega
  have h4 : ((os.take 256).length : Int) * (8 * (n : Int)) ≤ 256 * (8 * (n : Int)) := Int.mul_le_mul_of_nonneg_right h3 (by omega)
  omega
theorem CutR.step {n : Nat} {adr : List UInt8} {f0 k o : Nat} {al : List (List UInt8)} {os : List Int} {a : List UInt8} (h : CutR n adr f0 al os) (hk : k < 256) (hak : al[k]? = some a) (hok : os[k]? = some (o : Int)) (ho : o < 8 * n) :
    CutR n adr f0 (al ++ [flip1 a o]) (os.set k ((o + 1 : Nat) : Int) ++ [((o + 1 : Nat) : Int)]) := by
  have hka := (List.getElem?_eq_some_iff.1 hak).1
  have hko := (List.getElem?_eq_some_iff.1 hok).1
  have hal := h.all a (List.mem_of_getElem? hak)
  have hz := h.zer k a o hak hok o (by simp) ho
  refine ⟨by simp [h.len], ?_, ?_, ?_, ?_, ?_, ?_⟩
  · intro a' h'
    rcases List.mem_append.1 h' with h' | h'
    · exact h.all a' h'
    · simp at h'; subst h'; rw [flip1_length, hal]
  · intro z h'
    rcases List.mem_append.1 h' with h' | h'
    · rcases List.mem_or_eq_of_mem_set h' with h' | h'
      · exact h.ons z h'
      · subst h'; omega
    · simp at h'; omega
  · intro i a' z h1 h2 j hj1 hj2
    by_cases hi : i < al.length
    · rw [List.getElem?_append_left hi] at h1
      rw [List.getElem?_append_left (by simp [h.len]; omega)] at h2
      by_cases hik : i = k
      · subst hik
        rw [List.getElem?_set_self hko] at h2
        injection h2 with h2
        subst h2
        rw [hak] at h1
        injection h1 with h1
        subst h1
        exact h.zer i a o hak hok j (by simp at hj1 ⊢; omega) hj2
      · rw [List.getElem?_set_ne (fun e => hik e.symm)] at h2
        exact h.zer i a' z h1 h2 j hj1 hj2
    · have hi2 : i = al.length := by
        have := (List.getElem?_eq_some_iff.1 h1).1
        simp at this; omega
      subst hi2
      rw [List.getElem?_append_right (Nat.le_refl _), Nat.sub_self] at h1
      rw [List.getElem?_append_right (by simp [h.len])] at h2
      simp [h.len] at h1 h2
      subst h1 h2
      rw [bitAt_flip1 (by omega), if_neg (by omega)]
      exact h.zer k a o hak hok j (by simp; omega) hj2
  · intro b hb
    rw [holdL_snoc (by simp [h.len]), ← h.cnt b hb]
    have h1 := holdL_set (b := b) (z' := ((o + 1 : Nat) : Int)) hak hok
    have h2 := inNet_halves (b := b) hal hb ho hz
    rw [hal, Int.toNat_natCast, Int.toNat_natCast] at h1
    rw [flip1_length, hal, Int.toNat_natCast]
    omega
  · rw [List.getElem?_append_left (by omega)]; exact h.first
  · have h1 := h.bound
    have h2 := sum_set (l := os.take 256) (k := k) (z := (o : Int)) (z' := ((o + 1 : Nat) : Int)) (by rw [List.getElem?_take, if_pos hk]; exact hok)
    have h3 := sum_app_take (l := os.set k ((o + 1 : Nat) : Int)) (z := ((o + 1 : Nat) : Int)) (by omega)
    rw [List.take_set] at h3
    simp only [List.length_append, List.length_cons, List.length_nil]
    omega
end Go.Proofs.Ytknajppjgdhbfaa
