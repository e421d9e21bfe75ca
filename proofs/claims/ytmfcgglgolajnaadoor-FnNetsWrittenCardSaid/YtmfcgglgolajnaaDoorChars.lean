/-
  Which bytes the text of an address holds. No program is named here.
-/
import Derived.Test.YtmfcgglgolajnaaDoorMG
namespace Go.Proofs.YtmfcgglgolajnaaDoor
set_option linter.unusedVariables false

/-- A small hexadecimal digit, a full stop or a colon. -/
def okc (c : UInt8) : Bool := isDig c || (decide (97 ≤ c.toNat) && decide (c.toNat ≤ 102)) || decide (c = 46) || decide (c = 58)
theorem okc_hdig {d : Nat} (h : d < 16) : okc (hdig d) = true := by
  have key : ∀ e : Fin 16, okc (hdig e.val) = true := by decide +kernel
  exact key ⟨d, h⟩
theorem okc_dig {c : UInt8} (h : isDig c = true) : okc c = true := by unfold okc; rw [h]; rfl
theorem okc_ne {c : UInt8} (h : okc c = true) : c ≠ 37 ∧ c ≠ 10 ∧ c ≠ 47 := by
  refine ⟨?_, ?_, ?_⟩ <;> (rintro rfl; revert h; decide)
theorem mem_joinL {b : List UInt8} {c : UInt8} : ∀ (l : List (List UInt8)), c ∈ joinL b l → c ∈ b ∨ ∃ s ∈ l, c ∈ s
  | [], h => by simp [joinL] at h
  | [s], h => Or.inr ⟨s, by simp, h⟩
  | s :: t :: l, h => by
    rw [joinL] at h
    rcases List.mem_append.1 h with h | h
    · rcases List.mem_append.1 h with h | h
      · exact Or.inr ⟨s, by simp, h⟩
      · exact Or.inl h
    · rcases mem_joinL (t :: l) h with h | ⟨u, hu, h⟩
      · exact Or.inl h
      · exact Or.inr ⟨u, by simp at hu ⊢; exact Or.inr hu, h⟩
theorem dotsL_okc (ns : List UInt8) : ∀ c ∈ dotsL ns, okc c = true := fun c hc => by
  unfold dotsL at hc
  rcases mem_joinL _ hc with h | ⟨s, hs, h⟩
  · simp at h; subst h; decide
  · obtain ⟨n, _, rfl⟩ := List.mem_map.1 hs
    exact okc_dig (decL_digs _ c h)
theorem hexL_okc (n : Nat) : ∀ c ∈ hexL n, okc c = true := fun c hc => by
  obtain ⟨d, hd, rfl⟩ := hexL_hex n c hc
  exact okc_hdig hd
theorem w6_okc (g : Nat → Nat) (zs ze : Nat) : ∀ n i, ∀ c ∈ w6 g zs ze n i, okc c = true
  | 0, i, c, hc => by simp [w6] at hc
  | n + 1, i, c, hc => by
    unfold w6 at hc
    split at hc
    · split at hc
      · rw [List.mem_cons, List.mem_cons] at hc
        rcases hc with rfl | rfl | hc
        · decide
        · decide
        · split at hc
          · rcases List.mem_append.1 hc with hc | hc
            · exact hexL_okc _ c hc
            · exact w6_okc g zs ze n _ c hc
          · simp at hc
      · rcases List.mem_append.1 hc with hc | hc
        · split at hc
          · simp at hc; subst hc; decide
          · simp at hc
        · rcases List.mem_append.1 hc with hc | hc
          · exact hexL_okc _ c hc
          · exact w6_okc g zs ze n _ c hc
    · simp at hc
theorem ipText_okc (b : List UInt8) : ∀ c ∈ ipText b, okc c = true := fun c hc => by
  unfold ipText at hc
  split at hc
  · exact dotsL_okc _ c hc
  · split at hc
    · exact dotsL_okc _ c hc
    · exact w6_okc _ _ _ _ _ c hc
theorem ipText_no (b : List UInt8) : (37 : UInt8) ∉ ipText b ∧ (10 : UInt8) ∉ ipText b ∧ (47 : UInt8) ∉ ipText b :=
  ⟨fun h => (okc_ne (ipText_okc b _ h)).1 rfl, fun h => (okc_ne (ipText_okc b _ h)).2.1 rfl, fun h => (okc_ne (ipText_okc b _ h)).2.2 rfl⟩
theorem ipText_len (b : List UInt8) (hb : b.length = 4 ∨ b.length = 16) : (ipText b).length ≤ 48 := by
  rcases hb with h4 | h16
  · match b, h4 with
    | [x0, x1, x2, x3], _ =>
      unfold ipText
      rw [if_pos (by simp)]
      have := dotsL_len4 x0 x1 x2 x3
      omega
  · match b, h16 with
    | [x0, x1, x2, x3, x4, x5, x6, x7, x8, x9, x10, x11, x12, x13, x14, x15], _ =>
      unfold ipText
      rw [if_neg (by simp)]
      split
      · have := dotsL_len4 x12 x13 x14 x15
        simp only [List.drop_succ_cons, List.drop_zero]
        omega
      · exact txt6_len _ (grpN_lt _)
end Go.Proofs.YtmfcgglgolajnaaDoor
