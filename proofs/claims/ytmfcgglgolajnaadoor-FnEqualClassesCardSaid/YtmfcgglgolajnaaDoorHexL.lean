/-
  Numbers in hexadecimal digits. No program is named here.
-/
import Derived.Test.YtmfcgglgolajnaaDoorV6L
namespace Go.Proofs.YtmfcgglgolajnaaDoor
set_option linter.unusedVariables false

def hdig (d : Nat) : UInt8 := UInt8.ofNat (if d < 10 then 48 + d else 87 + d)
theorem hexD_hdig {d : Nat} (h : d < 16) : hexD (hdig d) = some d := by
  match d, h with
  | 0, _ => rfl
  | 1, _ => rfl
  | 2, _ => rfl
  | 3, _ => rfl
  | 4, _ => rfl
  | 5, _ => rfl
  | 6, _ => rfl
  | 7, _ => rfl
  | 8, _ => rfl
  | 9, _ => rfl
  | 10, _ => rfl
  | 11, _ => rfl
  | 12, _ => rfl
  | 13, _ => rfl
  | 14, _ => rfl
  | 15, _ => rfl
  | n + 16, h => exact absurd h (by omega)
theorem hex_at {q : Nat} (h : q < 16) : (ByteArray.mk #[48, 49, 50, 51, 52, 53, 54, 55, 56, 57, 97, 98, 99, 100, 101, 102])[q]'(by simp [ByteArray.size]; omega) = hdig q := by
  match q, h with
  | 0, _ => rfl
  | 1, _ => rfl
  | 2, _ => rfl
  | 3, _ => rfl
  | 4, _ => rfl
  | 5, _ => rfl
  | 6, _ => rfl
  | 7, _ => rfl
  | 8, _ => rfl
  | 9, _ => rfl
  | 10, _ => rfl
  | 11, _ => rfl
  | 12, _ => rfl
  | 13, _ => rfl
  | 14, _ => rfl
  | 15, _ => rfl
  | n + 16, h => exact absurd h (by omega)
theorem hex_slice {d : Nat} (h : d < 16) : (ByteArray.mk #[48, 49, 50, 51, 52, 53, 54, 55, 56, 57, 97, 98, 99, 100, 101, 102]).extract d (d + 1) = ⟨#[hdig d]⟩ := by
  have key : ∀ e : Fin 16, (ByteArray.mk #[48, 49, 50, 51, 52, 53, 54, 55, 56, 57, 97, 98, 99, 100, 101, 102]).extract e.val (e.val + 1) = ⟨#[hdig e.val]⟩ := by decide +kernel
  exact key ⟨d, h⟩
/-- A number in hexadecimal digits. -/
def hexL (n : Nat) : List UInt8 := if h : n < 16 then [hdig n] else hexL (n / 16) ++ [hdig (n % 16)]
termination_by n
decreasing_by omega
theorem hexL_small {n : Nat} (h : n < 16) : hexL n = [hdig n] := by rw [hexL, dif_pos h]
theorem hexL_big {n : Nat} (h : ¬ n < 16) : hexL n = hexL (n / 16) ++ [hdig (n % 16)] := by rw [hexL, dif_neg h]
theorem hexL_2 {n : Nat} (h1 : ¬ n < 16) (h2 : n < 256) : hexL n = [hdig (n / 16), hdig (n % 16)] := by rw [hexL_big h1, hexL_small (by omega)]; rfl
theorem hexL_3 {n : Nat} (h1 : ¬ n < 256) (h2 : n < 4096) : hexL n = [hdig (n / 256), hdig (n / 16 % 16), hdig (n % 16)] := by
  rw [hexL_big (by omega), hexL_2 (by omega) (by omega), Nat.div_div_eq_div_mul]; rfl
theorem hexL_4 {n : Nat} (h1 : ¬ n < 4096) (h2 : n < 65536) : hexL n = [hdig (n / 4096), hdig (n / 256 % 16), hdig (n / 16 % 16), hdig (n % 16)] := by
  rw [hexL_big (by omega), hexL_3 (by omega) (by omega), Nat.div_div_eq_div_mul, Nat.div_div_eq_div_mul]; rfl
theorem hexL_ne (n : Nat) : hexL n ≠ [] := by
  by_cases h : n < 16
  · rw [hexL_small h]; simp
  · rw [hexL_big h]; simp
theorem hexL_len {n : Nat} (h : n < 65536) : (hexL n).length ≤ 4 := by
  by_cases h1 : n < 16
  · rw [hexL_small h1]; simp
  · by_cases h2 : n < 256
    · rw [hexL_2 h1 h2]; simp
    · by_cases h3 : n < 4096
      · rw [hexL_3 h2 h3]; simp
      · rw [hexL_4 h3 h]; simp
theorem hexL_hex (n : Nat) : ∀ c ∈ hexL n, ∃ d, d < 16 ∧ c = hdig d := by
  induction n using Nat.strongRecOn with
  | ind n ih =>
    intro c hc
    by_cases h : n < 16
    · rw [hexL_small h, List.mem_singleton] at hc; exact ⟨n, h, hc⟩
    · rw [hexL_big h] at hc
      rcases List.mem_append.1 hc with hc | hc
      · exact ih (n / 16) (by omega) c hc
      · rw [List.mem_singleton] at hc; exact ⟨n % 16, Nat.mod_lt _ (by omega), hc⟩
theorem grp_hexL (n : Nat) : ∀ r : List UInt8, (hexL n).length ≤ 4 → grp (hexL n ++ r) 0 0 = grp r (hexL n).length n := by
  induction n using Nat.strongRecOn with
  | ind n ih =>
    intro r hl
    by_cases h : n < 16
    · rw [hexL_small h]
      simp only [List.cons_append, List.nil_append, grp, hexD_hdig h]
      simp
    · have hd : n % 16 < 16 := Nat.mod_lt _ (by omega)
      rw [hexL_big h] at hl ⊢
      rw [List.length_append] at hl
      simp at hl
      rw [List.append_assoc, ih (n / 16) (by omega) _ (by omega)]
      simp only [List.cons_append, List.nil_append, grp, hexD_hdig hd]
      rw [if_neg (by omega), List.length_append, show n / 16 * 16 + n % 16 = n by omega]
      rfl
/-- A digit is none of the marks. -/
theorem hdig_ne {d : Nat} (h : d < 16) : hdig d ≠ 46 ∧ hdig d ≠ 58 ∧ hdig d ≠ 37 := by
  have key : ∀ e : Fin 16, hdig e.val ≠ 46 ∧ hdig e.val ≠ 58 ∧ hdig e.val ≠ 37 := by decide +kernel
  exact key ⟨d, h⟩
theorem scan_hex {s : List UInt8} (h : ∀ c ∈ s, ∃ d, d < 16 ∧ c = hdig d) (r : List UInt8) : scanL (s ++ r) = scanL r := by
  unfold scanL
  rw [List.find?_append, List.find?_eq_none.2 (fun c hc => by
    obtain ⟨d, hd, rfl⟩ := h c hc
    obtain ⟨h1, h2, h3⟩ := hdig_ne hd
    unfold isSpec; simp [h1, h2, h3])]
  rfl
theorem scan_colon (r : List UInt8) : scanL (58 :: r) = some 58 := rfl
end Go.Proofs.YtmfcgglgolajnaaDoor
