/-
  Joined: V6L, V6M, HexL, T6L, V6I.
-/
import Derived.Test.YtmfcgglgolajnaaDoorMA
import Derived.Test.YtmfcgglgolajnaaDoorMB
import Derived.Test.YtmfcgglgolajnaaDoorMC
import Derived.Lib.SliceRun
/-
  Groups of hexadecimal digits and how they are read. No program is named here.
-/
namespace Go.Proofs.YtmfcgglgolajnaaDoor

/-- The value of a hexadecimal digit. -/
def hexD (c : UInt8) : Option Nat :=
  if 48 ≤ c.toNat ∧ c.toNat ≤ 57 then some (c.toNat - 48) else if 97 ≤ c.toNat ∧ c.toNat ≤ 102 then some (c.toNat - 87) else if 65 ≤ c.toNat ∧ c.toNat ≤ 70 then some (c.toNat - 55) else none
theorem hexD_lt {c : UInt8} {d : Nat} (h : hexD c = some d) : d < 16 := by
  unfold hexD at h
  split at h
  · injection h with h; omega
  · split at h
    · injection h with h; omega
    · split at h
      · injection h with h; omega
      · cases h

/-- The digits that a text begins with: how many, their number, and what is left; from n digits of number a on. -/
def hexGo : List UInt8 → Nat → Nat → Nat × Nat × List UInt8
  | [], n, a => (n, a, [])
  | c :: r, n, a => match hexD c with
    | some d => hexGo r (n + 1) (a * 16 + d)
    | none => (n, a, c :: r)
/-- .. where there are more than four: nothing. -/
def grp : List UInt8 → Nat → Nat → Option (Nat × Nat × List UInt8)
  | [], n, a => some (n, a, [])
  | c :: r, n, a => match hexD c with
    | some d => if 3 < n then none else grp r (n + 1) (a * 16 + d)
    | none => some (n, a, c :: r)
theorem grp_cons (c : UInt8) (r : List UInt8) (n a : Nat) : grp (c :: r) n a = match hexD c with | some d => if 3 < n then none else grp r (n + 1) (a * 16 + d) | none => some (n, a, c :: r) := by rw [grp]
theorem grp_bound : ∀ (s : List UInt8) (n a : Nat) (m b : Nat) (r : List UInt8), grp s n a = some (m, b, r) → n ≤ 4 → a < 16 ^ n → m ≤ 4 ∧ b < 16 ^ m ∧ n ≤ m ∧ ∃ h, s = h ++ r ∧ h.length = m - n
  | [], n, a, m, b, r, h, hn, ha => by
    simp only [grp, Option.some.injEq, Prod.mk.injEq] at h
    obtain ⟨rfl, rfl, rfl⟩ := h
    exact ⟨hn, ha, Nat.le_refl _, [], rfl, by simp⟩
  | c :: t, n, a, m, b, r, h, hn, ha => by
    unfold grp at h
    cases hd : hexD c with
    | none =>
      rw [hd] at h
      simp only [Option.some.injEq, Prod.mk.injEq] at h
      obtain ⟨rfl, rfl, rfl⟩ := h
      exact ⟨hn, ha, Nat.le_refl _, [], rfl, by simp⟩
    | some d =>
      rw [hd] at h
      by_cases h3 : 3 < n
      · simp [h3] at h
      · simp only [h3, if_false] at h
        have hlt := hexD_lt hd
        obtain ⟨q1, q2, q3, l, q4, q5⟩ := grp_bound t (n + 1) (a * 16 + d) m b r h (by omega) (by rw [Nat.pow_succ]; omega)
        exact ⟨q1, q2, by omega, c :: l, by rw [q4]; rfl, by simp [q5]; omega⟩

/-- The end: all must have been read; a gap is filled with zeros. -/
def fin6 (s : List UInt8) (ell : Option Nat) (done : List UInt8) : Option (List UInt8) :=
  if s ≠ [] then none
  else if done.length < 16 then (match ell with | none => none | some e => some (done.take e ++ List.replicate (16 - done.length) 0 ++ done.drop e))
  else (match ell with | none => some done | some _ => none)
/-- Two bytes of a number. -/
def two6 (a : Nat) : List UInt8 := [UInt8.ofNat (a / 256), UInt8.ofNat (a % 256)]

/-- One round: the group is read; what is left behind it is r. -/
def v6next (go : List UInt8 → Option Nat → List UInt8 → Option (List UInt8)) (r : List UInt8) (ell : Option Nat) (done : List UInt8) : Option (List UInt8) :=
  match r with
  | [] => fin6 [] ell done
  | c :: r1 =>
    if c ≠ 58 then none
    else match r1 with
      | [] => none
      | d :: r2 => if d = 58 then (if ell ≠ none then none else if r2 = [] then fin6 [] (some done.length) done else go r2 (some done.length) done) else go (d :: r2) ell done
def v6go : Nat → List UInt8 → Option Nat → List UInt8 → Option (List UInt8)
  | 0, s, ell, done => fin6 s ell done
  | n + 1, s, ell, done =>
    match grp s 0 0 with
    | none => none
    | some (m, a, r) =>
      if m = 0 then none
      else if r.head? = some 46 then
        (if ell = none ∧ done.length ≠ 12 then none else if 12 < done.length then none else match v4go s 0 0 [] with | none => none | some fs => fin6 [] ell (done ++ fs))
      else v6next (v6go n) r ell (done ++ two6 a)
theorem v6go_eq {n m a : Nat} {s r : List UInt8} {ell : Option Nat} {done : List UInt8} (h : grp s 0 0 = some (m, a, r)) : v6go (n + 1) s ell done = if m = 0 then none else if r.head? = some 46 then (if ell = none ∧ done.length ≠ 12 then none else if 12 < done.length then none else match v4go s 0 0 [] with | none => none | some fs => fin6 [] ell (done ++ fs)) else v6next (v6go n) r ell (done ++ two6 a) := by rw [v6go, h]
theorem v6next_gap' (go : List UInt8 → Option Nat → List UInt8 → Option (List UInt8)) (r done : List UInt8) : v6next go (58 :: 58 :: r) none done = if r = [] then fin6 [] (some done.length) done else go r (some done.length) done := by simp [v6next]
theorem v6next_go' (go : List UInt8 → Option Nat → List UInt8 → Option (List UInt8)) {d : UInt8} (h : d ≠ 58) (r : List UInt8) (ell : Option Nat) (done : List UInt8) : v6next go (58 :: d :: r) ell done = go (d :: r) ell done := by simp [v6next, h]
/-- A text without a zone. -/
def v6 (s : List UInt8) : Option (List UInt8) :=
  match s with
  | 58 :: 58 :: r => if r = [] then some (List.replicate 16 0) else v6go 8 r (some 0) []
  | s => v6go 8 s none []
end Go.Proofs.YtmfcgglgolajnaaDoor
/-
  The 16 bytes that parseIPv6 fills: written in a row, shifted for the gap. No program is named here.
-/
namespace Go.Proofs.YtmfcgglgolajnaaDoor
open Go.RowKit
set_option linter.unusedVariables false

theorem put4_put4 {xs : List Value} {done fs : List UInt8} (h : done.length + fs.length ≤ xs.length) : put4 (put4 xs 0 done) done.length fs = put4 xs 0 (done ++ fs) := by
  unfold put4
  simp only [List.take_zero, List.nil_append, Nat.zero_add]
  have h1 : ((done.map fun b => Value.int .u8 (b.toNat : Int)) ++ xs.drop done.length).take done.length = done.map fun b => Value.int .u8 (b.toNat : Int) := by
    rw [List.take_append_of_le_length (by simp)]; rw [List.take_of_length_le (by simp)]
  have h2 : ((done.map fun b => Value.int .u8 (b.toNat : Int)) ++ xs.drop done.length).drop (done.length + fs.length) = xs.drop (done ++ fs).length := by
    rw [List.drop_append, List.drop_eq_nil_of_le (by simp), List.nil_append, List.length_map, List.drop_drop, List.length_append]
    congr 1
    omega
  rw [h1, h2, List.map_append, List.append_assoc]

/-- Sixteen zeros, as values. -/
def zs16 : List Value := List.replicate 16 (.int .u8 0)
/-- The bytes at hand: as many as are done, and zeros. -/
def by0 (done : List UInt8) : List UInt8 := done ++ List.replicate (16 - done.length) 0
theorem by0_length {done : List UInt8} (h : done.length ≤ 16) : (by0 done).length = 16 := by unfold by0; simp; omega
def byV (bs : List UInt8) : List Value := bs.map fun b => .int .u8 (b.toNat : Int)
theorem put4_by0 {done : List UInt8} (h : done.length ≤ 16) : put4 zs16 0 done = byV (by0 done) := by
  unfold put4 zs16 by0 byV
  simp only [List.take_zero, List.nil_append, Nat.zero_add, List.map_append, List.map_replicate, List.drop_replicate]
  rfl

/-- The gap is being made: the last ones from k on stand n further on. -/
def shif (done : List UInt8) (n k : Nat) : List UInt8 := (by0 done).take (k + n) ++ done.drop k
theorem shif_start {done : List UInt8} {n : Nat} (h : done.length + n = 16) : shif done n done.length = by0 done := by
  unfold shif
  rw [List.drop_length, List.append_nil, List.take_of_length_le (by rw [by0_length (by omega)]; omega)]
theorem shif_length {done : List UInt8} {n k : Nat} (h : done.length + n = 16) (hk : k ≤ done.length) : (shif done n k).length = 16 := by
  unfold shif
  rw [List.length_append, List.length_take, by0_length (by omega), List.length_drop]
  omega
theorem shif_get {done : List UInt8} {n k : Nat} (h : done.length + n = 16) (hn : 0 < n) (hk : k < done.length) : (shif done n (k + 1))[k]? = done[k]? := by
  unfold shif
  rw [List.getElem?_append_left (by rw [List.length_take, by0_length (by omega)]; omega), List.getElem?_take, if_pos (by omega)]
  unfold by0
  rw [List.getElem?_append_left hk]
theorem shif_step {done : List UInt8} {n k : Nat} {x : UInt8} (h : done.length + n = 16) (hk : k < done.length) (hx : done[k]? = some x) : (shif done n (k + 1)).set (k + n) x = shif done n k := by
  have hl : (by0 done).length = 16 := by0_length (by omega)
  unfold shif
  have e1 : (by0 done).take (k + 1 + n) = (by0 done).take (k + n) ++ [(by0 done)[k + n]'(by omega)] := by
    rw [show k + 1 + n = (k + n) + 1 by omega, List.take_succ_eq_append_getElem (by omega)]
  have e2 : done.drop k = x :: done.drop (k + 1) := by
    rw [List.getElem?_eq_getElem hk] at hx
    injection hx with hx
    rw [← hx]
    exact (List.getElem_cons_drop hk).symm
  rw [e1, e2, List.set_append_left (i := k + n) _ (by simp; omega), List.set_append_right (i := k + n) _ (by simp; omega)]
  rw [show k + n - ((by0 done).take (k + n)).length = 0 by simp; omega]
  simp
/-- .. and filled with zeros. -/
theorem shif_clear {done : List UInt8} {n e : Nat} (h : done.length + n = 16) (he : e ≤ done.length) :
    (shif done n e).take e ++ List.replicate n 0 ++ (shif done n e).drop (e + n) = done.take e ++ List.replicate n 0 ++ done.drop e := by
  have hl : (by0 done).length = 16 := by0_length (by omega)
  have h1 : (shif done n e).take e = done.take e := by
    unfold shif
    rw [List.take_append_of_le_length (by rw [List.length_take, hl]; omega), List.take_take, Nat.min_eq_left (by omega)]
    unfold by0
    rw [List.take_append_of_le_length he]
  have h2 : (shif done n e).drop (e + n) = done.drop e := by
    unfold shif
    rw [List.drop_append, List.drop_eq_nil_of_le (by rw [List.length_take]; omega), List.nil_append, List.length_take, hl, show e + n - min (e + n) 16 = 0 by omega, List.drop_zero]
  rw [h1, h2]

/-- What the block of sixteen bytes holds now; all else is as it was in W. -/
def IP6 (W : World) (g : Nat) (t : TypeId) (bs : List UInt8) (wr : World) : Prop :=
  Blk wr g t (byV bs) ∧ Kept (just g) W wr ∧ wr.os = W.os ∧ wr.tape = W.tape ∧ wr.output = W.output ∧ wr.heap.size = W.heap.size
theorem IP6.of_fw {W wr : World} {g : Nat} {t : TypeId} {done : List UInt8} (h : FW W g t zs16 0 done wr) (hd : done.length ≤ 16) : IP6 W g t (by0 done) wr := by
  obtain ⟨h1, h2⟩ := h
  rw [put4_by0 hd] at h1
  exact ⟨h1, h2⟩
theorem IP6.set {W wr : World} {g : Nat} {t : TypeId} {bs : List UInt8} (h : IP6 W g t bs wr) (i : Nat) (x : UInt8) : IP6 W g t (bs.set i x) (wr.setCell ⟨g, i, none⟩ (.int .u8 (x.toNat : Int))) := by
  obtain ⟨h1, h2, h3, h4, h5, h6⟩ := h
  refine ⟨?_, h2.trans Kept.setCell, h3, h4, h5, by simp [World.setCell, h6]⟩
  have := h1.set_ i (.int .u8 (x.toNat : Int))
  unfold byV at this ⊢
  rw [List.map_set]
  exact this
theorem set_zero {bs : List UInt8} {o n : Nat} (h : o + (n + 1) ≤ bs.length) : (bs.set o 0).take (o + 1) ++ List.replicate n 0 ++ (bs.set o 0).drop (o + 1 + n) = bs.take o ++ List.replicate (n + 1) 0 ++ bs.drop (o + (n + 1)) := by
  have h1 : (bs.set o 0).take (o + 1) = bs.take o ++ [0] := by
    rw [List.take_succ_eq_append_getElem (by simp; omega), List.getElem_set_self, List.take_set_of_le (Nat.le_refl _)]
  rw [h1, List.drop_set_of_lt (by omega), List.replicate_succ]
  simp [Nat.add_comm, Nat.add_left_comm]
theorem IP6.clear {W : World} {g : Nat} {t : TypeId} : ∀ (n o : Nat) (bs : List UInt8) (wr : World), IP6 W g t bs wr → o + n ≤ bs.length → IP6 W g t (bs.take o ++ List.replicate n 0 ++ bs.drop (o + n)) (wr.setCells g o (List.replicate n (.int .u8 0)))
  | 0, o, bs, wr, h, _ => by
    have e : bs.take o ++ List.replicate 0 0 ++ bs.drop (o + 0) = bs := by simp
    rw [e]; exact h
  | n + 1, o, bs, wr, h, hl => by
    have h1 := IP6.clear n (o + 1) (bs.set o 0) (wr.setCell ⟨g, o, none⟩ (.int .u8 0)) (h.set o 0) (by simp; omega)
    rw [set_zero (by omega)] at h1
    exact h1
theorem IP6.below {W wr : World} {g : Nat} {t : TypeId} {bs : List UInt8} (h : IP6 W g t bs wr) {B : Nat} (hB : B ≤ g) (hw : B ≤ W.heap.size) : Below B W wr :=
  ⟨h.2.2.1, h.2.2.2.1, h.2.2.2.2.1, h.2.1.1, fun k hk => h.2.1.2 k (by omega) (by unfold just; omega)⟩
theorem FW.join {W w1 wr : World} {g : Nat} {t : TypeId} {done fs : List UInt8} (h : FW W g t zs16 0 done w1) (k : FW w1 g t (put4 zs16 0 done) done.length fs wr) (hl : done.length + fs.length ≤ 16) : FW W g t zs16 0 (done ++ fs) wr := by
  obtain ⟨h1, h2, h3, h4, h5, h6⟩ := h
  obtain ⟨k1, k2, k3, k4, k5, k6⟩ := k
  rw [put4_put4 (by unfold zs16; simpa using hl)] at k1
  exact ⟨k1, h2.trans k2, k3.trans h3, k4.trans h4, k5.trans h5, k6.trans h6⟩
end Go.Proofs.YtmfcgglgolajnaaDoor
/-
  Numbers in hexadecimal digits. No program is named here.
-/
namespace Go.Proofs.YtmfcgglgolajnaaDoor
set_option linter.unusedVariables false

def hdig (d : Nat) : UInt8 := UInt8.ofNat (if d < 10 then 48 + d else 87 + d)
theorem hexD_hdig {d : Nat} (h : d < 16) : hexD (hdig d) = some d := by
  match d, h with
  | 0, _ => rfl
  | 1, _ => rfl
  | 2, _ => rfl
  | 3, _ => rfl
  | 4, _ => rfl
  | 5, _ => rfl
  | 6, _ => rfl
  | 7, _ => rfl
  | 8, _ => rfl
  | 9, _ => rfl
  | 10, _ => rfl
  | 11, _ => rfl
  | 12, _ => rfl
  | 13, _ => rfl
  | 14, _ => rfl
  | 15, _ => rfl
  | n + 16, h => exact absurd h (by omega)
theorem hex_at {q : Nat} (h : q < 16) : (ByteArray.mk #[48, 49, 50, 51, 52, 53, 54, 55, 56, 57, 97, 98, 99, 100, 101, 102])[q]'(by simp [ByteArray.size]; omega) = hdig q := by
  match q, h with
  | 0, _ => rfl
  | 1, _ => rfl
  | 2, _ => rfl
  | 3, _ => rfl
  | 4, _ => rfl
  | 5, _ => rfl
  | 6, _ => rfl
  | 7, _ => rfl
  | 8, _ => rfl
  | 9, _ => rfl
  | 10, _ => rfl
  | 11, _ => rfl
  | 12, _ => rfl
  | 13, _ => rfl
  | 14, _ => rfl
  | 15, _ => rfl
  | n + 16, h => exact absurd h (by omega)
theorem hex_slice {d : Nat} (h : d < 16) : (ByteArray.mk #[48, 49, 50, 51, 52, 53, 54, 55, 56, 57, 97, 98, 99, 100, 101, 102]).extract d (d + 1) = ⟨#[hdig d]⟩ := by
  have key : ∀ e : Fin 16, (ByteArray.mk #[48, 49, 50, 51, 52, 53, 54, 55, 56, 57, 97, 98, 99, 100, 101, 102]).extract e.val (e.val + 1) = ⟨#[hdig e.val]⟩ := by decide +kernel
  exact key ⟨d, h⟩
/-- A number in hexadecimal digits. -/
def hexL (n : Nat) : List UInt8 := if h : n < 16 then [hdig n] else hexL (n / 16) ++ [hdig (n % 16)]
termination_by n
decreasing_by omega
theorem hexL_small {n : Nat} (h : n < 16) : hexL n = [hdig n] := by rw [hexL, dif_pos h]
theorem hexL_big {n : Nat} (h : ¬ n < 16) : hexL n = hexL (n / 16) ++ [hdig (n % 16)] := by rw [hexL, dif_neg h]
theorem hexL_2 {n : Nat} (h1 : ¬ n < 16) (h2 : n < 256) : hexL n = [hdig (n / 16), hdig (n % 16)] := by rw [hexL_big h1, hexL_small (by omega)]; rfl
theorem hexL_3 {n : Nat} (h1 : ¬ n < 256) (h2 : n < 4096) : hexL n = [hdig (n / 256), hdig (n / 16 % 16), hdig (n % 16)] := by
  rw [hexL_big (by omega), hexL_2 (by omega) (by omega), Nat.div_div_eq_div_mul]; rfl
theorem hexL_4 {n : Nat} (h1 : ¬ n < 4096) (h2 : n < 65536) : hexL n = [hdig (n / 4096), hdig (n / 256 % 16), hdig (n / 16 % 16), hdig (n % 16)] := by
  rw [hexL_big (by omega), hexL_3 (by omega) (by omega), Nat.div_div_eq_div_mul, Nat.div_div_eq_div_mul]; rfl
theorem hexL_ne (n : Nat) : hexL n ≠ [] := by
  by_cases h : n < 16
  · rw [hexL_small h]; simp
  · rw [hexL_big h]; simp
theorem hexL_len {n : Nat} (h : n < 65536) : (hexL n).length ≤ 4 := by
  by_cases h1 : n < 16
  · rw [hexL_small h1]; simp
  · by_cases h2 : n < 256
    · rw [hexL_2 h1 h2]; simp
    · by_cases h3 : n < 4096
      · rw [hexL_3 h2 h3]; simp
      · rw [hexL_4 h3 h]; simp
theorem hexL_hex (n : Nat) : ∀ c ∈ hexL n, ∃ d, d < 16 ∧ c = hdig d := by
  induction n using Nat.strongRecOn with
  | ind n ih =>
    intro c hc
    by_cases h : n < 16
    · rw [hexL_small h, List.mem_singleton] at hc; exact ⟨n, h, hc⟩
    · rw [hexL_big h] at hc
      rcases List.mem_append.1 hc with hc | hc
      · exact ih (n / 16) (by omega) c hc
      · rw [List.mem_singleton] at hc; exact ⟨n % 16, Nat.mod_lt _ (by omega), hc⟩
theorem grp_hexL (n : Nat) : ∀ r : List UInt8, (hexL n).length ≤ 4 → grp (hexL n ++ r) 0 0 = grp r (hexL n).length n := by
  induction n using Nat.strongRecOn with
  | ind n ih =>
    intro r hl
    by_cases h : n < 16
    · rw [hexL_small h]
      simp only [List.cons_append, List.nil_append, grp, hexD_hdig h]
      simp
    · have hd : n % 16 < 16 := Nat.mod_lt _ (by omega)
      rw [hexL_big h] at hl ⊢
      rw [List.length_append] at hl
      simp at hl
      rw [List.append_assoc, ih (n / 16) (by omega) _ (by omega)]
      simp only [List.cons_append, List.nil_append, grp, hexD_hdig hd]
      rw [if_neg (by omega), List.length_append, show n / 16 * 16 + n % 16 = n by omega]
      rfl
/-- A digit is none of the marks. -/
theorem hdig_ne {d : Nat} (h : d < 16) : hdig d ≠ 46 ∧ hdig d ≠ 58 ∧ hdig d ≠ 37 := by
  have key : ∀ e : Fin 16, hdig e.val ≠ 46 ∧ hdig e.val ≠ 58 ∧ hdig e.val ≠ 37 := by decide +kernel
  exact key ⟨d, h⟩
theorem scan_hex {s : List UInt8} (h : ∀ c ∈ s, ∃ d, d < 16 ∧ c = hdig d) (r : List UInt8) : scanL (s ++ r) = scanL r := by
  unfold scanL
  rw [List.find?_append, List.find?_eq_none.2 (fun c hc => by
    obtain ⟨d, hd, rfl⟩ := h c hc
    obtain ⟨h1, h2, h3⟩ := hdig_ne hd
    unfold isSpec; simp [h1, h2, h3])]
  rfl
theorem scan_colon (r : List UInt8) : scanL (58 :: r) = some 58 := rfl
end Go.Proofs.YtmfcgglgolajnaaDoor
/-
  The text of eight groups: the longest stretch of zeros left out. No program is named here.
-/
namespace Go.Proofs.YtmfcgglgolajnaaDoor
set_option linter.unusedVariables false

/-- Where the zeros that begin at j end. -/
def zrun (g : Nat → Nat) : Nat → Nat → Nat
  | 0, j => j
  | n + 1, j => if g j = 0 then zrun g n (j + 1) else j
theorem zrun_bound (g : Nat → Nat) : ∀ n j, j ≤ zrun g n j ∧ zrun g n j ≤ j + n
  | 0, j => ⟨Nat.le_refl _, Nat.le_refl _⟩
  | n + 1, j => by
    unfold zrun
    split
    · have := zrun_bound g n (j + 1); omega
    · omega
def zend (g : Nat → Nat) (i : Nat) : Nat := zrun g (8 - i) i
theorem zend_le (g : Nat → Nat) {i : Nat} (h : i ≤ 8) : i ≤ zend g i ∧ zend g i ≤ 8 := by
  have := zrun_bound g (8 - i) i
  unfold zend; omega
/-- The stretch that is left out, of those that begin before k: its begin and its end; 255 and 255 if there is none. -/
def zfind (g : Nat → Nat) : Nat → Nat × Nat
  | 0 => (255, 255)
  | k + 1 => if 2 ≤ zend g k - k ∧ (zfind g k).2 - (zfind g k).1 < zend g k - k then (k, zend g k) else zfind g k
theorem zfind_or (g : Nat → Nat) : ∀ k, k ≤ 8 → zfind g k = (255, 255) ∨ ((zfind g k).1 < k ∧ (zfind g k).1 + 2 ≤ (zfind g k).2 ∧ (zfind g k).2 = zend g (zfind g k).1 ∧ (zfind g k).2 ≤ 8)
  | 0, _ => Or.inl rfl
  | k + 1, hk => by
    have := zend_le g (show k ≤ 8 by omega)
    unfold zfind
    split
    · rename_i h
      exact Or.inr ⟨by simp, by simp; omega, rfl, by simp; omega⟩
    · rcases zfind_or g k (by omega) with h | ⟨h1, h2, h3, h4⟩
      · exact Or.inl h
      · exact Or.inr ⟨by omega, h2, h3, h4⟩
theorem zfind_le (g : Nat → Nat) {k : Nat} (hk : k ≤ 8) : (zfind g k).1 ≤ (zfind g k).2 ∧ (zfind g k).2 ≤ 255 := by
  rcases zfind_or g k hk with h | ⟨h1, h2, h3, h4⟩
  · rw [h]; simp
  · omega
/-- What is written from group i on. -/
def w6 (g : Nat → Nat) (zs ze : Nat) : Nat → Nat → List UInt8
  | 0, _ => []
  | n + 1, i =>
    if i < 8 then
      (if i = zs then 58 :: 58 :: (if ze < 8 then hexL (g ze) ++ w6 g zs ze n (ze + 1) else [])
       else (if 0 < i then [58] else []) ++ (hexL (g i) ++ w6 g zs ze n (i + 1)))
    else []
theorem w6_end (g : Nat → Nat) (zs ze : Nat) : ∀ n i, 8 ≤ i → w6 g zs ze n i = []
  | 0, _, _ => rfl
  | n + 1, i, h => by unfold w6; rw [if_neg (by omega)]
theorem w6_fuel (g : Nat → Nat) (zs ze : Nat) (hz : zs < 8 → zs < ze) : ∀ n m i, 8 - i ≤ n → 8 - i ≤ m → w6 g zs ze n i = w6 g zs ze m i
  | 0, m, i, hn, hm => by rw [w6_end g zs ze m i (by omega)]; rfl
  | n + 1, 0, i, hn, hm => by rw [w6_end g zs ze (n + 1) i (by omega)]; rfl
  | n + 1, m + 1, i, hn, hm => by
    unfold w6
    by_cases hi : i < 8
    · rw [if_pos hi, if_pos hi]
      by_cases he : i = zs
      · rw [if_pos he, if_pos he]
        by_cases h8 : ze < 8
        · rw [if_pos h8, if_pos h8, w6_fuel g zs ze hz n m (ze + 1) (by omega) (by omega)]
        · rw [if_neg h8, if_neg h8]
      · rw [if_neg he, if_neg he, w6_fuel g zs ze hz n m (i + 1) (by omega) (by omega)]
    · rw [if_neg hi, if_neg hi]
/-- The text of the groups g. -/
def txt6 (g : Nat → Nat) : List UInt8 := w6 g (zfind g 8).1 (zfind g 8).2 8 0
end Go.Proofs.YtmfcgglgolajnaaDoor
/-
  The text of eight groups is read to the groups. No program is named here.
-/
namespace Go.Proofs.YtmfcgglgolajnaaDoor
set_option linter.unusedVariables false

theorem w6_fuel' (g : Nat → Nat) (zs ze : Nat) (hz : zs < 8 → zs < ze) (n m i : Nat) (hn : 8 - i ≤ n) (hm : 8 - i ≤ m) : w6 g zs ze n i = w6 g zs ze m i := w6_fuel g zs ze hz n m i hn hm
/-- The bytes of the groups from i on, n of them. -/
def seg (g : Nat → Nat) : Nat → Nat → List UInt8
  | _, 0 => []
  | i, n + 1 => two6 (g i) ++ seg g (i + 1) n
theorem seg_length (g : Nat → Nat) : ∀ i n, (seg g i n).length = 2 * n
  | _, 0 => rfl
  | i, n + 1 => by unfold seg; rw [List.length_append, seg_length g (i + 1) n]; simp [two6]; omega
theorem seg_append (g : Nat → Nat) : ∀ n i m, seg g i (n + m) = seg g i n ++ seg g (i + n) m
  | 0, i, m => by simp [seg]
  | n + 1, i, m => by
    rw [show n + 1 + m = (n + m) + 1 by omega]
    show two6 (g i) ++ seg g (i + 1) (n + m) = (two6 (g i) ++ seg g (i + 1) n) ++ seg g (i + (n + 1)) m
    rw [seg_append g n (i + 1) m, List.append_assoc, show i + 1 + n = i + (n + 1) by omega]
theorem seg_zero (g : Nat → Nat) : ∀ n i, (∀ j, i ≤ j → j < i + n → g j = 0) → seg g i n = List.replicate (2 * n) 0
  | 0, i, _ => rfl
  | n + 1, i, h => by
    unfold seg
    rw [h i (Nat.le_refl _) (by omega), seg_zero g n (i + 1) (fun j h1 h2 => h j (by omega) (by omega)), show 2 * (n + 1) = 2 + 2 * n by omega, ← List.replicate_append_replicate]
    rfl
theorem zrun_zero (g : Nat → Nat) : ∀ n i j, i ≤ j → j < zrun g n i → g j = 0
  | 0, i, j, h1, h2 => by simp only [zrun] at h2; omega
  | n + 1, i, j, h1, h2 => by
    unfold zrun at h2
    split at h2
    · rename_i h0
      by_cases e : j = i
      · rw [e]; exact h0
      · exact zrun_zero g n (i + 1) j (by omega) h2
    · omega

/-- What is written from group i on, with nothing ahead of it. -/
def body (g : Nat → Nat) (zs ze i : Nat) : List UInt8 := hexL (g i) ++ w6 g zs ze (8 - (i + 1)) (i + 1)
theorem w6_at {g : Nat → Nat} {zs ze i n : Nat} (hz : zs < 8 → zs < ze) (h8 : i < 8) (hn : 8 - i ≤ n) (hi : i ≠ zs) (h0 : 0 < i) : w6 g zs ze n i = 58 :: body g zs ze i := by
  obtain ⟨m, rfl⟩ : ∃ m, n = m + 1 := ⟨n - 1, by omega⟩
  unfold w6 body
  rw [if_pos h8, if_neg hi, if_pos h0, w6_fuel g zs ze hz m (8 - (i + 1)) (i + 1) (by omega) (Nat.le_refl _)]
  rfl
theorem w6_gap {g : Nat → Nat} {zs ze n : Nat} (hz : zs < ze) (h8 : zs < 8) (hn : 8 - zs ≤ n) : w6 g zs ze n zs = 58 :: 58 :: (if ze < 8 then body g zs ze ze else []) := by
  obtain ⟨m, rfl⟩ : ∃ m, n = m + 1 := ⟨n - 1, by omega⟩
  unfold w6
  rw [if_pos h8, if_pos rfl]
  by_cases he : ze < 8
  · rw [if_pos he, if_pos he]
    unfold body
    rw [w6_fuel g zs ze (fun _ => hz) m (8 - (ze + 1)) (ze + 1) (by omega) (Nat.le_refl _)]
  · rw [if_neg he, if_neg he]
theorem body_cons (g : Nat → Nat) (zs ze i : Nat) : ∃ d r, body g zs ze i = d :: r ∧ d ≠ 58 := by
  unfold body
  cases h : hexL (g i) with
  | nil => exact absurd h (hexL_ne _)
  | cons d r =>
    obtain ⟨q, hq, e⟩ := hexL_hex (g i) d (by rw [h]; simp)
    exact ⟨d, _, rfl, by rw [e]; exact (hdig_ne hq).2.1⟩
theorem hexD_colon : hexD 58 = none := by decide
theorem grp_colon (r : List UInt8) (n a : Nat) : grp (58 :: r) n a = some (n, a, 58 :: r) := by rw [grp_cons, hexD_colon]

theorem v6next_gap (go : List UInt8 → Option Nat → List UInt8 → Option (List UInt8)) (r done : List UInt8) : v6next go (58 :: 58 :: r) none done = if r = [] then fin6 [] (some done.length) done else go r (some done.length) done := by simp [v6next]
theorem v6next_go (go : List UInt8 → Option Nat → List UInt8 → Option (List UInt8)) {d : UInt8} (h : d ≠ 58) (r : List UInt8) (ell : Option Nat) (done : List UInt8) : v6next go (58 :: d :: r) ell done = go (d :: r) ell done := by simp [v6next, h]

section
variable {g : Nat → Nat} (hg : ∀ i, g i < 65536) {zs ze : Nat} (hz : zs < 8 → zs < ze)

theorem v6go_grp (n x : Nat) (hx : x < 65536) (r : List UInt8) (hr : r = [] ∨ ∃ t, r = 58 :: t) (ell : Option Nat) (done : List UInt8) : v6go (n + 1) (hexL x ++ r) ell done = v6next (v6go n) r ell (done ++ two6 x) := by
  have hl := hexL_len hx
  have hne : (hexL x).length ≠ 0 := fun h => hexL_ne x (List.eq_nil_of_length_eq_zero h)
  have e : grp (hexL x ++ r) 0 0 = some ((hexL x).length, x, r) := by
    rw [grp_hexL x r hl]
    rcases hr with rfl | ⟨t, rfl⟩
    · rfl
    · exact grp_colon _ _ _
  rw [v6go, e]
  show (if (hexL x).length = 0 then none else if r.head? = some 46 then _ else v6next (v6go n) r ell (done ++ two6 x)) = _
  rw [if_neg hne, if_neg (by rcases hr with rfl | ⟨t, rfl⟩ <;> simp)]

include hg hz
/-- The last stretch. -/
theorem read_rest : ∀ (k i n : Nat) (ell : Option Nat) (done : List UInt8), i + k = 7 → k < n → (∀ j, i < j → j < 8 → j ≠ zs) → v6go n (body g zs ze i) ell done = fin6 [] ell (done ++ seg g i (k + 1))
  | 0, i, n, ell, done, hi, hn, hj => by
    obtain ⟨m, rfl⟩ : ∃ m, n = m + 1 := ⟨n - 1, by omega⟩
    have e : w6 g zs ze (8 - (i + 1)) (i + 1) = [] := w6_end _ _ _ _ _ (by omega)
    unfold body
    rw [e, v6go_grp m (g i) (hg i) [] (Or.inl rfl)]
    simp [v6next, seg]
  | k + 1, i, n, ell, done, hi, hn, hj => by
    obtain ⟨m, rfl⟩ : ∃ m, n = m + 1 := ⟨n - 1, by omega⟩
    have e : w6 g zs ze (8 - (i + 1)) (i + 1) = 58 :: body g zs ze (i + 1) := w6_at hz (by omega) (Nat.le_refl _) (hj (i + 1) (by omega) (by omega)) (by omega)
    have ih := read_rest k (i + 1) m ell (done ++ two6 (g i)) (by omega) (by omega) (fun j h1 h2 => hj j (by omega) h2)
    obtain ⟨d, r, hb, hd⟩ := body_cons g zs ze (i + 1)
    unfold body
    rw [e, v6go_grp m (g i) (hg i) _ (Or.inr ⟨_, rfl⟩)]
    rw [hb] at ih ⊢
    rw [v6next_go _ hd, ih, List.append_assoc]
    rfl

/-- Ahead of the gap. -/
theorem read_head : ∀ (k i n : Nat) (done : List UInt8), i + k + 1 = zs → zs < 8 → k + 9 - zs ≤ n → v6go n (body g zs ze i) none done =
    (if ze < 8 then v6go (n - (k + 1)) (body g zs ze ze) (some (done ++ seg g i (k + 1)).length) (done ++ seg g i (k + 1)) else fin6 [] (some (done ++ seg g i (k + 1)).length) (done ++ seg g i (k + 1)))
  | 0, i, n, done, hi, h8, hn => by
    obtain ⟨m, rfl⟩ : ∃ m, n = m + 1 := ⟨n - 1, by omega⟩
    have e : w6 g zs ze (8 - (i + 1)) (i + 1) = 58 :: 58 :: (if ze < 8 then body g zs ze ze else []) := by
      rw [show i + 1 = zs by omega]; exact w6_gap (hz h8) h8 (Nat.le_refl _)
    have hs : seg g i (0 + 1) = two6 (g i) := by simp [seg]
    unfold body at *
    rw [e, v6go_grp m (g i) (hg i) _ (Or.inr ⟨_, rfl⟩), hs]
    by_cases he : ze < 8
    · rw [if_pos he, if_pos he]
      have hb : (hexL (g ze) ++ w6 g zs ze (8 - (ze + 1)) (ze + 1)) ≠ [] := by simp [hexL_ne]
      rw [v6next_gap, if_neg hb]
      rfl
    · rw [if_neg he, if_neg he]
      rw [v6next_gap, if_pos rfl]
  | k + 1, i, n, done, hi, h8, hn => by
    obtain ⟨m, rfl⟩ : ∃ m, n = m + 1 := ⟨n - 1, by omega⟩
    have e : w6 g zs ze (8 - (i + 1)) (i + 1) = 58 :: body g zs ze (i + 1) := w6_at hz (by omega) (Nat.le_refl _) (by omega) (by omega)
    have ih := read_head k (i + 1) m (done ++ two6 (g i)) (by omega) h8 (by omega)
    obtain ⟨d, r, hb, hd⟩ := body_cons g zs ze (i + 1)
    have hs : done ++ two6 (g i) ++ seg g (i + 1) (k + 1) = done ++ seg g i (k + 1 + 1) := by rw [List.append_assoc]; rfl
    rw [hs] at ih
    have e2 : body g zs ze i = hexL (g i) ++ (58 :: d :: r) := by unfold body; rw [e, hb]
    rw [e2, v6go_grp m (g i) (hg i) _ (Or.inr ⟨_, rfl⟩)]
    rw [hb] at ih
    rw [v6next_go _ hd, ih, show m + 1 - (k + 1 + 1) = m - (k + 1) by omega]
end

theorem v6_body (g : Nat → Nat) (zs ze i : Nat) : v6 (body g zs ze i) = v6go 8 (body g zs ze i) none [] := by
  obtain ⟨d, r, hb, hd⟩ := body_cons g zs ze i
  rw [hb]
  unfold v6
  split
  · rename_i q h
    injection h with h
    exact absurd h hd
  · rfl

/-- The text is read to the bytes of the groups. -/
theorem v6_txt6 (g : Nat → Nat) (hg : ∀ i, g i < 65536) : v6 (txt6 g) = some (seg g 0 8) := by
  unfold txt6
  have hor := zfind_or g 8 (Nat.le_refl _)
  generalize hz : zfind g 8 = zf at *
  obtain ⟨zs, ze⟩ := zf
  rcases hor with h | ⟨h1, h2, h3, h4⟩
  · injection h with e1 e2
    subst e1 e2
    have e : w6 g 255 255 8 0 = body g 255 255 0 := by
      unfold body
      show (if 0 < 8 then (if 0 = 255 then _ else (if 0 < 0 then [58] else []) ++ (hexL (g 0) ++ w6 g 255 255 7 (0 + 1))) else []) = _
      rw [if_pos (by omega), if_neg (by omega), if_neg (by omega)]
      rfl
    show v6 (w6 g 255 255 8 0) = _
    rw [e, v6_body, read_rest hg (fun h => by omega) 7 0 8 none [] rfl (by omega) (fun j _ h => by omega)]
    unfold fin6
    rw [if_neg (by simp), List.nil_append, if_neg (by rw [seg_length]; omega)]
  · simp only at h1 h2 h3 h4
    have hzz : zs < 8 → zs < ze := fun _ => by omega
    have hzero : ∀ j, zs ≤ j → j < ze → g j = 0 := fun j a b => zrun_zero g (8 - zs) zs j a (by rw [h3] at b; exact b)
    have hfin : fin6 [] (some (2 * zs)) (seg g 0 zs ++ seg g ze (8 - ze)) = some (seg g 0 8) := by
      unfold fin6
      have hlen : (seg g 0 zs ++ seg g ze (8 - ze)).length = 2 * (zs + (8 - ze)) := by rw [List.length_append, seg_length, seg_length]; omega
      rw [if_neg (by simp), if_pos (by rw [hlen]; omega), hlen]
      have t1 : (seg g 0 zs ++ seg g ze (8 - ze)).take (2 * zs) = seg g 0 zs := by
        rw [List.take_append_of_le_length (by rw [seg_length]; omega), List.take_of_length_le (by rw [seg_length]; omega)]
      have t2 : (seg g 0 zs ++ seg g ze (8 - ze)).drop (2 * zs) = seg g ze (8 - ze) := by
        rw [List.drop_append, List.drop_eq_nil_of_le (by rw [seg_length]; omega), seg_length]; simp
      show some ((seg g 0 zs ++ seg g ze (8 - ze)).take (2 * zs) ++ List.replicate (16 - 2 * (zs + (8 - ze))) 0 ++ (seg g 0 zs ++ seg g ze (8 - ze)).drop (2 * zs)) = _
      rw [t1, t2]
      have s1 : seg g 0 8 = seg g 0 zs ++ (seg g zs (ze - zs) ++ seg g ze (8 - ze)) := by
        rw [show 8 = zs + ((ze - zs) + (8 - ze)) by omega, seg_append g zs 0, Nat.zero_add, seg_append g (ze - zs) zs, show zs + (ze - zs) = ze by omega, show zs + ((ze - zs) + (8 - ze)) - ze = 8 - ze by omega]
      rw [s1, seg_zero g (ze - zs) zs (fun j a b => hzero j a (by omega)), show 16 - 2 * (zs + (8 - ze)) = 2 * (ze - zs) by omega, List.append_assoc]
    by_cases hs0 : zs = 0
    · subst hs0
      show v6 (w6 g 0 ze 8 0) = _
      rw [w6_gap (by omega) (by omega) (by omega)]
      by_cases he : ze < 8
      · rw [if_pos he]
        have hb : body g 0 ze ze ≠ [] := by obtain ⟨d, r, hb, _⟩ := body_cons g 0 ze ze; rw [hb]; simp
        have hv : v6 (58 :: 58 :: body g 0 ze ze) = v6go 8 (body g 0 ze ze) (some 0) [] := by simp [v6, hb]
        rw [hv, read_rest hg (fun _ => by omega) (7 - ze) ze 8 (some 0) [] (by omega) (by omega) (fun j a b => by omega)]
        rw [show 7 - ze + 1 = 8 - ze by omega]
        exact hfin
      · rw [if_neg he]
        obtain rfl : ze = 8 := by omega
        have : seg g 0 8 = List.replicate 16 0 := seg_zero g 8 0 (fun j a b => hzero j a (by omega))
        rw [this]
        simp [v6]
    · have e : w6 g zs ze 8 0 = body g zs ze 0 := by
        unfold body
        show (if 0 < 8 then (if 0 = zs then _ else (if 0 < 0 then [58] else []) ++ (hexL (g 0) ++ w6 g zs ze 7 (0 + 1))) else []) = _
        rw [if_pos (by omega), if_neg (by omega), if_neg (by omega)]
        rfl
      show v6 (w6 g zs ze 8 0) = _
      rw [e, v6_body, read_head hg hzz (zs - 1) 0 8 [] (by omega) h1 (by omega)]
      rw [show zs - 1 + 1 = zs by omega, List.nil_append, seg_length]
      by_cases he : ze < 8
      · rw [if_pos he, read_rest hg hzz (7 - ze) ze (8 - zs) (some (2 * zs)) (seg g 0 zs) (by omega) (by omega) (fun j a b => by omega), show 7 - ze + 1 = 8 - ze by omega]
        exact hfin
      · rw [if_neg he]
        obtain rfl : ze = 8 := by omega
        have : seg g 8 (8 - 8) = [] := rfl
        rw [this, List.append_nil] at hfin
        exact hfin
end Go.Proofs.YtmfcgglgolajnaaDoor
