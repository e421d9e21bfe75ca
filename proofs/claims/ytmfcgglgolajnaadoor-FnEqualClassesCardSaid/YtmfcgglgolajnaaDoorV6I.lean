/-
  The text of eight groups is read to the groups. No program is named here.
-/
import Derived.Test.YtmfcgglgolajnaaDoorT6L
namespace Go.Proofs.YtmfcgglgolajnaaDoor
set_option linter.unusedVariables false

theorem w6_fuel' (g : Nat → Nat) (zs ze : Nat) (hz : zs < 8 → zs < ze) (n m i : Nat) (hn : 8 - i ≤ n) (hm : 8 - i ≤ m) : w6 g zs ze n i = w6 g zs ze m i := w6_fuel g zs ze hz n m i hn hm
/-- The bytes of the groups from i on, n of them. -/
def seg (g : Nat → Nat) : Nat → Nat → List UInt8
  | _, 0 => []
  | i, n + 1 => two6 (g i) ++ seg g (i + 1) n
theorem seg_length (g : Nat → Nat) : ∀ i n, (seg g i n).length = 2 * n
  | _, 0 => rfl
  | i, n + 1 => by unfold seg; rw [List.length_append, seg_length g (i + 1) n]; simp [two6]; omega
theorem seg_append (g : Nat → Nat) : ∀ n i m, seg g i (n + m) = seg g i n ++ seg g (i + n) m
  | 0, i, m => by simp [seg]
  | n + 1, i, m => by
    rw [show n + 1 + m = (n + m) + 1 by omega]
    show two6 (g i) ++ seg g (i + 1) (n + m) = (two6 (g i) ++ seg g (i + 1) n) ++ seg g (i + (n + 1)) m
    rw [seg_append g n (i + 1) m, List.append_assoc, show i + 1 + n = i + (n + 1) by omega]
theorem seg_zero (g : Nat → Nat) : ∀ n i, (∀ j, i ≤ j → j < i + n → g j = 0) → seg g i n = List.replicate (2 * n) 0
  | 0, i, _ => rfl
  | n + 1, i, h => by
    unfold seg
    rw [h i (Nat.le_refl _) (by omega), seg_zero g n (i + 1) (fun j h1 h2 => h j (by omega) (by omega)), show 2 * (n + 1) = 2 + 2 * n by omega, ← List.replicate_append_replicate]
    rfl
theorem zrun_zero (g : Nat → Nat) : ∀ n i j, i ≤ j → j < zrun g n i → g j = 0
  | 0, i, j, h1, h2 => by simp only [zrun] at h2; omega
  | n + 1, i, j, h1, h2 => by
    unfold zrun at h2
    split at h2
    · rename_i h0
      by_cases e : j = i
      · rw [e]; exact h0
      · exact zrun_zero g n (i + 1) j (by omega) h2
    · omega

/-- What is written from group i on, with nothing ahead of it. -/
def body (g : Nat → Nat) (zs ze i : Nat) : List UInt8 := hexL (g i) ++ w6 g zs ze (8 - (i + 1)) (i + 1)
theorem w6_at {g : Nat → Nat} {zs ze i n : Nat} (hz : zs < 8 → zs < ze) (h8 : i < 8) (hn : 8 - i ≤ n) (hi : i ≠ zs) (h0 : 0 < i) : w6 g zs ze n i = 58 :: body g zs ze i := by
  obtain ⟨m, rfl⟩ : ∃ m, n = m + 1 := ⟨n - 1, by omega⟩
  unfold w6 body
  rw [if_pos h8, if_neg hi, if_pos h0, w6_fuel g zs ze hz m (8 - (i + 1)) (i + 1) (by omega) (Nat.le_refl _)]
  rfl
theorem w6_gap {g : Nat → Nat} {zs ze n : Nat} (hz : zs < ze) (h8 : zs < 8) (hn : 8 - zs ≤ n) : w6 g zs ze n zs = 58 :: 58 :: (if ze < 8 then body g zs ze ze else []) := by
  obtain ⟨m, rfl⟩ : ∃ m, n = m + 1 := ⟨n - 1, by omega⟩
  unfold w6
  rw [if_pos h8, if_pos rfl]
  by_cases he : ze < 8
  · rw [if_pos he, if_pos he]
    unfold body
    rw [w6_fuel g zs ze (fun _ => hz) m (8 - (ze + 1)) (ze + 1) (by omega) (Nat.le_refl _)]
  · rw [if_neg he, if_neg he]
theorem body_cons (g : Nat → Nat) (zs ze i : Nat) : ∃ d r, body g zs ze i = d :: r ∧ d ≠ 58 := by
  unfold body
  cases h : hexL (g i) with
  | nil => exact absurd h (hexL_ne _)
  | cons d r =>
    obtain ⟨q, hq, e⟩ := hexL_hex (g i) d (by rw [h]; simp)
    exact ⟨d, _, rfl, by rw [e]; exact (hdig_ne hq).2.1⟩
theorem hexD_colon : hexD 58 = none := by decide
theorem grp_colon (r : List UInt8) (n a : Nat) : grp (58 :: r) n a = some (n, a, 58 :: r) := by rw [grp_cons, hexD_colon]

theorem v6next_gap (go : List UInt8 → Option Nat → List UInt8 → Option (List UInt8)) (r done : List UInt8) : v6next go (58 :: 58 :: r) none done = if r = [] then fin6 [] (some done.length) done else go r (some done.length) done := by simp [v6next]
theorem v6next_go (go : List UInt8 → Option Nat → List UInt8 → Option (List UInt8)) {d : UInt8} (h : d ≠ 58) (r : List UInt8) (ell : Option Nat) (done : List UInt8) : v6next go (58 :: d :: r) ell done = go (d :: r) ell done := by simp [v6next, h]

section
variable {g : Nat → Nat} (hg : ∀ i, g i < 65536) {zs ze : Nat} (hz : zs < 8 → zs < ze)

theorem v6go_grp (n x : Nat) (hx : x < 65536) (r : List UInt8) (hr : r = [] ∨ ∃ t, r = 58 :: t) (ell : Option Nat) (done : List UInt8) : v6go (n + 1) (hexL x ++ r) ell done = v6next (v6go n) r ell (done ++ two6 x) := by
  have hl := hexL_len hx
  have hne : (hexL x).length ≠ 0 := fun h => hexL_ne x (List.eq_nil_of_length_eq_zero h)
  have e : grp (hexL x ++ r) 0 0 = some ((hexL x).length, x, r) := by
    rw [grp_hexL x r hl]
    rcases hr with rfl | ⟨t, rfl⟩
    · rfl
    · exact grp_colon _ _ _
  rw [v6go, e]
  show (if (hexL x).length = 0 then none else if r.head? = some 46 then _ else v6next (v6go n) r ell (done ++ two6 x)) = _
  rw [if_neg hne, if_neg (by rcases hr with rfl | ⟨t, rfl⟩ <;> simp)]

include hg hz
/-- The last stretch. -/
theorem read_rest : ∀ (k i n : Nat) (ell : Option Nat) (done : List UInt8), i + k = 7 → k < n → (∀ j, i < j → j < 8 → j ≠ zs) → v6go n (body g zs ze i) ell done = fin6 [] ell (done ++ seg g i (k + 1))
  | 0, i, n, ell, done, hi, hn, hj => by
    obtain ⟨m, rfl⟩ : ∃ m, n = m + 1 := ⟨n - 1, by omega⟩
    have e : w6 g zs ze (8 - (i + 1)) (i + 1) = [] := w6_end _ _ _ _ _ (by omega)
    unfold body
    rw [e, v6go_grp m (g i) (hg i) [] (Or.inl rfl)]
    simp [v6next, seg]
  | k + 1, i, n, ell, done, hi, hn, hj => by
    obtain ⟨m, rfl⟩ : ∃ m, n = m + 1 := ⟨n - 1, by omega⟩
    have e : w6 g zs ze (8 - (i + 1)) (i + 1) = 58 :: body g zs ze (i + 1) := w6_at hz (by omega) (Nat.le_refl _) (hj (i + 1) (by omega) (by omega)) (by omega)
    have ih := read_rest k (i + 1) m ell (done ++ two6 (g i)) (by omega) (by omega) (fun j h1 h2 => hj j (by omega) h2)
    obtain ⟨d, r, hb, hd⟩ := body_cons g zs ze (i + 1)
    unfold body
    rw [e, v6go_grp m (g i) (hg i) _ (Or.inr ⟨_, rfl⟩)]
    rw [hb] at ih ⊢
    rw [v6next_go _ hd, ih, List.append_assoc]
    rfl

/-- Ahead of the gap. -/
theorem read_head : ∀ (k i n : Nat) (done : List UInt8), i + k + 1 = zs → zs < 8 → k + 9 - zs ≤ n → v6go n (body g zs ze i) none done =
    (if ze < 8 then v6go (n - (k + 1)) (body g zs ze ze) (some (done ++ seg g i (k + 1)).length) (done ++ seg g i (k + 1)) else fin6 [] (some (done ++ seg g i (k + 1)).length) (done ++ seg g i (k + 1)))
  | 0, i, n, done, hi, h8, hn => by
    obtain ⟨m, rfl⟩ : ∃ m, n = m + 1 := ⟨n - 1, by omega⟩
    have e : w6 g zs ze (8 - (i + 1)) (i + 1) = 58 :: 58 :: (if ze < 8 then body g zs ze ze else []) := by
      rw [show i + 1 = zs by omega]; exact w6_gap (hz h8) h8 (Nat.le_refl _)
    have hs : seg g i (0 + 1) = two6 (g i) := by simp [seg]
    unfold body at *
    rw [e, v6go_grp m (g i) (hg i) _ (Or.inr ⟨_, rfl⟩), hs]
    by_cases he : ze < 8
    · rw [if_pos he, if_pos he]
      have hb : (hexL (g ze) ++ w6 g zs ze (8 - (ze + 1)) (ze + 1)) ≠ [] := by simp [hexL_ne]
      rw [v6next_gap, if_neg hb]
      rfl
    · rw [if_neg he, if_neg he]
      rw [v6next_gap, if_pos rfl]
  | k + 1, i, n, done, hi, h8, hn => by
    obtain ⟨m, rfl⟩ : ∃ m, n = m + 1 := ⟨n - 1, by omega⟩
    have e : w6 g zs ze (8 - (i + 1)) (i + 1) = 58 :: body g zs ze (i + 1) := w6_at hz (by omega) (Nat.le_refl _) (by omega) (by omega)
    have ih := read_head k (i + 1) m (done ++ two6 (g i)) (by omega) h8 (by omega)
    obtain ⟨d, r, hb, hd⟩ := body_cons g zs ze (i + 1)
    have hs : done ++ two6 (g i) ++ seg g (i + 1) (k + 1) = done ++ seg g i (k + 1 + 1) := by rw [List.append_assoc]; rfl
    rw [hs] at ih
    have e2 : body g zs ze i = hexL (g i) ++ (58 :: d :: r) := by unfold body; rw [e, hb]
    rw [e2, v6go_grp m (g i) (hg i) _ (Or.inr ⟨_, rfl⟩)]
    rw [hb] at ih
    rw [v6next_go _ hd, ih, show m + 1 - (k + 1 + 1) = m - (k + 1) by omega]
end

theorem v6_body (g : Nat → Nat) (zs ze i : Nat) : v6 (body g zs ze i) = v6go 8 (body g zs ze i) none [] := by
  obtain ⟨d, r, hb, hd⟩ := body_cons g zs ze i
  rw [hb]
  unfold v6
  split
  · rename_i q h
    injection h with h
    exact absurd h hd
  · rfl

/-- The text is read to the bytes of the groups. -/
theorem v6_txt6 (g : Nat → Nat) (hg : ∀ i, g i < 65536) : v6 (txt6 g) = some (seg g 0 8) := by
  unfold txt6
  have hor := zfind_or g 8 (Nat.le_refl _)
  generalize hz : zfind g 8 = zf at *
  obtain ⟨zs, ze⟩ := zf
  rcases hor with h | ⟨h1, h2, h3, h4⟩
  · injection h with e1 e2
    subst e1 e2
    have e : w6 g 255 255 8 0 = body g 255 255 0 := by
      unfold body
      show (if 0 < 8 then (if 0 = 255 then _ else (if 0 < 0 then [58] else []) ++ (hexL (g 0) ++ w6 g 255 255 7 (0 + 1))) else []) = _
      rw [if_pos (by omega), if_neg (by omega), if_neg (by omega)]
      rfl
    show v6 (w6 g 255 255 8 0) = _
    rw [e, v6_body, read_rest hg (fun h => by omega) 7 0 8 none [] rfl (by omega) (fun j _ h => by omega)]
    unfold fin6
    rw [if_neg (by simp), List.nil_append, if_neg (by rw [seg_length]; omega)]
  · simp only at h1 h2 h3 h4
    have hzz : zs < 8 → zs < ze := fun _ => by omega
    have hzero : ∀ j, zs ≤ j → j < ze → g j = 0 := fun j a b => zrun_zero g (8 - zs) zs j a (by rw [h3] at b; exact b)
    have hfin : fin6 [] (some (2 * zs)) (seg g 0 zs ++ seg g ze (8 - ze)) = some (seg g 0 8) := by
      unfold fin6
      have hlen : (seg g 0 zs ++ seg g ze (8 - ze)).length = 2 * (zs + (8 - ze)) := by rw [List.length_append, seg_length, seg_length]; omega
      rw [if_neg (by simp), if_pos (by rw [hlen]; omega), hlen]
      have t1 : (seg g 0 zs ++ seg g ze (8 - ze)).take (2 * zs) = seg g 0 zs := by
        rw [List.take_append_of_le_length (by rw [seg_length]; omega), List.take_of_length_le (by rw [seg_length]; omega)]
      have t2 : (seg g 0 zs ++ seg g ze (8 - ze)).drop (2 * zs) = seg g ze (8 - ze) := by
        rw [List.drop_append, List.drop_eq_nil_of_le (by rw [seg_length]; omega), seg_length]; simp
      show some ((seg g 0 zs ++ seg g ze (8 - ze)).take (2 * zs) ++ List.replicate (16 - 2 * (zs + (8 - ze))) 0 ++ (seg g 0 zs ++ seg g ze (8 - ze)).drop (2 * zs)) = _
      rw [t1, t2]
      have s1 : seg g 0 8 = seg g 0 zs ++ (seg g zs (ze - zs) ++ seg g ze (8 - ze)) := by
        rw [show 8 = zs + ((ze - zs) + (8 - ze)) by omega, seg_append g zs 0, Nat.zero_add, seg_append g (ze - zs) zs, show zs + (ze - zs) = ze by omega, show zs + ((ze - zs) + (8 - ze)) - ze = 8 - ze by omega]
      rw [s1, seg_zero g (ze - zs) zs (fun j a b => hzero j a (by omega)), show 16 - 2 * (zs + (8 - ze)) = 2 * (ze - zs) by omega, List.append_assoc]
    by_cases hs0 : zs = 0
    · subst hs0
      show v6 (w6 g 0 ze 8 0) = _
      rw [w6_gap (by omega) (by omega) (by omega)]
      by_cases he : ze < 8
      · rw [if_pos he]
        have hb : body g 0 ze ze ≠ [] := by obtain ⟨d, r, hb, _⟩ := body_cons g 0 ze ze; rw [hb]; simp
        have hv : v6 (58 :: 58 :: body g 0 ze ze) = v6go 8 (body g 0 ze ze) (some 0) [] := by simp [v6, hb]
        rw [hv, read_rest hg (fun _ => by omega) (7 - ze) ze 8 (some 0) [] (by omega) (by omega) (fun j a b => by omega)]
        rw [show 7 - ze + 1 = 8 - ze by omega]
        exact hfin
      · rw [if_neg he]
        obtain rfl : ze = 8 := by omega
        have : seg g 0 8 = List.replicate 16 0 := seg_zero g 8 0 (fun j a b => hzero j a (by omega))
        rw [this]
        simp [v6]
    · have e : w6 g zs ze 8 0 = body g zs ze 0 := by
        unfold body
        show (if 0 < 8 then (if 0 = zs then _ else (if 0 < 0 then [58] else []) ++ (hexL (g 0) ++ w6 g zs ze 7 (0 + 1))) else []) = _
        rw [if_pos (by omega), if_neg (by omega), if_neg (by omega)]
        rfl
      show v6 (w6 g zs ze 8 0) = _
      rw [e, v6_body, read_head hg hzz (zs - 1) 0 8 [] (by omega) h1 (by omega)]
      rw [show zs - 1 + 1 = zs by omega, List.nil_append, seg_length]
      by_cases he : ze < 8
      · rw [if_pos he, read_rest hg hzz (7 - ze) ze (8 - zs) (some (2 * zs)) (seg g 0 zs) (by omega) (by omega) (fun j a b => by omega), show 7 - ze + 1 = 8 - ze by omega]
        exact hfin
      · rw [if_neg he]
        obtain rfl : ze = 8 := by omega
        have : seg g 8 (8 - 8) = [] := rfl
        rw [this, List.append_nil] at hfin
        exact hfin
end Go.Proofs.YtmfcgglgolajnaaDoor
