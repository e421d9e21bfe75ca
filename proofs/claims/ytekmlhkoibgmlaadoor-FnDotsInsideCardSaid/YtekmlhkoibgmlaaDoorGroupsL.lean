/-
  Groups of hexadecimal digits with colons between them, and how they are read. No program is named here.
-/
import Derived.Test.YtekmlhkoibgmlaaDoorPAny
import Derived.Test.YtekmlhkoibgmlaaDoorFHex
import Derived.Test.YtekmlhkoibgmlaaDoorPlace
namespace Go.Proofs.YtekmlhkoibgmlaaDoor
set_option linter.unusedVariables false

def isHex (c : UInt8) : Prop := ∃ d, d < 16 ∧ c = hdig d
/-- A text of one to four digits, whose number is v. -/
def IsG (t : List UInt8) (v : Nat) : Prop := t ≠ [] ∧ t.length ≤ 4 ∧ (∀ c ∈ t, isHex c) ∧ v < 65536 ∧ ∀ n r, n + t.length ≤ 4 → grp (t ++ r) n 0 = grp r (n + t.length) v
theorem grp_hex {t : List UInt8} (h : ∀ c ∈ t, isHex c) : ∀ (n a : Nat) (r : List UInt8), n + t.length ≤ 4 → ∃ v, grp (t ++ r) n a = grp r (n + t.length) v := by
  induction t with
  | nil => intro n a r _; exact ⟨a, rfl⟩
  | cons c t ih =>
    intro n a r hl
    obtain ⟨d, hd, rfl⟩ := h c (by simp)
    simp only [List.length_cons] at hl
    obtain ⟨v, hv⟩ := ih (fun c hc => h c (by simp [hc])) (n + 1) (a * 16 + d) r (by omega)
    refine ⟨v, ?_⟩
    rw [List.cons_append, grp_cons, hexD_hdig hd]
    simp only
    rw [if_neg (by omega), hv, List.length_cons, show n + 1 + t.length = n + (t.length + 1) by omega]
theorem grp_long {t : List UInt8} (h : ∀ c ∈ t, isHex c) : ∀ (n a : Nat) (r : List UInt8), n ≤ 4 → 4 < n + t.length → grp (t ++ r) n a = none := by
  induction t with
  | nil => intro n a r h1 h2; simp at h2; omega
  | cons c t ih =>
    intro n a r h1 hl
    obtain ⟨d, hd, rfl⟩ := h c (by simp)
    simp only [List.length_cons] at hl
    rw [List.cons_append, grp_cons, hexD_hdig hd]
    simp only
    by_cases h3 : 3 < n
    · rw [if_pos h3]
    · rw [if_neg h3]
      exact ih (fun c hc => h c (by simp [hc])) (n + 1) _ r (by omega) (by omega)
theorem isG_hexL {v : Nat} (hv : v < 65536) : IsG (hexL v) v := by
  refine ⟨hexL_ne v, hexL_len hv, fun c hc => hexL_hex v c hc, hv, ?_⟩
  clear hv
  induction v using Nat.strongRecOn with
  | ind v ih =>
    intro n r hl
    by_cases h : v < 16
    · rw [hexL_small h] at hl ⊢
      simp only [List.length_cons, List.length_nil] at hl
      rw [List.cons_append, grp_cons, hexD_hdig h]
      simp only
      rw [if_neg (by omega)]
      simp
    · have hd : v % 16 < 16 := Nat.mod_lt _ (by omega)
      rw [hexL_big h] at hl ⊢
      rw [List.length_append] at hl
      simp only [List.length_cons, List.length_nil] at hl
      rw [List.append_assoc, ih (v / 16) (by omega) n _ (by omega)]
      rw [List.cons_append, grp_cons, hexD_hdig hd]
      simp only
      rw [if_neg (by omega), List.length_append, show v / 16 * 16 + v % 16 = v by omega]
      simp only [List.length_cons, List.length_nil, List.nil_append]
      rfl
theorem hex48 : isHex 48 := ⟨0, by omega, by decide⟩
theorem isG_zero {t : List UInt8} {v : Nat} (h : IsG t v) (hl : t.length < 4) : IsG (48 :: t) v := by
  obtain ⟨h1, h2, h3, h4, h5⟩ := h
  refine ⟨by simp, by simp; omega, fun c hc => ?_, h4, fun n r hn => ?_⟩
  · rcases List.mem_cons.1 hc with rfl | hc
    · exact hex48
    · exact h3 c hc
  · simp only [List.length_cons] at hn
    rw [List.cons_append, grp_cons, show hexD 48 = some 0 from rfl]
    simp only
    rw [if_neg (by omega), show 0 * 16 + 0 = 0 from rfl, h5 (n + 1) r (by omega), List.length_cons, show n + 1 + t.length = n + (t.length + 1) by omega]
def Gs : List (List UInt8) → List Nat → Prop
  | [], [] => True
  | g :: gs, v :: vs => IsG g v ∧ Gs gs vs
  | _, _ => False
def flat6 (vs : List Nat) : List UInt8 := vs.flatMap two6
theorem two6_length (v : Nat) : (two6 v).length = 2 := rfl
theorem IsG.head {t : List UInt8} {v : Nat} (h : IsG t v) : ∃ c r, t = c :: r ∧ isHex c := by
  obtain ⟨h1, _, h3, _⟩ := h
  match t, h1, h3 with
  | c :: r, _, h3 => exact ⟨c, r, rfl, h3 c (by simp)⟩
theorem hex_ne58 {c : UInt8} (h : isHex c) : c ≠ 58 ∧ c ≠ 46 ∧ c ≠ 37 := by
  obtain ⟨d, hd, rfl⟩ := h
  exact ⟨(hdig_ne hd).2.1, (hdig_ne hd).1, (hdig_ne hd).2.2⟩
theorem grp_G {t : List UInt8} {v : Nat} (h : IsG t v) (r : List UInt8) : grp (t ++ r) 0 0 = grp r t.length v := by
  have := h.2.2.2.2 0 r (by have := h.2.1; omega)
  rwa [Nat.zero_add] at this
/-- A group, a colon, and more. -/
theorem v6go_step {g : List UInt8} {v n : Nat} (hg : IsG g v) {d : UInt8} (hd : d ≠ 58) (r done : List UInt8) : v6go (n + 1) (g ++ 58 :: d :: r) none done = v6go n (d :: r) none (done ++ two6 v) := by
  have h1 : grp (g ++ 58 :: d :: r) 0 0 = some (g.length, v, 58 :: d :: r) := by
    rw [grp_G hg, grp_cons, show hexD 58 = none from rfl]
  rw [v6go_eq h1, if_neg (by have := List.length_pos_iff.2 hg.1; omega), if_neg (by simp), v6next_go' _ hd]
theorem v6go_last {g : List UInt8} {v n : Nat} (hg : IsG g v) (done : List UInt8) : v6go (n + 1) g none done = fin6 [] none (done ++ two6 v) := by
  have h1 : grp g 0 0 = some (g.length, v, []) := by
    have := grp_G hg []
    rw [List.append_nil] at this
    rw [this]; rfl
  rw [v6go_eq h1, if_neg (by have := List.length_pos_iff.2 hg.1; omega), if_neg (by simp)]
  rfl
theorem v6go_zero {c : UInt8} {r done : List UInt8} {ell : Option Nat} : v6go 0 (c :: r) ell done = none := by
  rw [v6go]; unfold fin6; rw [if_pos (by simp)]
theorem join_head {g : List UInt8} {v : Nat} {gs : List (List UInt8)} (h : IsG g v) : ∃ c r, joinL [58] (g :: gs) = c :: r ∧ isHex c := by
  obtain ⟨c, r, rfl, hc⟩ := h.head
  match gs with
  | [] => exact ⟨c, r, rfl, hc⟩
  | h :: l => exact ⟨c, r ++ [58] ++ joinL [58] (h :: l), rfl, hc⟩
theorem v6go_groups : ∀ (gs : List (List UInt8)) (vs : List Nat) (n : Nat) (done : List UInt8), Gs gs vs → gs ≠ [] → done.length + 2 * n = 16 → v6go n (joinL [58] gs) none done = if gs.length = n then some (done ++ flat6 vs) else none
  | [], _, _, _, _, h, _ => absurd rfl h
  | [g], [v], n, done, hG, _, hd => by
    have hg := hG.1
    show v6go n g none done = _
    match n, hd with
    | 0, hd =>
      obtain ⟨c, r, rfl, _⟩ := hg.head
      rw [v6go_zero, if_neg (by simp)]
    | m + 1, hd =>
      rw [v6go_last hg]
      unfold fin6
      rw [if_neg (by simp)]
      have hl : (done ++ two6 v).length = done.length + 2 := by rw [List.length_append, two6_length]
      by_cases hm : m = 0
      · rw [if_neg (by omega), if_pos (by simp [hm])]
        simp [flat6]
      · rw [if_pos (by omega), if_neg (by simp; omega)]
  | g :: h :: l, v :: w :: vs, n, done, hG, _, hd => by
    have hg := hG.1
    obtain ⟨c, r, hcr, hc⟩ := join_head (gs := l) hG.2.1
    have e : joinL [58] (g :: h :: l) = g ++ 58 :: joinL [58] (h :: l) := by rw [joinL]; simp
    rw [e]
    match n, hd with
    | 0, hd =>
      obtain ⟨c', r', rfl, _⟩ := hg.head
      rw [List.cons_append, v6go_zero, if_neg (by simp)]
    | m + 1, hd =>
      rw [hcr, v6go_step hg (hex_ne58 hc).1, ← hcr, v6go_groups (h :: l) (w :: vs) m (done ++ two6 v) hG.2 (by simp) (by rw [List.length_append, two6_length]; omega)]
      by_cases hm : (h :: l).length = m
      · rw [if_pos hm, if_pos (by simp at hm ⊢; omega)]
        simp [flat6]
      · rw [if_neg hm, if_neg (by simp at hm ⊢; omega)]
  | [g], [], _, _, hG, _, _ => by exact hG.elim
  | [g], _ :: _ :: _, _, _, hG, _, _ => by exact hG.2.elim
  | g :: h :: l, [], _, _, hG, _, _ => by exact hG.elim
  | g :: h :: l, [v], _, _, hG, _, _ => by exact hG.2.elim
theorem v6_hex {c : UInt8} {r : List UInt8} (hc : isHex c) : v6 (c :: r) = v6go 8 (c :: r) none [] := v6_plain (by
  rintro ⟨r', e⟩
  injection e with e _
  exact (hex_ne58 hc).1 e)
theorem scan_G {g : List UInt8} {v : Nat} (hg : IsG g v) (r : List UInt8) : scanL (g ++ r) = scanL r := scan_hex hg.2.2.1 r
/-- Groups are read just if there are eight. -/
theorem read_groups {gs : List (List UInt8)} {vs : List Nat} (h : Gs gs vs) (hn : gs ≠ []) : readAny (joinL [58] gs) = if gs.length = 8 then some (flat6 vs) else none := by
  match gs, vs, h, hn with
  | [g], [v], h, _ =>
    have hs := scan_G h.1 []
    rw [List.append_nil] at hs
    show readAny g = _
    unfold readAny
    rw [hs, if_neg (by simp [scanL]), if_neg (by simp [scanL]), if_neg (by simp)]
  | g :: k :: l, v :: w :: vs, h, hn =>
    obtain ⟨c, r, hcr, hc⟩ := join_head (gs := k :: l) h.1
    have e : joinL [58] (g :: k :: l) = g ++ 58 :: joinL [58] (k :: l) := by rw [joinL]; simp
    have hs : scanL (joinL [58] (g :: k :: l)) = some 58 := by rw [e, scan_G h.1, scan_colon]
    unfold readAny
    rw [hs, if_neg (by simp), if_pos rfl, hcr, v6_hex hc, ← hcr, v6go_groups _ _ 8 [] h hn (by simp)]
    rfl
  | [g], [], h, _ => exact h.elim
  | [g], _ :: _ :: _, h, _ => exact h.2.elim
  | g :: k :: l, [], h, _ => exact h.elim
  | g :: k :: l, [v], h, _ => exact h.2.elim
theorem readAny_nil : readAny [] = none := by
  unfold readAny scanL
  rw [if_neg (by simp), if_neg (by simp)]

/-- Some groups, and more behind them. -/
def preL (l1 : List (List UInt8)) (r : List UInt8) : List UInt8 := l1.foldr (fun g s => g ++ 58 :: s) r
theorem join_pre (d : List UInt8) (l2 : List (List UInt8)) : ∀ l1 : List (List UInt8), joinL [58] (l1 ++ d :: l2) = preL l1 (joinL [58] (d :: l2))
  | [] => rfl
  | [g] => by show joinL [58] (g :: d :: l2) = _; rw [joinL]; simp [preL]
  | g :: h :: l => by
    have := join_pre d l2 (h :: l)
    rw [List.cons_append, List.cons_append] at *
    rw [joinL, this]
    simp [preL]
theorem preL_head {gs : List (List UInt8)} {vs : List Nat} (h : Gs gs vs) {c : UInt8} {r : List UInt8} (hc : c ≠ 58) : ∃ c' r', preL gs (c :: r) = c' :: r' ∧ c' ≠ 58 := by
  match gs, vs, h with
  | [], _, _ => exact ⟨c, r, rfl, hc⟩
  | g :: gs, v :: vs, h =>
    obtain ⟨c', r', rfl, hc'⟩ := h.1.head
    exact ⟨c', _, rfl, (hex_ne58 hc').1⟩
/-- The groups ahead are read, or there are too many of them. -/
theorem v6go_pre : ∀ (l1 : List (List UInt8)) (vs : List Nat) (n : Nat) (done : List UInt8) (c : UInt8) (r : List UInt8), Gs l1 vs → c ≠ 58 → v6go n (preL l1 (c :: r)) none done = none ∨ ∃ m, v6go n (preL l1 (c :: r)) none done = v6go m (c :: r) none (done ++ flat6 vs)
  | [], [], n, done, c, r, _, _ => Or.inr ⟨n, by simp [preL, flat6]⟩
  | g :: gs, v :: vs, n, done, c, r, h, hc => by
    obtain ⟨c', r', e, hc'⟩ := preL_head h.2 (r := r) hc
    have e1 : preL (g :: gs) (c :: r) = g ++ 58 :: preL gs (c :: r) := rfl
    match n with
    | 0 =>
      obtain ⟨c1, r1, rfl, _⟩ := h.1.head
      left
      rw [e1, List.cons_append, v6go_zero]
    | n + 1 =>
      have hs := v6go_step (n := n) h.1 hc' r' done
      rw [← e, ← e1] at hs
      rw [hs]
      rcases v6go_pre gs vs n (done ++ two6 v) c r h.2 hc with h1 | ⟨m, h1⟩
      · exact Or.inl h1
      · exact Or.inr ⟨m, by rw [h1]; simp [flat6]⟩
/-- A group of more than four digits is not read. -/
theorem v6go_bad {t r done : List UInt8} (h : ∀ c ∈ t, isHex c) (hl : 4 < t.length) (n : Nat) : v6go n (t ++ r) none done = none := by
  match n with
  | 0 =>
    match t, hl with
    | c :: t, _ => rw [List.cons_append, v6go_zero]
  | n + 1 => rw [v6go, grp_long h 0 0 r (by omega) (by omega)]
theorem v4go_chars : ∀ (s : List UInt8) (val dl : Nat) (done fs : List UInt8), v4go s val dl done = some fs → ∀ c ∈ s, c ≠ 58
  | [], _, _, _, _, _, c, hc => by simp at hc
  | x :: s, val, dl, done, fs, h, c, hc => by
    rw [v4go] at h
    rcases List.mem_cons.1 hc with rfl | hc
    · rintro rfl
      rw [if_neg (by decide), if_neg (by decide)] at h
      cases h
    · split at h
      · split at h
        · cases h
        · split at h
          · cases h
          · exact v4go_chars s _ _ _ _ h c hc
      · split at h
        · split at h
          · cases h
          · split at h
            · cases h
            · exact v4go_chars s _ _ _ _ h c hc
        · cases h
theorem v4go_colon {s : List UInt8} (h : (58 : UInt8) ∈ s) (val dl : Nat) (done : List UInt8) : v4go s val dl done = none := by
  cases hv : v4go s val dl done with
  | none => rfl
  | some fs => exact absurd rfl (v4go_chars s val dl done fs hv 58 h)
theorem dig_hex {c : UInt8} (h : isDig c = true) : isHex c := by
  have key : ∀ e : Fin 256, isDig (UInt8.ofNat e.val) = true → ∃ d : Fin 16, UInt8.ofNat e.val = hdig d.val := by decide +kernel
  have hc : UInt8.ofNat c.toNat = c := UInt8.ofNat_toNat
  have := key ⟨c.toNat, c.toNat_lt⟩ (by simp only [hc]; exact h)
  obtain ⟨d, hd⟩ := this
  exact ⟨d.val, d.isLt, by rw [← hd]; exact hc.symm⟩
/-- Dotted decimal that does not stand in the last place but at twelve bytes is not read. -/
theorem v6go_dots {x : Nat} (hx : x ≤ 255) (r done : List UInt8) (n : Nat) (hb : done.length ≠ 12 ∨ (58 : UInt8) ∈ r) : v6go n (decL x ++ 46 :: r) none done = none := by
  have hl : (decL x).length ≤ 3 := decL_length_le (k := 2) (by omega)
  match n with
  | 0 =>
    have hne := decL_ne x
    match decL x, hne with
    | c :: t, _ => rw [List.cons_append, v6go_zero]
  | n + 1 =>
    obtain ⟨v, hv⟩ := grp_hex (t := decL x) (fun c hc => dig_hex (decL_digs x c hc)) 0 0 (46 :: r) (by omega)
    rw [grp_cons, show hexD 46 = none from rfl] at hv
    rw [v6go_eq hv, if_neg (by have := List.length_pos_iff.2 (decL_ne x); omega), if_pos (by simp)]
    by_cases h12 : done.length = 12
    · rw [if_neg (by simp [h12]), if_neg (by omega)]
      rcases hb with hb | hb
      · exact absurd h12 hb
      · rw [v4go_colon (by simp [hb])]
    · rw [if_pos ⟨rfl, h12⟩]
theorem flat6_length (vs : List Nat) : (flat6 vs).length = 2 * vs.length := by
  unfold flat6
  induction vs with
  | nil => rfl
  | cons v vs ih => rw [List.flatMap_cons, List.length_append, ih, two6_length, List.length_cons]; omega
theorem Gs.len : ∀ {gs : List (List UInt8)} {vs : List Nat}, Gs gs vs → gs.length = vs.length
  | [], [], _ => rfl
  | g :: gs, v :: vs, h => by rw [List.length_cons, List.length_cons, Gs.len h.2]
/-- With dotted decimal in the place of groups, but at the end behind six, nothing is read. -/
theorem read_dots {l1 l2 : List (List UInt8)} {vs : List Nat} (h : Gs l1 vs) {x : Nat} (hx : x ≤ 255) (t : List UInt8) (hb : l1.length ≠ 6 ∨ l2 ≠ []) (hne : l1 ≠ [] ∨ l2 ≠ []) : readAny (joinL [58] (l1 ++ (decL x ++ 46 :: t) :: l2)) = none := by
  obtain ⟨r, hr, hr58⟩ : ∃ r, joinL [58] ((decL x ++ 46 :: t) :: l2) = decL x ++ 46 :: r ∧ (l2 ≠ [] → (58 : UInt8) ∈ r) := by
    match l2 with
    | [] => exact ⟨t, rfl, fun h => absurd rfl h⟩
    | k :: l => exact ⟨t ++ [58] ++ joinL [58] (k :: l), by rw [joinL]; simp, fun _ => by simp⟩
  rw [join_pre, hr]
  match l1, vs, h, hne, hb with
  | [], [], _, hne, hb =>
    have h2 : l2 ≠ [] := by rcases hne with h | h; exact absurd rfl h; exact h
    show readAny (decL x ++ 46 :: r) = none
    unfold readAny
    rw [scan_digs (decL_digs x), scan_dot, if_pos rfl, v4go_colon (by simp [hr58 h2])]
    rfl
  | g :: gs, v :: vs, h, hne, hb =>
    have hdc : ∃ c d, decL x ++ 46 :: r = c :: d ∧ c ≠ 58 := by
      have hne := decL_ne x
      have hdg := decL_digs x
      match decL x, hne, hdg with
      | c :: t, _, hdg => exact ⟨c, t ++ 46 :: r, rfl, by rintro rfl; exact absurd (hdg 58 (by simp)) (by decide)⟩
    obtain ⟨c, d, hcd, hc⟩ := hdc
    obtain ⟨c', r', e, hc'⟩ := preL_head h.2 (c := c) (r := d) hc
    have e1 : preL (g :: gs) (c :: d) = g ++ 58 :: preL gs (c :: d) := rfl
    have hs : scanL (preL (g :: gs) (decL x ++ 46 :: r)) = some 58 := by rw [hcd, e1, scan_G h.1, scan_colon]
    unfold readAny
    rw [hs, if_neg (by simp), if_pos rfl, hcd]
    have hv : v6 (preL (g :: gs) (c :: d)) = v6go 8 (preL (g :: gs) (c :: d)) none [] := by
      obtain ⟨c1, r1, rfl, h1⟩ := h.1.head
      exact v6_hex h1
    rw [hv]
    rcases v6go_pre (g :: gs) (v :: vs) 8 [] c d h hc with h1 | ⟨m, h1⟩
    · exact h1
    · rw [h1, ← hcd]
      refine v6go_dots hx r _ m ?_
      rw [List.nil_append, flat6_length, ← h.len]
      rcases hb with hb | hb
      · left; omega
      · exact Or.inr (hr58 hb)
/-- With a group of too many digits nothing is read. -/
theorem read_bad {l1 l2 : List (List UInt8)} {vs : List Nat} (h : Gs l1 vs) {t : List UInt8} (ht : ∀ c ∈ t, isHex c) (hl : 4 < t.length) (hne : l1 ≠ [] ∨ l2 ≠ []) : readAny (joinL [58] (l1 ++ t :: l2)) = none := by
  obtain ⟨r, hr, hr58⟩ : ∃ r, joinL [58] (t :: l2) = t ++ r ∧ (l2 ≠ [] → ∃ r', r = 58 :: r') := by
    match l2 with
    | [] => exact ⟨[], by simp [joinL], fun h => absurd rfl h⟩
    | k :: l => exact ⟨58 :: joinL [58] (k :: l), by rw [joinL]; simp, fun _ => ⟨_, rfl⟩⟩
  obtain ⟨c, t', rfl⟩ : ∃ c t', t = c :: t' := by
    match t, hl with
    | c :: t', _ => exact ⟨c, t', rfl⟩
  have hc := ht c (by simp)
  rw [join_pre, hr]
  have hv : ∃ c1 r1, preL l1 (c :: t' ++ r) = c1 :: r1 ∧ isHex c1 := by
    match l1, vs, h with
    | [], _, _ => exact ⟨c, t' ++ r, rfl, hc⟩
    | g :: gs, v :: vs, h =>
      obtain ⟨c1, r1, rfl, h1⟩ := h.1.head
      exact ⟨c1, _, rfl, h1⟩
  have h6 : v6 (preL l1 (c :: t' ++ r)) = none := by
    obtain ⟨c1, r1, e, h1⟩ := hv
    rw [e, v6_hex h1, ← e]
    rcases v6go_pre l1 vs 8 [] c (t' ++ r) h (hex_ne58 hc).1 with h1 | ⟨m, h1⟩
    · exact h1
    · rw [List.cons_append, h1, ← List.cons_append]
      exact v6go_bad ht hl m
  unfold readAny
  have hs : scanL (preL l1 (c :: t' ++ r)) = some 58 := by
    match l1, vs, h, hne with
    | [], _, _, hne =>
      obtain ⟨r', hr'⟩ := hr58 (by rcases hne with h | h; exact absurd rfl h; exact h)
      show scanL (c :: t' ++ r) = _
      rw [scan_hex ht, hr', scan_colon]
    | g :: gs, v :: vs, h, _ =>
      show scanL (g ++ 58 :: preL gs (c :: t' ++ r)) = _
      rw [scan_G h.1, scan_colon]
  rw [hs, if_neg (by simp), if_pos rfl, h6]
/-- What the groups of some bytes are. -/
def valsL : List UInt8 → List Nat
  | x :: y :: r => (x.toNat * 256 + y.toNat) :: valsL r
  | _ => []
theorem gs_parts : ∀ xs : List UInt8, Gs (partsL xs) (valsL xs)
  | [] => by simp [partsL, valsL, Gs]
  | [a] => by simp [partsL, valsL, Gs]
  | x :: y :: r => by
    rw [partsL, valsL]
    exact ⟨isG_hexL (by have := x.toNat_lt; have := y.toNat_lt; omega), gs_parts r⟩
theorem two6_of (x y : UInt8) : two6 (x.toNat * 256 + y.toNat) = [x, y] := by
  have hx := x.toNat_lt
  have hy := y.toNat_lt
  unfold two6
  rw [show (x.toNat * 256 + y.toNat) / 256 = x.toNat by omega, show (x.toNat * 256 + y.toNat) % 256 = y.toNat by omega, UInt8.ofNat_toNat, UInt8.ofNat_toNat]
theorem flat_vals : ∀ xs : List UInt8, xs.length % 2 = 0 → flat6 (valsL xs) = xs
  | [], _ => rfl
  | [a], h => by simp at h
  | x :: y :: r, h => by
    rw [valsL]
    have := flat_vals r (by simp at h; omega)
    unfold flat6 at this ⊢
    rw [List.flatMap_cons, this, two6_of]
    rfl
theorem mem_joinG {b : List UInt8} {c : UInt8} : ∀ (l : List (List UInt8)), c ∈ joinL b l → c ∈ b ∨ ∃ s ∈ l, c ∈ s
  | [], h => by simp [joinL] at h
  | [s], h => Or.inr ⟨s, by simp, h⟩
  | s :: t :: l, h => by
    rw [joinL] at h
    rcases List.mem_append.1 h with h | h
    · rcases List.mem_append.1 h with h | h
      · exact Or.inr ⟨s, by simp, h⟩
      · exact Or.inl h
    · rcases mem_joinG (t :: l) h with h | ⟨u, hu, h⟩
      · exact Or.inl h
      · exact Or.inr ⟨u, by simp at hu ⊢; exact Or.inr hu, h⟩
theorem join_no37 {l : List (List UInt8)} (h : ∀ s ∈ l, (37 : UInt8) ∉ s) : (37 : UInt8) ∉ joinL [58] l := fun hm => by
  rcases mem_joinG l hm with h1 | ⟨s, hs, h1⟩
  · simp at h1
  · exact h s hs h1
theorem Gs.mem : ∀ {gs : List (List UInt8)} {vs : List Nat}, Gs gs vs → ∀ g ∈ gs, ∃ v, IsG g v
  | g :: gs, v :: vs, h, k, hk => by
    rcases List.mem_cons.1 hk with rfl | hk
    · exact ⟨v, h.1⟩
    · exact Gs.mem h.2 k hk
  | [], _, _, k, hk => by simp at hk
theorem IsG.no37 {g : List UInt8} {v : Nat} (h : IsG g v) : (37 : UInt8) ∉ g := fun hm => (hex_ne58 (h.2.2.1 37 hm)).2.2 rfl
theorem join_len {l : List (List UInt8)} (h : ∀ s ∈ l, s.length ≤ 20) : (joinL [58] l).length ≤ 21 * l.length := by
  match l with
  | [] => simp [joinL]
  | [s] => have := h s (by simp); simp [joinL]; omega
  | s :: t :: r =>
    have h1 := h s (by simp)
    have h2 := join_len (l := t :: r) (fun s hs => h s (by simp at hs ⊢; exact Or.inr hs))
    rw [joinL, List.length_append, List.length_append]
    simp only [List.length_cons, List.length_nil] at h2 ⊢
    omega
end Go.Proofs.YtekmlhkoibgmlaaDoor
