/-
  Bits shared out among masks: plain mathematics, and the rows that hold them.
-/
import Derived.Test.YtknajppjgdhbfaaDoorMaskEach
import Derived.Test.YtknajppjgdhbfaaDoorBlk
import Derived.Test.YtknajppjgdhbfaaDoorPlain2
namespace Go.Proofs.YtknajppjgdhbfaaDoor
open Go.RowKit
set_option linter.unusedVariables false

theorem u8_of_bits {x y : UInt8} (h : ∀ b, b < 8 → x.toNat.testBit b = y.toNat.testBit b) : x = y := by
  apply UInt8.toNat_inj.1
  apply Nat.eq_of_testBit_eq
  intro b
  by_cases hb : b < 8
  · exact h b hb
  · have hx : x.toNat < 2 ^ b := Nat.lt_of_lt_of_le x.toNat_lt (Nat.pow_le_pow_right (by omega) (by omega))
    have hy : y.toNat < 2 ^ b := Nat.lt_of_lt_of_le y.toNat_lt (Nat.pow_le_pow_right (by omega) (by omega))
    rw [Nat.testBit_lt_two_pow hx, Nat.testBit_lt_two_pow hy]

/-- Which mask the k-th bit belongs to. -/
def ownerOf (sh : List UInt8) (N k : Nat) : Nat := match sh[k]? with | some b => b.toNat % N | none => 0
theorem ownerOf_lt (sh : List UInt8) {N : Nat} (k : Nat) (h : 0 < N) : ownerOf sh N k < N := by
  unfold ownerOf; split
  · exact Nat.mod_lt _ h
  · exact h
theorem ownerOf_some {sh : List UInt8} {N k : Nat} {b : UInt8} (h : sh[k]? = some b) : ownerOf sh N k = b.toNat % N := by unfold ownerOf; rw [h]
theorem ownerOf_none {sh : List UInt8} {N k : Nat} (h : sh.length ≤ k) : ownerOf sh N k = 0 := by unfold ownerOf; rw [List.getElem?_eq_none h]

/-- The masks after K bits. -/
def ShB (f : Nat → Nat) (K : Nat) (L : List (List UInt8)) : Prop :=
  ∀ i p m c, L[i]? = some m → m[p]? = some c → ∀ b, b < 8 → c.toNat.testBit b = decide (8 * p + (7 - b) < K ∧ f (8 * p + (7 - b)) = i)
theorem ShB.zero (f : Nat → Nat) (N n : Nat) : ShB f 0 (List.replicate N (List.replicate n 0)) := by
  intro i p m c h1 h2 b hb
  rw [List.getElem?_replicate] at h1
  split at h1
  · injection h1 with h1
    subst h1
    rw [List.getElem?_replicate] at h2
    split at h2
    · injection h2 with h2
      subst h2
      simp
    · cases h2
  · cases h1

def withBit (c : UInt8) (s : Nat) : UInt8 := UInt8.ofNat (c.toNat ||| 2 ^ s)
theorem withBit_nat (c : UInt8) {s : Nat} (hs : s < 8) : (withBit c s).toNat = c.toNat ||| 2 ^ s := by
  unfold withBit
  rw [UInt8.toNat_ofNat']
  exact Nat.mod_eq_of_lt (Nat.or_lt_two_pow (n := 8) c.toNat_lt (Nat.pow_lt_pow_right (by omega) hs))

theorem ShB.step {f : Nat → Nat} {K i : Nat} {L : List (List UInt8)} {m : List UInt8} {c : UInt8} (h : ShB f K L) (hi : f K = i) (hm : L[i]? = some m) (hc : m[K / 8]? = some c) :
    ShB f (K + 1) (L.set i (m.set (K / 8) (withBit c (7 - K % 8)))) := by
  intro i' p m' c' h1 h2 b hb
  have hil : i < L.length := (List.getElem?_eq_some_iff.1 hm).1
  have hpl : K / 8 < m.length := (List.getElem?_eq_some_iff.1 hc).1
  by_cases e1 : i = i'
  · subst e1
    rw [List.getElem?_set, if_pos rfl, if_pos hil] at h1
    injection h1 with h1
    subst h1
    by_cases e2 : K / 8 = p
    · rw [List.getElem?_set, if_pos e2, if_pos hpl] at h2
      injection h2 with h2
      subst h2
      subst e2
      rw [withBit_nat c (by omega), Nat.testBit_or, h i (K / 8) m c hm hc b hb, Nat.testBit_two_pow]
      by_cases e3 : 7 - K % 8 = b
      · have e4 : 8 * (K / 8) + (7 - b) = K := by omega
        rw [e4, decide_eq_true e3, decide_eq_true (show K < K + 1 ∧ f K = i from ⟨by omega, hi⟩), Bool.or_true]
      · rw [decide_eq_false e3, Bool.or_false]
        congr 1
        apply propext
        constructor
        · rintro ⟨q1, q2⟩; exact ⟨by omega, q2⟩
        · rintro ⟨q1, q2⟩; exact ⟨by omega, q2⟩
    · rw [List.getElem?_set, if_neg e2] at h2
      rw [h i p m c' hm h2 b hb]
      congr 1
      apply propext
      constructor
      · rintro ⟨q1, q2⟩; exact ⟨by omega, q2⟩
      · rintro ⟨q1, q2⟩; exact ⟨by omega, q2⟩
  · rw [List.getElem?_set, if_neg e1] at h1
    rw [h i' p m' c' h1 h2 b hb]
    congr 1
    apply propext
    constructor
    · rintro ⟨q1, q2⟩; exact ⟨by omega, q2⟩
    · rintro ⟨q1, q2⟩
      refine ⟨?_, q2⟩
      by_cases e3 : 8 * p + (7 - b) = K
      · rw [e3] at q2; exact absurd (hi.symm.trans q2) e1
      · omega

/-- What the first i masks have left, put together. -/
def AccB (f : Nat → Nat) (x : List UInt8) (i : Nat) (a : List UInt8) : Prop :=
  ∀ p c y, a[p]? = some c → x[p]? = some y → ∀ b, b < 8 → c.toNat.testBit b = (y.toNat.testBit b && decide (f (8 * p + (7 - b)) < i))
theorem AccB.zero (f : Nat → Nat) (x : List UInt8) (n : Nat) : AccB f x 0 (List.replicate n 0) := by
  intro p c y h1 h2 b hb
  rw [List.getElem?_replicate] at h1
  split at h1
  · injection h1 with h1
    subst h1
    simp
  · cases h1
theorem AccB.apart {f : Nat → Nat} {x a m : List UInt8} {i n p : Nat} {L : List (List UInt8)} {c y z : UInt8} (h : AccB f x i a) (hL : ShB f (8 * n) L) (hm : L[i]? = some m) (hp : p < n) (ha : a[p]? = some c) (hx : x[p]? = some y) (hz : m[p]? = some z) :
    c &&& (y &&& z) = 0 := by
  apply u8_of_bits
  intro b hb
  rw [UInt8.toNat_and, UInt8.toNat_and, Nat.testBit_and, Nat.testBit_and, h p c y ha hx b hb, hL i p m z hm hz b hb]
  have e0 : (0 : UInt8).toNat.testBit b = false := by simp
  rw [e0]
  by_cases e : f (8 * p + (7 - b)) = i
  · rw [decide_eq_false (show ¬ f (8 * p + (7 - b)) < i by omega)]; simp
  · rw [decide_eq_false (show ¬ (8 * p + (7 - b) < 8 * n ∧ f (8 * p + (7 - b)) = i) from fun q => e q.2)]; simp
theorem AccB.step {f : Nat → Nat} {x a m : List UInt8} {i n : Nat} {L : List (List UInt8)} (h : AccB f x i a) (hL : ShB f (8 * n) L) (hm : L[i]? = some m) (hx : x.length = n) : AccB f x (i + 1) (List.zipWith (· ||| ·) a (masked x m)) := by
  intro p c y h1 h2 b hb
  have hp : p < n := by rw [← hx]; exact (List.getElem?_eq_some_iff.1 h2).1
  unfold masked at h1
  rw [List.getElem?_zipWith, List.getElem?_zipWith] at h1
  cases ha : a[p]? with
  | none => rw [ha] at h1; simp at h1
  | some d =>
    cases hz : m[p]? with
    | none => rw [ha, h2, hz] at h1; simp at h1
    | some z =>
      rw [ha, h2, hz] at h1
      simp only [Option.some.injEq] at h1
      subst h1
      rw [UInt8.toNat_or, UInt8.toNat_and, Nat.testBit_or, Nat.testBit_and, h p d y ha h2 b hb, hL i p m z hm hz b hb]
      by_cases e : f (8 * p + (7 - b)) = i
      · rw [decide_eq_true (show 8 * p + (7 - b) < 8 * n ∧ f (8 * p + (7 - b)) = i from ⟨by omega, e⟩), decide_eq_true (show f (8 * p + (7 - b)) < i + 1 by omega)]
        cases y.toNat.testBit b <;> simp
      · rw [decide_eq_false (show ¬ (8 * p + (7 - b) < 8 * n ∧ f (8 * p + (7 - b)) = i) from fun q => e q.2)]
        by_cases e2 : f (8 * p + (7 - b)) < i
        · rw [decide_eq_true e2, decide_eq_true (show f (8 * p + (7 - b)) < i + 1 by omega)]; simp
        · rw [decide_eq_false e2, decide_eq_false (show ¬ f (8 * p + (7 - b)) < i + 1 by omega)]; simp
theorem AccB.all {f : Nat → Nat} {x a : List UInt8} {N : Nat} (h : AccB f x N a) (hf : ∀ k, f k < N) (hl : a.length = x.length) : a = x := by
  apply List.ext_getElem?
  intro p
  by_cases hp : p < x.length
  · rw [List.getElem?_eq_getElem hp, List.getElem?_eq_getElem (by omega)]
    congr 1
    apply u8_of_bits
    intro b hb
    rw [h p _ _ (List.getElem?_eq_getElem (by omega)) (List.getElem?_eq_getElem hp) b hb, decide_eq_true (hf _), Bool.and_true]
  · rw [List.getElem?_eq_none (by omega), List.getElem?_eq_none (by omega)]

def bsv (bs : List UInt8) : List Value := bs.map fun b => .int .u8 (b.toNat : Int)
def rowv (n : Nat) (gs : List Nat) : List Value := gs.map fun g => .slice (some ⟨g, 0, none⟩) n n

/-- Rows of bytes, each in a block of its own, and the row of them. -/
structure Sh (w0 : World) (n : Nat) (L : List (List UInt8)) (v : Value) (gs : List Nat) (wr : World) : Prop where
  row : wr.ownsRow w0.heap.size 22 1 v L.length (rowv n gs)
  len : gs.length = L.length
  blk : ∀ (j g : Nat) (b : List UInt8), gs[j]? = some g → L[j]? = some b → Blk wr g 5 (bsv b)
  base : ∀ g ∈ gs, w0.heap.size ≤ g
  apart : ∀ g ∈ gs, v.ownBlock ≠ some g
  lt : ∀ g ∈ gs, g < wr.heap.size
  nodup : gs.Nodup
  below : Below w0.heap.size w0 wr

theorem Sh.start (w0 : World) (n : Nat) : Sh w0 n [] (.slice none 0 0) [] w0 :=
  ⟨World.ownsRow_nil _ _ _ _, rfl, fun j g b h => by simp at h, fun g h => by simp at h, fun g h => by simp at h, fun g h => by simp at h, List.nodup_nil, Below.refl _ _⟩

theorem Sh.snoc {w0 wr w' : World} {n : Nat} {L : List (List UInt8)} {v v' : Value} {gs : List Nat} (h : Sh w0 n L v gs wr)
    (ho : w'.ownsRow w0.heap.size 22 1 v' (L.length + 1) (rowv n gs ++ [.slice (some ⟨wr.heap.size, 0, none⟩) n n]))
    (hg : ((wr.alloc (.cells (timesOf n (.int .u8 0)).toArray 5)).alloc (.cells #[.slice (some ⟨wr.heap.size, 0, none⟩) n n] 22)).grownBy w' v.ownBlock)
    (hv : v'.ownBlock = v.ownBlock ∨ v'.ownBlock = some (wr.heap.size + 1 + 1)) : Sh w0 n (L ++ [List.replicate n 0]) v' (gs ++ [wr.heap.size]) w' := by
  have hvl : ∀ k, v.ownBlock = some k → k < wr.heap.size := fun k hk => (h.row.lt k hk).2
  have hb1 : Below w0.heap.size w0 ((wr.alloc (.cells (timesOf n (.int .u8 0)).toArray 5)).alloc (.cells #[.slice (some ⟨wr.heap.size, 0, none⟩) n n] 22)) :=
    (h.below.alloc h.below.size _).alloc (by simp; have := h.below.size; omega) _
  have hsz : wr.heap.size + 2 ≤ w'.heap.size := by have := hg.size; simpa using this
  have hap : ∀ g, g ≤ wr.heap.size → v.ownBlock ≠ some g → v'.ownBlock ≠ some g := by
    intro g hgl hne e
    rcases hv with hv | hv
    · rw [hv] at e; exact hne e
    · rw [hv] at e; injection e with e; omega
  refine ⟨by rw [List.length_append]; unfold rowv at ho ⊢; rw [List.map_append]; exact ho, by simp [h.len], ?_, ?_, ?_, ?_, ?_, ?_⟩
  · intro j g b hj hb
    by_cases hjl : j < gs.length
    · rw [List.getElem?_append_left hjl] at hj
      rw [List.getElem?_append_left (by rw [← h.len]; exact hjl)] at hb
      have h1 := ((h.blk j g b hj hb).alloc (.cells (timesOf n (.int .u8 0)).toArray 5)).alloc (.cells #[.slice (some ⟨wr.heap.size, 0, none⟩) n n] 22)
      exact (hg.block g h1.lt (fun e => h.apart g (List.mem_of_getElem? hj) e.symm)).trans h1
    · have hj0 : j = gs.length := by
        have := (List.getElem?_eq_some_iff.1 hj).1
        simp at this; omega
      subst hj0
      rw [List.getElem?_append_right (Nat.le_refl _), Nat.sub_self] at hj
      rw [h.len, List.getElem?_append_right (Nat.le_refl _), Nat.sub_self] at hb
      simp at hj hb
      subst hj hb
      have h1 := (Blk.new wr 5 (timesOf n (.int .u8 0))).alloc (.cells #[.slice (some ⟨wr.heap.size, 0, none⟩) n n] 22)
      have h2 := (hg.block wr.heap.size h1.lt (fun e => by have := hvl _ e.symm; omega)).trans h1
      unfold bsv
      rw [List.map_replicate]
      exact h2
  · intro g hgm
    rcases List.mem_append.1 hgm with hgm | hgm
    · exact h.base g hgm
    · simp at hgm; subst hgm; exact h.below.size
  · intro g hgm
    rcases List.mem_append.1 hgm with hgm | hgm
    · exact hap g (Nat.le_of_lt (h.lt g hgm)) (h.apart g hgm)
    · simp at hgm; subst hgm; exact hap _ (Nat.le_refl _) (fun e => by have := hvl _ e; omega)
  · intro g hgm
    rcases List.mem_append.1 hgm with hgm | hgm
    · have := h.lt g hgm; omega
    · simp at hgm; subst hgm; omega
  · rw [List.nodup_append]
    refine ⟨h.nodup, by simp, fun a ha b hb e => ?_⟩
    simp at hb
    subst hb e
    have := h.lt _ ha
    omega
  · exact below_append hb1 hg ((h.row.alloc _).alloc _) (by simp; have := h.below.size; omega)

theorem Sh.store {w0 wr : World} {n i p g : Nat} {L : List (List UInt8)} {v : Value} {gs : List Nat} {m : List UInt8} (h : Sh w0 n L v gs wr) (hg : gs[i]? = some g) (hm : L[i]? = some m) (c : UInt8) :
    Sh w0 n (L.set i (m.set p c)) v gs (wr.setCell ⟨g, p, none⟩ (.int .u8 (c.toNat : Int))).drew := by
  have hgm := List.mem_of_getElem? hg
  refine ⟨?_, by simp [h.len], ?_, h.base, h.apart, fun g' hg' => by have := h.lt g' hg'; simpa using this, h.nodup, (h.below.setCell (h.base g hgm) _).drew⟩
  · rw [List.length_set]
    exact (ownsRow_setCell_other h.row (h.apart g hgm) _).drew
  · intro j g' b hj hb
    by_cases e : i = j
    · subst e
      rw [hg] at hj
      injection hj with hj
      subst hj
      rw [List.getElem?_set, if_pos rfl, if_pos (List.getElem?_eq_some_iff.1 hm).1] at hb
      injection hb with hb
      subst hb
      have := (h.blk i g m hg hm).set_ p (.int .u8 (c.toNat : Int))
      unfold bsv at this ⊢
      rw [List.map_set]
      exact this
    · rw [List.getElem?_set, if_neg e] at hb
      refine ((h.blk j g' b hj hb).far ?_ _).drew
      intro e2
      simp at e2
      subst e2
      obtain ⟨hi1, hi2⟩ := List.getElem?_eq_some_iff.1 hg
      obtain ⟨hj1, hj2⟩ := List.getElem?_eq_some_iff.1 hj
      rcases Nat.lt_or_gt_of_ne e with q | q
      · exact List.pairwise_iff_getElem.1 h.nodup i j hi1 hj1 q (hi2.trans hj2.symm)
      · exact List.pairwise_iff_getElem.1 h.nodup j i hj1 hi1 q (hj2.trans hi2.symm)

theorem Sh.at_ {w0 wr : World} {n i gv d N : Nat} {L : List (List UInt8)} {gs : List Nat} (h : Sh w0 n L (.slice (some ⟨gv, 0, none⟩) N d) gs wr) (hN : L.length = N) (hi : i < N) :
    ∃ g m, gs[i]? = some g ∧ L[i]? = some m ∧ wr.cell? ⟨gv, i, none⟩ = some (.slice (some ⟨g, 0, none⟩) n n) := by
  have hrow := h.row
  rw [hN] at hrow
  refine ⟨gs[i]'(by rw [h.len]; omega), L[i], List.getElem?_eq_getElem _, List.getElem?_eq_getElem _, ?_⟩
  rw [hrow.cellAt i (by omega)]
  unfold rowv
  rw [List.getElem?_map, List.getElem?_eq_getElem (by rw [h.len]; omega)]
  rfl

theorem Sh.rbb {w0 wr : World} {n N d : Nat} {A : Option Addr} {L : List (List UInt8)} {gs : List Nat} (h : Sh w0 n L (.slice A N d) gs wr) (hN : L.length = N) (hl : ∀ m ∈ L, m.length = n) (hn : n ≤ maxLen) : RBB wr no A N d L := by
  have hrow := h.row
  rw [hN] at hrow
  have he : Each wr no (rowv n gs) L := by
    refine ⟨by unfold rowv; simp [h.len], fun j b hj => ?_⟩
    have hjl : j < gs.length := by rw [h.len]; exact (List.getElem?_eq_some_iff.1 hj).1
    refine ⟨some ⟨gs[j], 0, none⟩, n, n, ?_, (h.blk j _ b (List.getElem?_eq_getElem hjl) hj).rb (fun h => h) (hl b (List.mem_of_getElem? hj)) (Nat.le_refl _) hn⟩
    unfold rowv
    rw [List.getElem?_map, List.getElem?_eq_getElem hjl]
    rfl
  obtain ⟨A', c, e, h2⟩ := RBB.of_own hrow he
  injection e with e1 _ e2
  subst e1 e2
  exact h2

theorem AccB.apart' {f : Nat → Nat} {x a m : List UInt8} {i n p : Nat} {L : List (List UInt8)} {c z : UInt8} (h : AccB f x i a) (hL : ShB f (8 * n) L) (hm : L[i]? = some m) (hp : p < n) (ha : a[p]? = some c) (hz : (masked x m)[p]? = some z) : c &&& z = 0 := by
  unfold masked at hz
  rw [List.getElem?_zipWith] at hz
  cases hx : x[p]? with
  | none => rw [hx] at hz; simp at hz
  | some y =>
    cases hm' : m[p]? with
    | none => rw [hx, hm'] at hz; simp at hz
    | some z' =>
      rw [hx, hm'] at hz
      simp only [Option.some.injEq] at hz
      subst hz
      exact h.apart hL hm hp ha hx hm'

theorem or_bit (c : UInt8) (s : Nat) (hs : s < 8) : bits .or .u8 (c.toNat : Int) ((2 : Int) ^ s % 256) = ((c.toNat ||| 2 ^ s : Nat) : Int) := by
  have h1 : 2 ^ s < 256 := Nat.pow_lt_pow_right (n := 8) (by omega) hs
  have h2 : (2 : Int) ^ s % 256 = ((2 ^ s : Nat) : Int) := by
    have h3 : (2 : Int) ^ s = ((2 ^ s : Nat) : Int) := by simp
    rw [h3]
    clear h3
    generalize 2 ^ s = t at h1 ⊢
    omega
  rw [h2, u8_or_nat _ _ c.toNat_lt h1]

/-- What is put together, in its block. -/
def AccR (v : World) (f : Nat → Nat) (x : List UInt8) (n i : Nat) (wr : World) : Prop :=
  ∃ a : List UInt8, Blk wr v.heap.size 5 (bsv a) ∧ AccB f x i a ∧ a.length = n ∧ Below v.heap.size v wr
theorem AccR.start (v : World) (f : Nat → Nat) (x : List UInt8) (n : Nat) : AccR v f x n 0 (v.alloc (.cells (timesOf n (.int .u8 0)).toArray 5)) := by
  refine ⟨List.replicate n 0, ?_, AccB.zero _ _ _, by simp, (Below.refl _ _).alloc (Nat.le_refl _) _⟩
  have := Blk.new v 5 (timesOf n (.int .u8 0))
  unfold bsv
  rw [List.map_replicate]
  exact this

/-- The masks in the midst of the sharing. -/
def ShL (w0 : World) (n N : Nat) (f : Nat → Nat) (gv d : Nat) (gs : List Nat) (K : Nat) (wr : World) : Prop :=
  ∃ L : List (List UInt8), Sh w0 n L (.slice (some ⟨gv, 0, none⟩) N d) gs wr ∧ ShB f K L ∧ L.length = N ∧ ∀ m ∈ L, m.length = n
theorem ShL.step {w0 wr : World} {n N gv d K : Nat} {f : Nat → Nat} {gs : List Nat} (h : ShL w0 n N f gv d gs K wr) (hK : K < 8 * n) (hf : f K < N) :
    ∃ g c, wr.cell? ⟨gv, f K, none⟩ = some (.slice (some ⟨g, 0, none⟩) n n) ∧ wr.cell? ⟨g, K / 8, none⟩ = some (.int .u8 ((c : UInt8).toNat : Int)) ∧ wr.frozen? ⟨g, K / 8, none⟩ = false ∧
      ShL w0 n N f gv d gs (K + 1) (wr.setCell ⟨g, K / 8, none⟩ (.int .u8 ((c.toNat ||| 2 ^ (7 - K % 8) : Nat) : Int))).drew := by
  obtain ⟨L, h1, h2, h3, h4⟩ := h
  obtain ⟨g, m, hg, hm, hc⟩ := h1.at_ h3 hf
  have hml := h4 m (List.mem_of_getElem? hm)
  have hc2 : m[K / 8]? = some m[K / 8] := List.getElem?_eq_getElem (by omega)
  have hb := h1.blk _ g m hg hm
  refine ⟨g, m[K / 8], hc, by rw [hb.cell]; unfold bsv; rw [List.getElem?_map, hc2]; rfl, hb.frozen _, ?_⟩
  rw [← withBit_nat _ (by omega)]
  refine ⟨_, h1.store hg hm (withBit m[K / 8] (7 - K % 8)), h2.step rfl hm hc2, by simp [h3], fun m' hm' => ?_⟩
  rcases List.mem_or_eq_of_mem_set hm' with q | q
  · exact h4 m' q
  · rw [q]; simp [hml]
end Go.Proofs.YtknajppjgdhbfaaDoor
