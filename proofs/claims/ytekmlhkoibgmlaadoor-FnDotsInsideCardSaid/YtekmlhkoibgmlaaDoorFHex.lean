/-
  The contracts of fHex and fParts.
-/
import Derived.Test.YtekmlhkoibgmlaaDoorFDec
import Derived.Test.YtekmlhkoibgmlaaDoorME
import Derived.Deep.RegionHeldLaw
import Derived.Deep.AppendLies
namespace Go.Proofs.YtekmlhkoibgmlaaDoor
open Go.RowKit
set_option linter.unusedVariables false

/-- What stands ahead of the digits so far. -/
def aheadH (n : Nat) : List UInt8 := if n = 0 then [] else hexL n
theorem aheadH_step {n : Nat} (h : n ≠ 0) : aheadH n = aheadH (n / 16) ++ [hdig (n % 16)] := by
  unfold aheadH
  rw [if_neg h]
  by_cases h1 : n < 16
  · rw [hexL_small h1, if_pos (by omega), Nat.mod_eq_of_lt h1]; rfl
  · rw [hexL_big h1, if_neg (by omega)]
theorem hex_ahead (n : Nat) : hexL n = aheadH (n / 16) ++ [hdig (n % 16)] := by
  by_cases h : n = 0
  · subst h; rw [hexL_small (by omega)]; rfl
  · rw [← aheadH_step h]; unfold aheadH; rw [if_neg h]

set_option maxRecDepth 100000 in
set_option maxHeartbeats 800000 in
theorem fHex_any (x y : UInt8) (w : World) :
    Calls Tryd.prog 36 #[.int .u8 (x.toNat : Int), .int .u8 (y.toNat : Int)] w fun e w' => e = .returned (.string ⟨(hexL (x.toNat * 256 + y.toNat)).toArray⟩) ∧ w = w' := by
  obtain ⟨n, hn⟩ : ∃ n, n = x.toNat * 256 + y.toNat := ⟨_, rfl⟩
  have hx := x.toNat_lt
  have hy := y.toNat_lt
  have hxy : (256 : Int) * (x.toNat : Int) + (y.toNat : Int) = (n : Int) := by omega
  have hnl : n ≤ 65535 := by omega
  have h0x : (x.toNat : Int) < 256 := by omega
  have h0y : (y.toNat : Int) < 256 := by omega
  rw [← hn]
  have Hd := hide (hex_ahead n)
  have Hs := hide (hex_slice (d := n % 16) (Nat.mod_lt _ (by omega)))
  have i1 : (n : Int) % 16 < 16 := by omega
  have i2 : (0 : Int) ≤ (n : Int) % 16 := by omega
  have i3 : (n : Int) % 16 + 1 ≤ 16 := by omega
  have i4 : ((n : Int) % 16).toNat = n % 16 := by omega
  have i5 : ((n : Int) % 16 + 1).toNat = n % 16 + 1 := by omega
  clear hn
  go_enter Tryd.func36, Tryd.ntmps36
  go_wp2_with fail
  rw [Hs.out]
  go_loop [5, 6] (fun s0 s3 => ∃ (m : Nat) (out : List UInt8), m ≤ 65535 ∧ s0 = .int .i64 m ∧ s3 = .string ⟨out.toArray⟩ ∧ out.length + m ≤ 65540 ∧ hexL n = aheadH m ++ out) (fun s0 _ => (intOf s0).toNat)
  case atStart => exact ⟨n / 16, [hdig (n % 16)], by omega, by go_num, rfl, by simp; omega, Hd.out⟩
  case round =>
    obtain ⟨m, out, hm, rfl, rfl, hol, hd⟩ := hrel
    have Hd1 := hide hd
    clear hd i1 i2 i3 i4 i5
    by_cases h0 : m = 0
    · subst h0
      go_wp2_with fail
      go_ret
      refine ⟨?_, rfl⟩
      rw [Hd1.out]; rfl
    · have h0' : (0 : Int) < m := by omega
      have Hs1 := hide (hex_slice (d := m % 16) (Nat.mod_lt _ (by omega)))
      have Hst : Hid (hexL n = aheadH (m / 16) ++ (hdig (m % 16) :: out)) := hide (by rw [Hd1.out, aheadH_step h0]; simp)
      have i1 : (m : Int) % 16 < 16 := by omega
      have i2 : (0 : Int) ≤ (m : Int) % 16 := by omega
      have i3 : (m : Int) % 16 + 1 ≤ 16 := by omega
      have i4 : ((m : Int) % 16).toNat = m % 16 := by omega
      have i5 : ((m : Int) % 16 + 1).toNat = m % 16 + 1 := by omega
      have i6 : ¬ (9223372036854775807 < min (m % 16 + 1) 16 - m % 16 + out.length) := by omega
      go_wp2_with fail
      go_round
      case rel =>
        refine ⟨m / 16, hdig (m % 16) :: out, by omega, by go_num, ?_, by simp; omega, Hst.out⟩
        rw [Hs1.out]
        exact congrArg Value.string (ba_append [hdig (m % 16)] out)
      case measure => simp [intOf]; omega

/-- The groups of two bytes, in hexadecimal digits. -/
def partsL : List UInt8 → List (List UInt8)
  | x :: y :: r => hexL (x.toNat * 256 + y.toNat) :: partsL r
  | _ => []
theorem partsL_snoc : ∀ (k : Nat) (xs : List UInt8) (x y : UInt8), xs[2 * k]? = some x → xs[2 * k + 1]? = some y → partsL (xs.take (2 * (k + 1))) = partsL (xs.take (2 * k)) ++ [hexL (x.toNat * 256 + y.toNat)]
  | 0, xs, x, y, hx, hy => by
    match xs, hx, hy with
    | a :: b :: r, hx, hy =>
      simp at hx hy
      subst hx hy
      simp [partsL]
  | k + 1, xs, x, y, hx, hy => by
    match xs, hx, hy with
    | [], hx, hy => simp at hx
    | [a], hx, hy => simp [show 2 * (k + 1) = 2 * k + 1 + 1 by omega] at hx
    | a :: b :: r, hx, hy =>
      rw [show 2 * (k + 1) = 2 * k + 1 + 1 by omega] at hx hy ⊢
      rw [show 2 * (k + 1 + 1) = 2 * (k + 1) + 1 + 1 by omega]
      simp only [List.getElem?_cons_succ, List.take_succ_cons] at hx hy ⊢
      rw [partsL, partsL, partsL_snoc k r x y hx hy]
      rfl
theorem partsL_all : ∀ (k : Nat) (xs : List UInt8), xs.length ≤ 2 * k + 1 → partsL (xs.take (2 * k)) = partsL xs
  | 0, xs, h => by
    match xs, h with
    | [], _ => rfl
    | [a], _ => rfl
  | k + 1, xs, h => by
    match xs, h with
    | [], _ => rfl
    | [a], _ => simp [show 2 * (k + 1) = 2 * k + 1 + 1 by omega]
    | a :: b :: r, h =>
      rw [show 2 * (k + 1) = 2 * k + 1 + 1 by omega]
      simp only [List.take_succ_cons]
      rw [partsL, partsL, partsL_all k r (by simp at h; omega)]
theorem partsL_len : ∀ (xs : List UInt8), (partsL xs).length = xs.length / 2
  | [] => rfl
  | [a] => by simp [partsL]
  | a :: b :: r => by rw [partsL, List.length_cons, partsL_len r]; simp; omega
def ptV (xs : List UInt8) (k : Nat) : List Value := (partsL (xs.take (2 * k))).map sv
theorem ptV_snoc {k : Nat} {xs : List UInt8} {x y : UInt8} (hx : xs[2 * k]? = some x) (hy : xs[2 * k + 1]? = some y) : ptV xs (k + 1) = ptV xs k ++ [.string ⟨(hexL (x.toNat * 256 + y.toNat)).toArray⟩] := by
  unfold ptV; rw [partsL_snoc k xs x y hx hy]; simp [sv]
theorem string_infoH : (Tryd.prog.info? 9).map (fun i => (i.zero, i.size, i.bytes)) = some (some (.string ⟨#[]⟩), 1, 16) := by kernel_rfl

set_option maxRecDepth 100000 in
set_option maxHeartbeats 3200000 in
theorem fParts_own (A : Option Addr) (n c : Nat) (xs : List UInt8) (w : World) (ha : RB w no A n c xs) (hn : n ≤ 1048576) :
    Calls Tryd.prog 12 #[.slice A n c] w fun e w' => ∃ v, e = .returned v ∧ w'.ownsRow w.heap.size 9 1 v (partsL xs).length ((partsL xs).map sv) ∧ Below w.heap.size w w' := by
  obtain ⟨i0, hinf, hz0, hz1, hz2⟩ := info_parts string_infoH
  have HA := hide ha
  have Hst : Hid ((w.alloc (.cells #[] 9)).ownsRow w.heap.size 9 1 (.slice (some ⟨w.heap.size, 0, none⟩) 0 0) 0 (ptV xs 0) ∧ Below w.heap.size w (w.alloc (.cells #[] 9))) :=
    hide ⟨own_empty w w.heap.size _ (Nat.le_refl _), (Below.refl _ _).alloc (Nat.le_refl _) _⟩
  clear ha
  go_enter Tryd.func12, Tryd.ntmps12
  go_wp2_with fail
  go_loopw [3, 4] (fun v i wr => ∃ k p : Nat, p = 2 * k ∧ p ≤ n ∧ i = .int .i64 (p : Int) ∧ wr.ownsRow w.heap.size 9 1 v k (ptV xs k) ∧ Below w.heap.size w wr) (fun _ i _ => n - (intOf i).toNat)
  case atStart => exact ⟨0, 0, rfl, Nat.zero_le _, rfl, Hst.out⟩
  case round =>
    obtain ⟨k, p, hp, hk, rfl, h1, h2⟩ := hrel
    have Hp := hide hp
    have H1 := hide h1
    have H2 := hide h2
    by_cases hlt : p + 1 < n
    · obtain ⟨g, o, x, rfl, hx, hcx0⟩ := HA.out.at_ (k := p) (by omega)
      obtain ⟨g', o', y, e, hy, hcy0⟩ := HA.out.at_ (k := p + 1) (by omega)
      injection e with e; injection e with e1 e2; subst e1 e2
      have hkn : k ≤ 1048576 := by omega
      have Hsn := hide (ptV_snoc (k := k) (by rw [← hp]; exact hx) (by rw [← hp]; exact hy))
      have Hh := hide (fun W => fHex_any x y W)
      obtain ⟨q, hq⟩ : ∃ q, q = p + 1 := ⟨_, rfl⟩
      have hqi : (p : Int) + 1 = (q : Int) := by omega
      rw [← hq] at hcy0
      have hcx := cell_below hcx0 h2
      have hcy := cell_below hcy0 h2
      have j1 : (q : Int) < n := by omega
      have j5 : (0 : Int) ≤ (q : Int) := by omega
      have j6 : (q : Int) ≤ 1048576 := by omega
      have j7 : (p : Int) ≤ 1048576 := by omega
      have j8 : IntKind.i64.wrap (q : Int) = (q : Int) := by rw [IntKind.wrap_i64]; omega
      have j9 : IntKind.i64.wrap ((p : Int) + 1) = (q : Int) := by rw [IntKind.wrap_i64]; omega
      have j2 : (0 : Int) ≤ (p : Int) := by omega
      have j3 : (p : Int) < n := by omega
      have hsz := h2.size
      generalize hexL (x.toNat * 256 + y.toNat) = tx at *
      have Ho := hide (h1.alloc (.cells #[.string ⟨tx.toArray⟩] 9))
      have Hfar := hide (fun (w1 : World) (hg : (wr.drew.alloc (.cells #[.string ⟨tx.toArray⟩] 9)).grownBy w1 u3.ownBlock) =>
        have hb := below_append (h2.drew.alloc h2.size (.cells #[.string ⟨tx.toArray⟩] 9)) hg (World.ownsRow.alloc (w := wr.drew) h1 (.cells #[.string ⟨tx.toArray⟩] 9)) (by simp; omega)
        show (w1.cell? ⟨g, o + p, none⟩ = some (.int .u8 (x.toNat : Int)) ∧ w1.cell? ⟨g, o + q, none⟩ = some (.int .u8 (y.toNat : Int))) ∧ Below w.heap.size w w1 from ⟨⟨cell_below hcx0 hb, cell_below hcy0 hb⟩, hb⟩)
      generalize ptV xs k = nv at *
      have Hq := hide hq
      clear hx hy h1 h2 hp hq hcx0 hcy0
      go_wp2_with fail
      go_region_held_law (fun W => W.cell? ⟨g, o + p, none⟩ = some (.int .u8 (x.toNat : Int)) ∧ W.cell? ⟨g, o + q, none⟩ = some (.int .u8 (y.toNat : Int))) (first | go_keep | exact (Hfar.out _ hgrow).1)
        ((first
          | (go_at_call 36; refine (Hh.out _).mono ?_; rintro e w' ⟨rfl, rfl⟩)
          | (refine step_append_lies _ (by rfl) (.tmp 13) (.tmp 24) _ (by rfl) w.heap.size 9 i0 _ 1 16 Tryd.underlying23 hinf hz0 hz1 hz2 (by rfl) (by omega) _ k _ (by rfl) Ho.out ⟨wr.heap.size, 0, none⟩ 1 1 [.string ⟨tx.toArray⟩] (by rfl) (by rfl) (World.news_of_block (heap_alloc_new _ _)) (by intro u hu; simp at hu; subst hu; rfl) (by omega) (by unfold maxLen; omega) (by omega) (by simp; omega) (wr.heap.size + 1) (by simp) ?_; intro gg cap w1 hown1 hgrow hat hlt')))
      have HB := hide (Hfar.out _ hgrow).2
      have HO := hide hown1
      rw [← Hsn.out] at HO
      clear hown1 hgrow hat hlt' Ho Hfar
      go_wp2_with fail
      go_roundw
      case rel => exact ⟨k + 1, p + 2, by have := Hp.out; omega, by omega, by go_num, HO.out, HB.out⟩
      case measure => simp [intOf]; omega
    · have j1 : ¬ ((p : Int) + 1 < n) := by omega
      have hnv : ptV xs k = (partsL xs).map sv := by unfold ptV; rw [partsL_all k xs (by rw [HA.out.len]; omega)]
      have hlen : (partsL xs).length = k := by
        have := h1.1
        rw [hnv, List.length_map] at this
        simpa using this
      rw [hnv, ← hlen] at h1
      have HR := hide h1
      clear h1 h2 hnv hlen H1
      go_wp2_with fail
      go_ret
      exact ⟨_, rfl, HR.out, H2.out⟩
theorem fParts_any (A : Option Addr) (n c : Nat) (xs : List UInt8) (w : World) (ha : RB w no A n c xs) (hn : n ≤ 1048576) :
    Calls Tryd.prog 12 #[.slice A n c] w (RetSF w (partsL xs)) :=
  (fParts_own A n c xs w ha hn).mono fun e w' h => by
    obtain ⟨v, rfl, h1, h2⟩ := h
    obtain ⟨AL, cL, rfl, hR⟩ := RS.of_own_av (av := fun g => g < w.heap.size) h1 (fun g h => h)
    exact ⟨AL, cL, rfl, hR, h2⟩
end Go.Proofs.YtekmlhkoibgmlaaDoor
