/-
  The contracts of markByteS and markByteSS: they write into the blocks of the slices alone.
-/
import Derived.Test.YtbpecepegceleaaExToSS
import Derived.Test.YtbpecepegceleaaExSz
namespace Go.Proofs.Ytbpecepegceleaa
open Go.RowKit
set_option linter.unusedVariables false

/-- A block of n bytes that may be written. -/
def Wr8 (w : World) (g n : Nat) : Prop := ∃ xs, Blk w g 5 xs ∧ xs.length = n
theorem Wr8.set {w : World} {g n : Nat} (h : Wr8 w g n) (g' i : Nat) (u : Value) : Wr8 (w.setCell ⟨g', i, none⟩ u) g n := by
  obtain ⟨xs, h1, h2⟩ := h
  by_cases e : g = g'
  · subst e; exact ⟨_, h1.set_ i u, by simp [h2]⟩
  · exact ⟨xs, h1.far (by simpa using e) u, h2⟩

/-- What stays: all but the blocks of S; the bytes' blocks keep their sizes. -/
def Marked (S : Nat → Prop) (w w' : World) : Prop := Kept S w w' ∧ (∀ g n, Wr8 w g n → Wr8 w' g n) ∧ w'.os = w.os ∧ w'.tape = w.tape ∧ w'.output = w.output
theorem Marked.refl (S : Nat → Prop) (w : World) : Marked S w w := ⟨Kept.refl _ _, fun _ _ h => h, rfl, rfl, rfl⟩
theorem Marked.store {S : Nat → Prop} {w w' : World} {g : Nat} (h : Marked S w w') (hg : S g) (i : Nat) (u : Value) : Marked S w (w'.setCell ⟨g, i, none⟩ u) := by
  obtain ⟨h1, h2, h3, h4, h5⟩ := h
  exact ⟨h1.trans ((Kept.setCell (w := w')).mono (fun k hk => by unfold just at hk; subst hk; exact hg)), fun k n hk => (h2 k n hk).set g i u, h3, h4, h5⟩
theorem Marked.trans {S : Nat → Prop} {a b c : World} (h : Marked S a b) (k : Marked S b c) : Marked S a c :=
  ⟨h.1.trans k.1, fun g n hg => k.2.1 g n (h.2.1 g n hg), k.2.2.1.trans h.2.2.1, k.2.2.2.1.trans h.2.2.2.1, k.2.2.2.2.trans h.2.2.2.2⟩

set_option maxHeartbeats 1600000 in
theorem markByteS_any (S : Nat → Prop) (g n q : Nat) (w : World) (hw : Wr8 w g n) (hS : S g) (hn : n ≤ 1048577) (hq : q ≤ 1048577) :
    Calls Try.prog 24 #[.slice (some ⟨g, 0, none⟩) n n, .int .i64 (q : Int)] w fun e w' => e = .returned (.int .i64 ((q + n : Nat) : Int)) ∧ Marked S w w' := by
  have Hw := hide hw
  have HS := hide hS
  clear hw hS
  go_enter Try.func24, Try.ntmps24
  go_wp2_with fail
  go_loopw [1, 5] (fun s i wr => ∃ k : Nat, k ≤ n ∧ i = .int .i64 k ∧ s = .int .i64 ((q + k : Nat) : Int) ∧ Marked S w wr) (fun _ i _ => n - (intOf i).toNat)
  case atStart => exact ⟨0, Nat.zero_le _, rfl, rfl, Marked.refl _ _⟩
  case round =>
    obtain ⟨k, hk, rfl, rfl, hr⟩ := hrel
    have Hr := hide hr
    by_cases hlt : k < n
    · obtain ⟨xs, hb, hxl⟩ := hr.2.1 g n Hw.out
      obtain ⟨u, hu⟩ : ∃ u, wr.cell? ⟨g, k, none⟩ = some u := ⟨_, by rw [hb.cell]; exact List.getElem?_eq_getElem (by omega)⟩
      have hfz := hb.frozen k
      have i1 : (0 : Int) ≤ k := by omega
      have i2 : (k : Int) < n := by omega
      have Hst := hide (fun v => hr.store HS.out k v)
      clear hr hb hxl
      go_wp2_with fail
      go_roundw
      case rel => exact ⟨k + 1, by omega, by go_num, by go_num, Hst.out _⟩
      case measure => simp [intOf]; omega
    · obtain rfl : k = n := by omega
      clear hr
      go_wp2_with fail
      go_ret
      exact ⟨rfl, Hr.out⟩

theorem TSS.at_ {w wr : World} {bss : List (List UInt8)} {gs : List Nat} {k : Nat} (h : TSS w bss gs wr) (hg : gs.length = bss.length) (hk : k < bss.length) :
    ∃ g b, gs[k]? = some g ∧ bss[k]? = some b ∧ (rowOfGs gs bss bss.length)[k]? = some (.slice (some ⟨g, 0, none⟩) b.length b.length) ∧ Wr8 wr g b.length := by
  have hb := List.getElem?_eq_getElem hk
  have hgk := List.getElem?_eq_getElem (show k < gs.length by omega)
  refine ⟨_, _, hgk, hb, ?_, ⟨_, h.blk k _ _ hgk hb, by unfold byv; simp⟩⟩
  unfold rowOfGs
  rw [List.getElem?_append_left (by rw [List.length_zipWith]; omega), List.getElem?_zipWith, hgk, hb]


theorem row_at {bss : List (List UInt8)} {gs : List Nat} {k g : Nat} {b : List UInt8} (hg : gs[k]? = some g) (hb : bss[k]? = some b) : (rowOfGs gs bss bss.length)[k]? = some (.slice (some ⟨g, 0, none⟩) b.length b.length) := by
  have h1 := (List.getElem?_eq_some_iff.1 hg).1
  have h2 := (List.getElem?_eq_some_iff.1 hb).1
  unfold rowOfGs
  rw [List.getElem?_append_left (by rw [List.length_zipWith]; omega), List.getElem?_zipWith, hg, hb]

set_option maxHeartbeats 1600000 in
theorem markByteSS_any (gv N q : Nat) (bss : List (List UInt8)) (gs : List Nat) (w : World) (hrow : Blk w gv 22 (rowOfGs gs bss bss.length)) (hgl : gs.length = N) (hbl : bss.length = N)
    (hwr : ∀ (k g : Nat) (b : List UInt8), gs[k]? = some g → bss[k]? = some b → Wr8 w g b.length) (hgv : ¬ gv ∈ gs) (hN : N ≤ 1048576) (hsum : q + sumTo bss N ≤ 1048577) :
    Calls Try.prog 14 #[.slice (some ⟨gv, 0, none⟩) N N, .int .i64 (q : Int)] w fun e w' => e = .returned (.int .i64 ((q + sumTo bss N : Nat) : Int)) ∧ Marked (· ∈ gs) w w' := by
  have Hrow := hide hrow
  have Hgl := hide hgl
  have Hbl := hide hbl
  have Hwr := hide hwr
  have Hgv := hide hgv
  have Hsum := hide hsum
  clear hrow hgl hbl hwr hgv hsum
  go_enter Try.func14, Try.ntmps14
  go_wp2_with fail
  go_loopw [1, 5] (fun s i wr => ∃ k r : Nat, k ≤ N ∧ i = .int .i64 k ∧ s = .int .i64 (r : Int) ∧ r = q + sumTo bss k ∧ Marked (· ∈ gs) w wr) (fun _ i _ => N - (intOf i).toNat)
  case atStart => exact ⟨0, q, Nat.zero_le _, rfl, rfl, by unfold sumTo; simp, Marked.refl _ _⟩
  case round =>
    obtain ⟨k, r, hk, rfl, rfl, hq, hr⟩ := hrel
    have Hr := hide hr
    have Hq := hide hq
    by_cases hlt : k < N
    · obtain ⟨g, hg⟩ : ∃ g, gs[k]? = some g := ⟨_, List.getElem?_eq_getElem (by rw [Hgl.out]; exact hlt)⟩
      obtain ⟨b, hb⟩ : ∃ b, bss[k]? = some b := ⟨_, List.getElem?_eq_getElem (by rw [Hbl.out]; exact hlt)⟩
      have hle : sumTo bss k + b.length ≤ sumTo bss N := by rw [← sumTo_succ hb]; exact sumTo_le bss (by omega)
      have hcell : wr.cell? ⟨gv, k, none⟩ = some (.slice (some ⟨g, 0, none⟩) b.length b.length) := by
        rw [(Hrow.out.keep hr.1 Hgv.out).cell]; exact row_at hg hb
      have hs := Hsum.out
      have Hc := hide (markByteS_any (· ∈ gs) g b.length r wr (hr.2.1 g _ (Hwr.out k g b hg hb)) (List.mem_of_getElem? hg) (by omega) (by omega))
      have Hq2 : Hid (r + b.length = q + sumTo bss (k + 1)) := hide (by rw [sumTo_succ hb]; omega)
      have i1 : (0 : Int) ≤ k := by omega
      have i2 : (k : Int) < N := by omega
      generalize hbn : b.length = bn at *
      generalize hrn : r + bn = rn at *
      clear hr hq hg hb hle hs hbn hrn
      go_wp2_with fail
      with_reducible refine Hc.out.mono ?_
      rintro e w1 ⟨rfl, h1⟩
      have H1 := hide (Hr.out.trans h1)
      clear h1
      go_wp2_with fail
      go_roundw
      case rel => exact ⟨k + 1, rn, by omega, by go_num, rfl, Hq2.out, H1.out⟩
      case measure => simp [intOf]; omega
    · obtain rfl : k = N := by omega
      clear hr hq
      go_wp2_with fail
      go_ret
      exact ⟨by rw [← Hq.out]; rfl, Hr.out⟩
end Go.Proofs.Ytbpecepegceleaa
