/-
  The contracts of ContainsEach and contains, where number, mask and addresses are of one length and not IPv4-mapped.
-/
import Derived.Test.YtknajppjgdhbfaaContains
import Derived.Deep.LoopGhost
namespace Go.Proofs.Ytknajppjgdhbfaa
open Go.RowKit

theorem bool_info : (Try.prog.info? 4).map (fun i => (i.zero, i.size, i.bytes)) = some (some (.bool false), 1, 1) := by kernel_rfl

/-- A slice of bools comes back; nothing that was there has turned. -/
def RetL (w : World) (ys : List Bool) (e : Ending) (w' : World) : Prop := ∃ A c, e = .returned (.slice A ys.length c) ∧ RL w' no A ys.length c ys ∧ Below w.heap.size w w'

/-- The same, and it lies in new memory: in no block that was there. -/
def RetLF (w : World) (ys : List Bool) (e : Ending) (w' : World) : Prop := ∃ A c, e = .returned (.slice A ys.length c) ∧ (∀ av : Nat → Prop, (∀ g, av g → g < w.heap.size) → RL w' av A ys.length c ys) ∧ Below w.heap.size w w'
theorem RetLF.plain {w : World} {ys : List Bool} {e : Ending} {w' : World} (h : RetLF w ys e w') : RetL w ys e w' := by
  obtain ⟨A, c, h1, h2, h3⟩ := h
  exact ⟨A, c, h1, h2 no (fun _ h => h.elim), h3⟩
def netsTo (xs ms : List UInt8) (bss : List (List UInt8)) (k : Nat) : List Value := ((bss.take k).map (inNet xs ms)).map Value.bool
/-- After k rounds. -/
def CEr (w : World) (A M : Option Addr) (n c d : Nat) (xs ms : List UInt8) (bss : List (List UInt8)) (k : Nat) (v : Value) (wr : World) : Prop :=
  wr.ownsRow w.heap.size 4 1 v k (netsTo xs ms bss k) ∧ v.ownBlock ≠ some (w.heap.size + 1) ∧
    wr.heap[w.heap.size + 1]? = some (.cells #[.slice A n c, .slice M n d] 52 (0, 0)) ∧ Below w.heap.size w wr

theorem CEr.start (w : World) (A M : Option Addr) (n c d : Nat) (xs ms : List UInt8) (bss : List (List UInt8)) :
    CEr w A M n c d xs ms bss 0 (.slice (some ⟨w.heap.size, 0, none⟩) 0 0) ((w.alloc (.cells #[] 4)).alloc (.cells #[.slice A n c, .slice M n d] 52)) := by
  refine ⟨(own_empty w w.heap.size 4 (Nat.le_refl _)).alloc _, by simp [Value.ownBlock], ?_, ((Below.refl _ _).alloc (Nat.le_refl _) _).alloc (by simp) _⟩
  have := heap_alloc_new (w.alloc (.cells #[] 4)) (.cells #[.slice A n c, .slice M n d] 52)
  simpa using this

theorem CEr.step {w : World} {A M : Option Addr} {n c d : Nat} {xs ms : List UInt8} {bss : List (List UInt8)} {k : Nat} {v v' : Value} {wr w' : World} {b : List UInt8} {q : Nat} (h : CEr w A M n c d xs ms bss k v wr) (hb : bss[k]? = some b)
    (ho : w'.ownsRow w.heap.size 4 1 v' (k + 1) (netsTo xs ms bss k ++ [.bool (inNet xs ms b)])) (hg : ((wr.drewN q).alloc (.cells #[.bool (inNet xs ms b)] 4)).grownBy w' v.ownBlock)
    (hv : v'.ownBlock = v.ownBlock ∨ v'.ownBlock = some (wr.heap.size + 1)) : CEr w A M n c d xs ms bss (k + 1) v' w' := by
  obtain ⟨h1, h2, h3, h4⟩ := h
  have hlt := block_lt h3
  refine ⟨?_, ?_, ?_, ?_⟩
  · unfold netsTo at ho ⊢; rw [take_snoc hb]; simpa using ho
  · rcases hv with hv | hv
    · rw [hv]; exact h2
    · rw [hv]; simp; omega
  · exact block_append (block_alloc (w := wr.drewN q) h3 _) hg h2
  · exact below_append ((below_drewN h4 q).alloc (by simpa using h4.size) _) hg ((own_drewN h1 q).alloc _) (by simp; have := h4.size; omega)

set_option maxHeartbeats 1600000 in
theorem containsEach_new (A M L : Option Addr) (n c d N e : Nat) (xs ms : List UInt8) (bss : List (List UInt8)) (w : World) (ha : RB w no A n c xs) (hM : RB w no M n d ms) (hL : RBB w no L N e bss)
    (hn : n = 4 ∨ n = 16) (hm : mapd xs = false) (hall : ∀ b ∈ bss, b.length = n ∧ mapd b = false) (hN : N ≤ 140737488351232) :
    Calls Try.prog 13 #[.slice A n c, .slice M n d, .slice L N e] w (RetLF w (bss.map (inNet xs ms))) := by
  obtain ⟨i0, hi, hz0, hz1, hz2⟩ := info_parts bool_info
  have HA := hide ha
  have HM := hide hM
  have HL := hide hL
  have Hn := hide hn
  have Hm := hide hm
  have Hall := hide hall
  clear ha hM hL hn hm hall
  go_enter Try.func13, Try.ntmps13
  have hst := CEr.start w A M n c d xs ms bss
  have Hst := hide hst
  clear hst
  go_wp2
  go_loopw [7, 17] (fun v i wr => ∃ k : Nat, k ≤ N ∧ i = .int .i64 k ∧ CEr w A M n c d xs ms bss k v wr) (fun _ i _ => N - (intOf i).toNat)
  case atStart => exact ⟨0, Nat.zero_le _, rfl, Hst.out⟩
  case round =>
    obtain ⟨k, hk, rfl, hr⟩ := hrel
    have Hr := hide hr
    have hbel := hr.2.2.2
    by_cases hlt : k < N
    · obtain ⟨g, o, B, m, f, b, rfl, hbk, hc, hb⟩ := (HL.out.below hbel).at_ hlt
      have hbn := Hall.out b (List.mem_of_getElem? hbk)
      obtain rfl : m = n := by rw [← hb.len]; exact hbn.1
      have p0 : wr.cell? ⟨w.heap.size + 1, 0, none⟩ = some (.slice A m c) := by rw [cell_of_row wr _ _ _ _ _ hr.2.2.1]; rfl
      have p1 : wr.cell? ⟨w.heap.size + 1, 0 + 1, none⟩ = some (.slice M m d) := by rw [cell_of_row wr _ _ _ _ _ hr.2.2.1]; rfl
      have hcon := contains_any _ _ m A M B c d f wr no no no xs ms b p0 p1 Hn.out (HA.out.below hbel) (HM.out.below hbel) hb Hm.out hbn.2
      have Hcon := hide hcon
      have Hbk := hide hbk
      have hsz := hbel.size
      have ho : ∀ q : Nat, ((wr.drewN q).alloc (.cells #[.bool (inNet xs ms b)] 4)).ownsRow w.heap.size 4 1 u7 k (netsTo xs ms bss k) := fun q => (own_drewN hr.1 q).alloc _
      have Ho := hide ho
      clear hbk hr hb hbn p0 p1 hcon hbel ho
      go_wp2_with fail
      refine Hcon.out.mono ?_
      rintro e w' ⟨rfl, q, rfl⟩
      go_wp2_with (at_builtin; refine wpList_append_rd _ rfl (.tmp 21) (.tmp 24) _ rfl w.heap.size 4 i0 _ 1 Try.underlying25 hi hz0 hz1 hz2 rfl _ k _ rfl (Ho.out q) no (some ⟨wr.heap.size, 0, none⟩) 1 1 [.bool (inNet xs ms b)] rfl ?c0 ?c1 ?c2 ?c3 ?c4 ?_)
      case c0 => exact Rd.one (wr.drewN q) _ _ no (fun h => h)
      case c1 => intro u hu; simp at hu; subst hu; rfl
      case c2 => unfold maxLen; omega
      case c3 => omega
      case c4 => simp; omega
      intro v' w2 h1 h2 h3
      have Hs := hide (CEr.step Hr.out Hbk.out h1 h2 h3)
      clear h1 h2 h3
      go_wp2
      go_roundw
      case rel => exact ⟨k + 1, by omega, by go_num, Hs.out⟩
      case measure => simp [intOf]; omega
    · obtain rfl : k = N := by omega
      clear hr
      go_wp2
      go_ret
      have h1 := Hr.out.1
      unfold netsTo at h1
      rw [List.take_of_length_le (by rw [HL.out.len]; omega)] at h1
      obtain ⟨A', c', rfl, hRL⟩ := RL.of_own h1
      refine ⟨A', c', ?_, fun av hav => ?_, Hr.out.2.2.2⟩
      rotate_left
      · rw [List.length_map, HL.out.len]
        obtain ⟨A2, c2, e2, h2⟩ := RL.of_own_av h1 hav
        injection e2 with e3 _ e4
        subst e3 e4
        exact h2
      show Ending.returned (.slice A' k c') = _
      rw [List.length_map, HL.out.len]

theorem containsEach_any (A M L : Option Addr) (n c d N e : Nat) (xs ms : List UInt8) (bss : List (List UInt8)) (w : World) (ha : RB w no A n c xs) (hM : RB w no M n d ms) (hL : RBB w no L N e bss)
    (hn : n = 4 ∨ n = 16) (hm : mapd xs = false) (hall : ∀ b ∈ bss, b.length = n ∧ mapd b = false) (hN : N ≤ 140737488351232) :
    Calls Try.prog 13 #[.slice A n c, .slice M n d, .slice L N e] w (RetL w (bss.map (inNet xs ms))) :=
  (containsEach_new A M L n c d N e xs ms bss w ha hM hL hn hm hall hN).mono fun _ _ h => h.plain
end Go.Proofs.Ytknajppjgdhbfaa
