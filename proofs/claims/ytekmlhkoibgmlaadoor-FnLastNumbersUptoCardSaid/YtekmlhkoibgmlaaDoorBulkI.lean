/-
  A slice of ints that came in, opened under the bound of an '..UptoSaid'.
-/
import Derived.Test.YtekmlhkoibgmlaaDoorBulk
namespace Go.Proofs.YtekmlhkoibgmlaaDoor
open Go.ChangeShapes Go.WideShapes Go.ChangeAt Go.RowKit Go.Deep
section
variable {H : Type} {enc : TypeId × Value → H} {P : Program} {w : World}
theorem ints_row {a : Addr} {len cap : Nat} {zs : List Int} (hl : len ≤ cap) (hm : cap ≤ maxLen) (hz : zs.length = cap) (hc : ∀ i, i < zs.length → w.cell? (a.add i) = some (.int .i64 (zs.getD i 0))) :
    RI w no (some a) len cap (zs.take len) := by
  refine ⟨by rw [List.length_take]; omega, hl, hm, by rw [List.length_map, List.length_take]; omega, fun h0 => ?_⟩
  obtain ⟨b, off, spot⟩ := a
  have h1 := hc 0 (by omega)
  have hs : spot = none := by simpa [Addr.add] using World.cell?_spot h1
  subst hs
  have hlt : b < w.heap.size := by simpa [Addr.add] using World.block_lt_of_cell? w _ h1
  refine ⟨b, off, rfl, hlt, fun h => h, fun j u hu => ?_⟩
  have hj : j < len := by
    have := (List.getElem?_eq_some_iff.1 hu).1
    simp at this; omega
  have hjz : j < zs.length := by omega
  have h2 := hc j hjz
  have e : ((⟨b, off, none⟩ : Addr).add j) = ⟨b, off + j, none⟩ := by
    unfold Addr.add; split
    · rename_i h; subst h; rfl
    · rfl
  rw [e] at h2
  rw [h2]
  simp only [List.getElem?_map, List.getElem?_take, if_pos hj, List.getElem?_eq_getElem hjz, Option.map_some, Option.some.injEq] at hu
  rw [← hu]
  simp only [List.getD, List.getElem?_eq_getElem hjz, Option.getD_some]
theorem open_ints_small {T E : TypeId} (hT : P.underlying T = some (.slice E)) (hE : P.underlying E = some (.int .i64)) (hc : P.cellsOf E = 1) {a : Option Addr} {len cap : Nat} {d : DataW H} {p : List MemPlace}
    (h : DataW.Trod enc P w 0 (fun _ => true) true T (.slice a len cap) d p) (hk : Rows.uptoBulk d ≤ 1048576) : ∃ zs : List Int, RI w no a len cap zs ∧ cap ≤ 1048576 := by
  obtain ⟨fuel, hf⟩ := h
  rcases open_ints hT hE hc hf with ⟨hcs, _⟩ | ⟨x, l, c, zs, hcs, _, hl, hm, hz, hx, hcell, hwz⟩
  · simp [Value.cells] at hcs
    obtain ⟨rfl, rfl, rfl⟩ := hcs
    exact ⟨[], ⟨rfl, Nat.le_refl _, Nat.zero_le _, Rd.nil _⟩, Nat.zero_le _⟩
  · simp [Value.cells] at hcs
    obtain ⟨rfl, rfl, rfl⟩ := hcs
    simp only [if_true] at hz
    refine ⟨_, ints_row hl hm hz hcell, ?_⟩
    have hd : d = .slice (lits .i64 (zs.take len)) (lits .i64 (zs.drop len)) := by injection hx
    subst hd
    have := bulks.slice_le (lits (H := H) .i64 (zs.take len)) (lits .i64 (zs.drop len))
    simp only [lits, List.length_map, List.length_take, List.length_drop] at this
    simp only [lits] at hk
    omega
end
end Go.Proofs.YtekmlhkoibgmlaaDoor
