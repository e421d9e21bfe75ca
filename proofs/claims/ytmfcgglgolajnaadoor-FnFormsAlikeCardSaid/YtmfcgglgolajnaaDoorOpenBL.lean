/-
  A slice of Booleans that came in, opened.
-/
import Derived.Test.YtmfcgglgolajnaaDoorMA
import Derived.Lib.LaidTab
import Derived.Deep.Grids
import Derived.Lay
import Derived.SevenTiedAt
namespace Go.Proofs.YtmfcgglgolajnaaDoor
open Go.ChangeShapes Go.WideShapes Go.ChangeAt Go.RowKit Go.Deep
set_option linter.unusedVariables false

theorem open_boolsL {H : Type} {enc : TypeId × Value → H} {P : Program} {w : World} {T E : TypeId} (hT : P.underlying T = some (.slice E)) (hE : P.underlying E = some .bool) (hc : P.cellsOf E = 1) (hby : P.bytesOf E = 1) {a : Option Addr} {len cap : Nat} {d : DataW H} {p : List MemPlace}
    (h : DataW.Trod enc P w 0 (fun _ => true) true T (.slice a len cap) d p) (hwt : ∀ n ∈ d.weights P T, n ≤ reachBytes) : ∃ bs : List Bool, RL w no a len cap bs ∧ cap ≤ 140737488351232 := by
  obtain ⟨fuel, hf⟩ := h
  rcases open_bools hT hE hc hf with ⟨hcs, _⟩ | ⟨x, l, c, B, hcs, _, hl, hm, hx, hcell⟩
  · simp [Value.cells] at hcs
    obtain ⟨rfl, rfl, rfl⟩ := hcs
    exact ⟨[], ⟨rfl, Nat.le_refl _, Nat.zero_le _, Rd.nil _⟩, Nat.zero_le _⟩
  · simp [Value.cells] at hcs
    obtain ⟨rfl, rfl, rfl⟩ := hcs
    refine ⟨(List.range len).map B, ⟨by simp, hl, hm, by simp, fun h0 => ?_⟩, ?_⟩
    · obtain ⟨b, off, spot⟩ := x
      have h1 := hcell 0 (by omega)
      have hs : spot = none := by simpa [Addr.add] using World.cell?_spot h1
      subst hs
      have hlt : b < w.heap.size := by simpa [Addr.add] using World.block_lt_of_cell? w _ h1
      refine ⟨b, off, rfl, hlt, fun h => h, fun j u hu => ?_⟩
      have hj : j < len := by
        have := (List.getElem?_eq_some_iff.1 hu).1
        simpa using this
      have h2 := hcell j (by omega)
      have e : ((⟨b, off, none⟩ : Addr).add j) = ⟨b, off + j, none⟩ := by
        unfold Addr.add; split
        · rename_i h; subst h; rfl
        · rfl
      rw [e] at h2
      rw [h2]
      simpa [List.getElem?_map, List.getElem?_range hj] using hu
    · have hd : d = boolRow (some x) len cap B := by injection hx
      subst hd
      have := hwt (cap * P.bytesOf E) (by unfold boolRow; simp [DataW.weights, hT]; left; rw [show len + (cap - len) = cap by omega])
      rw [hby] at this
      simp only [reachBytes] at this
      omega
end Go.Proofs.YtmfcgglgolajnaaDoor
