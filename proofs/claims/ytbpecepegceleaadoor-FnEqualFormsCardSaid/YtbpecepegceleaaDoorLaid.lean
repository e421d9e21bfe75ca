/-
  What the row's list gives: the variable holds the prefix. A slice of Booleans that came in, opened.
-/
import Derived.Test.YtbpecepegceleaaDoorPre
import Derived.Test.YtbpecepegceleaaDoorOpen
import Derived.Test.YtbpecepegceleaaDoorRows
import Derived.Lib.LaidTab
import Derived.Deep.Grids
import Derived.Lay
import Derived.SevenTiedAt
namespace Go.Proofs.YtbpecepegceleaaDoor
open Go.ChangeShapes Go.WideShapes Go.ChangeAt Go.RowKit Go.Deep
set_option linter.unusedVariables false

theorem preIs_of {W : World} (h : laidMetH Tryd.prog [("net.v4InV6Prefix", Rows.laid_net_v4InV6Prefix)] W) : PreIs W := by
  rw [MakeChecks.laidMetH_plain _ _ _ (by kernel_rfl)] at h
  obtain ⟨ps, ⟨g, t, cs, fuel, p, q, hg, ht, hv, hd, _, _⟩, _, _⟩ := h
  obtain rfl := Option.some.inj ((show Tryd.prog.globalNamed "net.v4InV6Prefix" = some 0 by kernel_rfl).symm.trans hg)
  obtain rfl := Option.some.inj ((show (Tryd.prog.globals[0]?).map (·.type) = some 22 by kernel_rfl).symm.trans ht)
  rcases open_ints Tryd.underlying22 Tryd.underlying5 (by kernel_rfl) hd with ⟨hcs, hx⟩ | ⟨x, l, c, zs, hcs, hB, hl, hm, hz, hx, hcell, hwz⟩
  · injection hx with hx _
    cases hx
  · have hcell0 := World.var?_cell hg hv 0
    injection hx with hx _
    unfold Rows.laid_net_v4InV6Prefix lits at hx
    injection hx with hx1 hx2
    have hinj : ∀ a b : Int, (DataW.lit (.int .u8 a) : DataW Unit) = .lit (.int .u8 b) → a = b := fun a b e => by injection e with e; injection e
    have ht : zs.take l = [0, 0, 0, 0, 0, 0, 0, 0, 0, 0, 255, 255] := by
      refine (List.map_inj_right (f := fun z : Int => (DataW.lit (.int .u8 z) : DataW Unit)) (fun {a b} e => hinj a b e)).1 ?_
      exact hx1.symm
    have hd0 : zs.drop l = [] := List.map_eq_nil_iff.1 hx2.symm
    have hle : zs.length ≤ l := by simpa using hd0
    have hll : zs.length = l := by
      have : l ≤ zs.length := by rw [hz]; split <;> omega
      omega
    have hl12 : l = 12 := by have h := congrArg List.length ht; rw [List.length_take, hll] at h; simp at h; omega
    subst hl12
    have hrb := bytes_row (w := W) (a := x) (len := 12) (cap := 12) (zs := zs) (Nat.le_refl _) (by unfold maxLen; omega) hll hcell hwz
    rw [ht] at hrb
    refine ⟨some x, c, ?_, hrb.1, hl, hm, hrb.2.2.2⟩
    rw [hcell0]
    obtain ⟨cs⟩ := cs
    simp at hcs
    subst hcs
    rfl

theorem open_boolsL {H : Type} {enc : TypeId × Value → H} {P : Program} {w : World} {T E : TypeId} (hT : P.underlying T = some (.slice E)) (hE : P.underlying E = some .bool) (hc : P.cellsOf E = 1) (hby : P.bytesOf E = 1) {a : Option Addr} {len cap : Nat} {d : DataW H} {p : List MemPlace}
    (h : DataW.Trod enc P w 0 (fun _ => true) true T (.slice a len cap) d p) (hwt : ∀ n ∈ d.weights P T, n ≤ reachBytes) : ∃ bs : List Bool, RL w no a len cap bs ∧ cap ≤ 140737488351232 := by
  obtain ⟨fuel, hf⟩ := h
  rcases open_bools hT hE hc hf with ⟨hcs, _⟩ | ⟨x, l, c, B, hcs, _, hl, hm, hx, hcell⟩
  · simp [Value.cells] at hcs
    obtain ⟨rfl, rfl, rfl⟩ := hcs
    exact ⟨[], ⟨rfl, Nat.le_refl _, Nat.zero_le _, Rd.nil _⟩, Nat.zero_le _⟩
  · simp [Value.cells] at hcs
    obtain ⟨rfl, rfl, rfl⟩ := hcs
    refine ⟨(List.range len).map B, ⟨by simp, hl, hm, by simp, fun h0 => ?_⟩, ?_⟩
    · obtain ⟨b, off, spot⟩ := x
      have h1 := hcell 0 (by omega)
      have hs : spot = none := by simpa [Addr.add] using World.cell?_spot h1
      subst hs
      have hlt : b < w.heap.size := by simpa [Addr.add] using World.block_lt_of_cell? w _ h1
      refine ⟨b, off, rfl, hlt, fun h => h, fun j u hu => ?_⟩
      have hj : j < len := by
        have := (List.getElem?_eq_some_iff.1 hu).1
        simpa using this
      have h2 := hcell j (by omega)
      have e : ((⟨b, off, none⟩ : Addr).add j) = ⟨b, off + j, none⟩ := by
        unfold Addr.add; split
        · rename_i h; subst h; rfl
        · rfl
      rw [e] at h2
      rw [h2]
      simpa [List.getElem?_map, List.getElem?_range hj] using hu
    · have hd : d = boolRow (some x) len cap B := by injection hx
      subst hd
      have := hwt (cap * P.bytesOf E) (by unfold boolRow; simp [DataW.weights, hT]; left; rw [show len + (cap - len) = cap by omega])
      rw [hby] at this
      simp only [reachBytes] at this
      omega
end Go.Proofs.YtbpecepegceleaaDoor
