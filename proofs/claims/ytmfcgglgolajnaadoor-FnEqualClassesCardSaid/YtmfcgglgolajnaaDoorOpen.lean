/-
  Arguments that came in, opened: slices of bytes, slices of slices of bytes. No program is named here.
-/
import Derived.Test.YtmfcgglgolajnaaDoorWords
import Derived.OpenShut
import Derived.SizedLaws
import Derived.Deep.Matrix
import Derived.ShutString
import Derived.ChangeOld
namespace Go.Proofs.YtmfcgglgolajnaaDoor
open Go.ChangeShapes Go.WideShapes Go.ChangeAt Go.RowKit Go.Deep

section
variable {H : Type} {enc : TypeId × Value → H} {P : Program} {w : World}

theorem weights_of {ts : List TypeId} {ds : List (DataW H)} (h : (DataW.weightsEach P ts ds).all (· ≤ reachBytes) = true) {j : Nat} {t : TypeId} {d : DataW H} (ht : ts[j]? = some t) (hd : ds[j]? = some d) : ∀ n ∈ d.weights P t, n ≤ reachBytes := by
  intro n hn
  have := List.all_eq_true.1 h _ (DataW.weights_mem_each ht hd n hn)
  simpa using this

/-- A row of numbers that fit a byte. -/
theorem bytes_row {a : Addr} {len cap : Nat} {zs : List Int} (hl : len ≤ cap) (hm : cap ≤ maxLen) (hz : zs.length = cap) (hc : ∀ i, i < zs.length → w.cell? (a.add i) = some (.int .u8 (zs.getD i 0))) (hw : ∀ n ∈ zs, (Lit.int .u8 n).wf = true) :
    RB w no (some a) len cap ((zs.take len).map fun z => UInt8.ofNat z.toNat) := by
  refine ⟨by rw [List.length_map, List.length_take]; omega, hl, hm, by rw [List.length_map, List.length_map, List.length_take]; omega, fun h0 => ?_⟩
  obtain ⟨b, off, spot⟩ := a
  have h1 := hc 0 (by omega)
  have hs : spot = none := by simpa [Addr.add] using World.cell?_spot h1
  subst hs
  have hlt : b < w.heap.size := by simpa [Addr.add] using World.block_lt_of_cell? w _ h1
  refine ⟨b, off, rfl, hlt, fun h => h, fun j u hu => ?_⟩
  have hj : j < len := by
    have := (List.getElem?_eq_some_iff.1 hu).1
    simp at this; omega
  have hjz : j < zs.length := by omega
  have h2 := hc j hjz
  have e : ((⟨b, off, none⟩ : Addr).add j) = ⟨b, off + j, none⟩ := by
    unfold Addr.add; split
    · rename_i h; subst h; rfl
    · rfl
  rw [e] at h2
  rw [h2]
  simp only [List.getElem?_map, List.getElem?_take, if_pos hj, List.getElem?_eq_getElem hjz, Option.map_some, Option.some.injEq] at hu
  rw [← hu]
  have hb := bounds_u8 (hw zs[j] (List.getElem_mem hjz))
  simp only [List.getD, List.getElem?_eq_getElem hjz, Option.getD_some, UInt8.toNat_ofNat']
  congr 2
  omega

theorem open_bytes {T E : TypeId} (hT : P.underlying T = some (.slice E)) (hE : P.underlying E = some (.int .u8)) (hc : P.cellsOf E = 1) (hby : P.bytesOf E = 1) {a : Option Addr} {len cap : Nat} {d : DataW H} {p : List MemPlace}
    (h : DataW.Trod enc P w 0 (fun _ => true) true T (.slice a len cap) d p) (hwt : ∀ n ∈ d.weights P T, n ≤ reachBytes) : ∃ bs : List UInt8, RB w no a len cap bs ∧ cap ≤ 140737488351232 := by
  obtain ⟨fuel, hf⟩ := h
  rcases open_ints hT hE hc hf with ⟨hcs, _⟩ | ⟨x, l, c, zs, hcs, _, hl, hm, hz, hx, hcell, hwz⟩
  · simp [Value.cells] at hcs
    obtain ⟨rfl, rfl, rfl⟩ := hcs
    exact ⟨[], RB.nil, Nat.zero_le _⟩
  · simp [Value.cells] at hcs
    obtain ⟨rfl, rfl, rfl⟩ := hcs
    simp only [if_true] at hz
    refine ⟨_, bytes_row hl hm hz hcell hwz, ?_⟩
    have hd : d = .slice (lits .u8 (zs.take len)) (lits .u8 (zs.drop len)) := by injection hx
    subst hd
    have := hwt ((lits (H := H) .u8 (zs.take len)).length + (lits (H := H) .u8 (zs.drop len)).length |> (· * P.bytesOf E)) (by simp [DataW.weights, hT])
    rw [hby] at this
    simp only [lits, List.length_map, List.length_take, List.length_drop, reachBytes] at this
    omega

theorem mem_weightsAll {e : TypeId} {d : DataW H} {n : Nat} : ∀ {l : List (DataW H)}, d ∈ l → n ∈ d.weights P e → n ∈ DataW.weightsAll P e l
  | x :: r, hd, hn => by
    simp only [DataW.weightsAll, List.mem_append]
    rcases List.mem_cons.1 hd with rfl | hd
    · exact Or.inl hn
    · exact Or.inr (mem_weightsAll hd hn)

/-- The rows that 'open_int_rows' gives, as slices of bytes. -/
theorem rows_of {x : Addr} {len cap : Nat} {A : Nat → Option Addr} {L C : Nat → Nat} {Z : Nat → List Int} (hl : len ≤ cap) (hm : cap ≤ maxLen)
    (hrow : ∀ r, r < cap → w.cell? (x.add r) = some (.slice (A r) (L r) (C r)) ∧ L r ≤ C r ∧ C r ≤ maxLen ∧ (Z r).length = C r ∧ (∀ n ∈ Z r, (Lit.int .u8 n).wf = true) ∧ (A r = none → C r = 0) ∧
        ∀ a', A r = some a' → 0 ≤ a'.block ∧ ∀ c, c < C r → w.cell? (a'.add c) = some (.int .u8 ((Z r).getD c 0))) :
    RBB w no (some x) len cap ((List.range len).map fun r => ((Z r).take (L r)).map fun z => UInt8.ofNat z.toNat) := by
  have each : ∀ r, r < cap → RB w no (A r) (L r) (C r) (((Z r).take (L r)).map fun z => UInt8.ofNat z.toNat) := by
    intro r hr
    obtain ⟨_, h1, h2, h3, h4, h5, h6⟩ := hrow r hr
    cases hA : A r with
    | none =>
      have hC := h5 hA
      have hL : L r = 0 := by omega
      rw [hL, hC]
      exact RB.nil
    | some a' => exact bytes_row h1 h2 h3 (fun i hi => (h6 a' hA).2 i (by omega)) h4
  refine ⟨by simp, hl, hm, (List.range len).map fun r => .slice (A r) (L r) (C r), ⟨by simp, fun h0 => ?_⟩, by simp, fun j bs hj => ?_⟩
  · obtain ⟨b, off, spot⟩ := x
    have h1 := (hrow 0 (by omega)).1
    have hs : spot = none := by simpa [Addr.add] using World.cell?_spot h1
    subst hs
    have hlt : b < w.heap.size := by simpa [Addr.add] using World.block_lt_of_cell? w _ h1
    refine ⟨b, off, rfl, hlt, fun h => h, fun j u hu => ?_⟩
    have hj : j < len := by
      have := (List.getElem?_eq_some_iff.1 hu).1
      simpa using this
    have h2 := (hrow j (by omega)).1
    have e : ((⟨b, off, none⟩ : Addr).add j) = ⟨b, off + j, none⟩ := by
      unfold Addr.add; split
      · rename_i h; subst h; rfl
      · rfl
    rw [e] at h2
    rw [h2]
    simpa [List.getElem?_map, List.getElem?_range hj] using hu
  · have hj' : j < len := by
      have := (List.getElem?_eq_some_iff.1 hj).1
      simpa using this
    simp only [List.getElem?_map, List.getElem?_range hj', Option.map_some, Option.some.injEq] at hj ⊢
    subst hj
    exact ⟨_, _, _, rfl, each j (by omega)⟩

theorem open_rows {T E Q : TypeId} (hT : P.underlying T = some (.slice E)) (hE : P.underlying E = some (.slice Q)) (hQ : P.underlying Q = some (.int .u8)) (ce : P.cellsOf E = 1) (cq : P.cellsOf Q = 1) (hby : P.bytesOf E = 24) (hbq : P.bytesOf Q = 1) {a : Option Addr} {len cap : Nat} {d : DataW H} {p : List MemPlace}
    (h : DataW.Trod enc P w 0 (fun _ => true) true T (.slice a len cap) d p) (hwt : ∀ n ∈ d.weights P T, n ≤ reachBytes) :
    ∃ bss : List (List UInt8), RBB w no a len cap bss ∧ cap * 24 ≤ 140737488351232 ∧ ∀ b ∈ bss, b.length ≤ 140737488351232 := by
  obtain ⟨fuel, hf⟩ := h
  rcases open_int_rows hT hE hQ ce cq hf with ⟨hcs, _⟩ | ⟨x, l, c, A, L, C, Z, hcs, _, hl, hm, hx, hrow⟩
  · simp [Value.cells] at hcs
    obtain ⟨rfl, rfl, rfl⟩ := hcs
    exact ⟨[], RBB.nil, Nat.zero_le _, fun b hb => by simp at hb⟩
  · simp [Value.cells] at hcs
    obtain ⟨rfl, rfl, rfl⟩ := hcs
    have hd : d = .slice ((List.range len).map fun r => intRow .u8 (A r) (L r) (Z r)) ((List.range (cap - len)).map fun j => intRow .u8 (A (len + j)) (L (len + j)) (Z (len + j))) := by injection hx
    subst hd
    refine ⟨_, rows_of hl hm hrow, ?_, fun b hb => ?_⟩
    · have := hwt _ (by simp only [DataW.weights, hT]; exact List.mem_cons_self)
      rw [hby] at this
      simp only [List.length_map, List.length_range, reachBytes] at this
      omega
    · obtain ⟨r, hr, rfl⟩ := List.mem_map.1 hb
      have hr' : r < len := by simpa using hr
      obtain ⟨_, h1, h2, h3, h4, h5, h6⟩ := hrow r (by omega)
      cases hA : A r with
      | none =>
        have hC := h5 hA
        simp only [List.length_map, List.length_take]
        omega
      | some a' =>
        have := hwt (((lits (H := H) .u8 ((Z r).take (L r))).length + (lits (H := H) .u8 ((Z r).drop (L r))).length) * P.bytesOf Q) (by
          simp only [DataW.weights, hT]
          refine List.mem_cons_of_mem _ (List.mem_append_left _ (mem_weightsAll (List.mem_map.2 ⟨r, hr, rfl⟩) ?_))
          simp [intRow, hA, DataW.weights, hE])
        rw [hbq] at this
        simp only [lits, List.length_map, List.length_take, List.length_drop, reachBytes] at this
        simp only [List.length_map, List.length_take]
        omega
end
end Go.Proofs.YtmfcgglgolajnaaDoor
