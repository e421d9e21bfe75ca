/-
  What the bound of an '..UptoSaid' gives: arguments opened under it.
-/
import Derived.Test.YtekmlhkoibgmlaaDoorRows
import Derived.Test.YtekmlhkoibgmlaaDoorMA
namespace Go.Proofs.YtekmlhkoibgmlaaDoor
open Go.ChangeShapes Go.WideShapes Go.ChangeAt Go.RowKit Go.Deep

namespace bulks
theorem one_le {H : Type} (d : DataW H) : 1 ≤ Rows.uptoBulk d := by
  cases d with
  | lit l => cases l <;> simp [Rows.uptoBulk]
  | nil => simp [Rows.uptoBulk]
  | ptr d => simp [Rows.uptoBulk]
  | slice elems spare => simp [Rows.uptoBulk]
  | agg parts => simp [Rows.uptoBulk]
  | iface t d => simp [Rows.uptoBulk]
  | map entries => simp [Rows.uptoBulk]
  | held h => simp [Rows.uptoBulk]
theorem part_le {H : Type} {d : DataW H} {l : List (DataW H)} (h : d ∈ l) : Rows.uptoBulk d ≤ Rows.uptoBulkAll l := by
  induction l with
  | nil => cases h
  | cons x r ih =>
    simp only [Rows.uptoBulkAll]
    cases List.mem_cons.1 h with
    | inl e => subst e; omega
    | inr e => have := ih e; omega
theorem length_le {H : Type} (l : List (DataW H)) : l.length ≤ Rows.uptoBulkAll l := by
  induction l with
  | nil => simp [Rows.uptoBulkAll]
  | cons x r ih => have := one_le x; simp only [Rows.uptoBulkAll, List.length_cons]; omega
theorem slice_le {H : Type} (elems spare : List (DataW H)) : elems.length + spare.length + 1 ≤ Rows.uptoBulk (.slice elems spare) := by
  have h1 := length_le elems
  have h2 := length_le spare
  simp only [Rows.uptoBulk]
  omega
theorem slice_elems {H : Type} (elems spare : List (DataW H)) : Rows.uptoBulkAll elems + 1 ≤ Rows.uptoBulk (.slice elems spare) := by
  simp only [Rows.uptoBulk]
  omega
theorem bound {H : Type} {l : List (DataW H)} (hk : Rows.uptoSmall H l = true) : Rows.uptoBulkAll l ≤ 1048576 := of_decide_eq_true hk
/-- A sum over places. -/
theorem sum_le {H : Type} (f : Nat → DataW H) (g : Nat → Nat) (n : Nat) (h : ∀ r, r < n → g r ≤ Rows.uptoBulk (f r)) : ((List.range n).map g).sum ≤ Rows.uptoBulkAll ((List.range n).map f) := by
  have key : ∀ l : List Nat, (∀ r ∈ l, r < n) → (l.map g).sum ≤ Rows.uptoBulkAll (l.map f) := by
    intro l
    induction l with
    | nil => intro _; simp [Rows.uptoBulkAll]
    | cons x r ih =>
      intro hl
      have h1 := ih fun y hy => hl y (List.mem_cons_of_mem _ hy)
      have h2 := h x (hl x List.mem_cons_self)
      simp only [List.map_cons, List.sum_cons, Rows.uptoBulkAll]
      omega
  exact key _ fun r hr => List.mem_range.1 hr
end bulks

section
variable {H : Type} {enc : TypeId × Value → H} {P : Program} {w : World}

theorem open_bytes_small {T E : TypeId} (hT : P.underlying T = some (.slice E)) (hE : P.underlying E = some (.int .u8)) (hc : P.cellsOf E = 1) {a : Option Addr} {len cap : Nat} {d : DataW H} {p : List MemPlace}
    (h : DataW.Trod enc P w 0 (fun _ => true) true T (.slice a len cap) d p) (hk : Rows.uptoBulk d ≤ 1048576) : ∃ bs : List UInt8, RB w no a len cap bs ∧ cap ≤ 1048576 := by
  obtain ⟨fuel, hf⟩ := h
  rcases open_ints hT hE hc hf with ⟨hcs, _⟩ | ⟨x, l, c, zs, hcs, _, hl, hm, hz, hx, hcell, hwz⟩
  · simp [Value.cells] at hcs
    obtain ⟨rfl, rfl, rfl⟩ := hcs
    exact ⟨[], RB.nil, Nat.zero_le _⟩
  · simp [Value.cells] at hcs
    obtain ⟨rfl, rfl, rfl⟩ := hcs
    simp only [if_true] at hz
    refine ⟨_, bytes_row hl hm hz hcell hwz, ?_⟩
    have hd : d = .slice (lits .u8 (zs.take len)) (lits .u8 (zs.drop len)) := by injection hx
    subst hd
    have := bulks.slice_le (lits (H := H) .u8 (zs.take len)) (lits .u8 (zs.drop len))
    simp only [lits, List.length_map, List.length_take, List.length_drop] at this
    simp only [lits] at hk
    omega

theorem open_rows_small {T E Q : TypeId} (hT : P.underlying T = some (.slice E)) (hE : P.underlying E = some (.slice Q)) (hQ : P.underlying Q = some (.int .u8)) (ce : P.cellsOf E = 1) (cq : P.cellsOf Q = 1) {a : Option Addr} {len cap : Nat} {d : DataW H} {p : List MemPlace}
    (h : DataW.Trod enc P w 0 (fun _ => true) true T (.slice a len cap) d p) (hk : Rows.uptoBulk d ≤ 1048576) :
    ∃ bss : List (List UInt8), RBB w no a len cap bss ∧ cap ≤ 1048576 ∧ (bss.map List.length).sum ≤ 1048576 := by
  obtain ⟨fuel, hf⟩ := h
  rcases open_int_rows hT hE hQ ce cq hf with ⟨hcs, _⟩ | ⟨x, l, c, A, L, C, Z, hcs, _, hl, hm, hx, hrow⟩
  · simp [Value.cells] at hcs
    obtain ⟨rfl, rfl, rfl⟩ := hcs
    exact ⟨[], RBB.nil, Nat.zero_le _, by simp⟩
  · simp [Value.cells] at hcs
    obtain ⟨rfl, rfl, rfl⟩ := hcs
    have hd : d = .slice ((List.range len).map fun r => intRow .u8 (A r) (L r) (Z r)) ((List.range (cap - len)).map fun j => intRow .u8 (A (len + j)) (L (len + j)) (Z (len + j))) := by injection hx
    subst hd
    refine ⟨_, rows_of hl hm hrow, ?_, ?_⟩
    · have := bulks.slice_le ((List.range len).map fun r => intRow (H := H) .u8 (A r) (L r) (Z r)) ((List.range (cap - len)).map fun j => intRow .u8 (A (len + j)) (L (len + j)) (Z (len + j)))
      simp only [List.length_map, List.length_range] at this
      omega
    · have h1 := bulks.slice_elems ((List.range len).map fun r => intRow (H := H) .u8 (A r) (L r) (Z r)) ((List.range (cap - len)).map fun j => intRow .u8 (A (len + j)) (L (len + j)) (Z (len + j)))
      have h2 := bulks.sum_le (fun r => intRow (H := H) .u8 (A r) (L r) (Z r)) (fun r => (((Z r).take (L r)).map fun z => UInt8.ofNat z.toNat).length) len (by
        intro r hr
        obtain ⟨_, q1, q2, q3, q4, q5, q6⟩ := hrow r (by omega)
        simp only [List.length_map, List.length_take]
        cases hA : A r with
        | none =>
          have hC := q5 hA
          omega
        | some a' =>
          have := bulks.slice_le (lits (H := H) .u8 ((Z r).take (L r))) (lits .u8 ((Z r).drop (L r)))
          simp only [lits, List.length_map, List.length_take, List.length_drop] at this
          simp only [intRow, lits]
          omega)
      rw [List.map_map]
      refine Nat.le_trans h2 ?_
      omega
theorem mem_sum_le {bss : List (List UInt8)} {b : List UInt8} (h : b ∈ bss) : b.length ≤ (bss.map List.length).sum := by
  induction bss with
  | nil => cases h
  | cons x r ih =>
    simp only [List.map_cons, List.sum_cons]
    rcases List.mem_cons.1 h with rfl | h
    · omega
    · have := ih h; omega
end
end Go.Proofs.YtekmlhkoibgmlaaDoor
