/-
  A block of the call's own that is known whole; 'make'. No program is named here.
-/
import Derived.Test.YtmfcgglgolajnaaDoorAppend
import Derived.Laws.MakeOwn
namespace Go.Proofs.YtmfcgglgolajnaaDoor
open Go.RowKit

/-- Block g is just the cells xs, none of them frozen. -/
def Blk (w : World) (g : Nat) (t : TypeId) (xs : List Value) : Prop := w.heap[g]? = some (.cells xs.toArray t (0, 0))

section
variable {w w' : World} {g : Nat} {t : TypeId} {xs : List Value} {av : Nat → Prop}
theorem Blk.lt (h : Blk w g t xs) : g < w.heap.size := block_lt h
theorem Blk.cell (h : Blk w g t xs) (i : Nat) : w.cell? ⟨g, i, none⟩ = xs[i]? := by rw [cell_of_row w g i _ t (0, 0) h]; simp
theorem Blk.frozen (h : Blk w g t xs) (i : Nat) : w.frozen? ⟨g, i, none⟩ = false := by
  unfold Blk at h
  simp [World.frozen?, h]
theorem Blk.new (w : World) (t : TypeId) (xs : List Value) : Blk (w.alloc (.cells xs.toArray t)) w.heap.size t xs := heap_alloc_new w _
theorem Blk.drew (h : Blk w g t xs) : Blk w.drew g t xs := h
theorem Blk.drewN (h : Blk w g t xs) (n : Nat) : Blk (w.drewN n) g t xs := h
theorem Blk.alloc (h : Blk w g t xs) (o : Obj) : Blk (w.alloc o) g t xs := (Below.heap_alloc w o g h.lt).trans h
theorem Blk.set_ (h : Blk w g t xs) (i : Nat) (u : Value) : Blk (w.setCell ⟨g, i, none⟩ u) g t (xs.set i u) := by
  unfold Blk at h ⊢
  simp [World.setCell, Array.getElem?_modify, h]
theorem Blk.far (h : Blk w g t xs) {p : Addr} (hp : g ≠ p.block) (u : Value) : Blk (w.setCell p u) g t xs := (Below.heap_setCell w p u g hp).trans h
theorem Blk.below (h : Blk w g t xs) (hb : Below w.heap.size w w') : Blk w' g t xs := (hb.block g h.lt).trans h
theorem Blk.keep (h : Blk w g t xs) (hk : Kept av w w') (hg : ¬ av g) : Blk w' g t xs := (hk.2 g h.lt hg).trans h
theorem Blk.rd (h : Blk w g t xs) (hg : ¬ av g) : Rd w av (some ⟨g, 0, none⟩) xs.length xs :=
  ⟨rfl, fun _ => ⟨g, 0, rfl, h.lt, hg, fun j u hu => by rw [Nat.zero_add, h.cell, hu]⟩⟩
end

theorem Blk.rb {w : World} {g n c : Nat} {t : TypeId} {bs : List UInt8} {av : Nat → Prop} (h : Blk w g t (bs.map fun b => .int .u8 (b.toNat : Int))) (hg : ¬ av g) (hn : bs.length = n) (hc : n ≤ c) (hm : c ≤ maxLen) : RB w av (some ⟨g, 0, none⟩) n c bs :=
  ⟨hn, hc, hm, by have := h.rd (av := av) hg; rw [List.length_map, hn] at this; exact this⟩
theorem Blk.rl {w : World} {g n c : Nat} {t : TypeId} {ys : List Bool} {av : Nat → Prop} (h : Blk w g t (ys.map Value.bool)) (hg : ¬ av g) (hn : ys.length = n) (hc : n ≤ c) (hm : c ≤ maxLen) : RL w av (some ⟨g, 0, none⟩) n c ys :=
  ⟨hn, hc, hm, by have := h.rd (av := av) hg; rw [List.length_map, hn] at this; exact this⟩
theorem Blk.ri {w : World} {g n c : Nat} {t : TypeId} {zs : List Int} {av : Nat → Prop} (h : Blk w g t (zs.map (Value.int .i64))) (hg : ¬ av g) (hn : zs.length = n) (hc : n ≤ c) (hm : c ≤ maxLen) : RI w av (some ⟨g, 0, none⟩) n c zs :=
  ⟨hn, hc, hm, by have := h.rd (av := av) hg; rw [List.length_map, hn] at this; exact this⟩

/-- n times the same. -/
def timesOf (n : Nat) (z : Value) : List Value := List.replicate n z

theorem run_make1 {P : Program} (t e : TypeId) (i : TypeInfo) (z : Value) (ht : P.underlying t = some (.slice e)) (hi : P.info? e = some i) (hz : i.zero = some z) (hs : i.size = 1) (hzc : z.cells = #[z])
    (n : Nat) (hbytes : i.bytes * n ≤ 281474976710656) (h63 : n ≤ 9223372036854775807) (w : World) :
    (Instr.makeSlice t (.int .i64 (n : Int)) (.int .i64 (n : Int))).run P w = .ok (.slice (some ⟨w.heap.size, 0, none⟩) n n) (w.alloc (.cells (timesOf n z).toArray e)) := by
  have hb : (i.bytes : Int) * (n : Int) ≤ 281474976710656 := by
    have h : ((i.bytes * n : Nat) : Int) ≤ 281474976710656 := by omega
    rwa [Int.natCast_mul] at h
  have hr := run_make (P := P) w t e i z ht hi hz .i64 .i64 n n (by omega) (by omega) hb (by omega)
  simp only [Int.toNat_natCast, hs, Nat.mul_one, hzc] at hr
  have e1 : madeCells #[z] n = (timesOf n z).toArray := by
    apply Array.toList_inj.1
    rw [toList_madeCells_one]
    rfl
  rw [e1] at hr
  exact hr
end Go.Proofs.YtmfcgglgolajnaaDoor
