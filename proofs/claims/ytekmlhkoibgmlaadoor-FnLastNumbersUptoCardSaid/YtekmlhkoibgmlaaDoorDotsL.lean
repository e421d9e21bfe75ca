/-
  Dotted decimal with another last number, or with zeros ahead of one of its numbers. No program is named here.
-/
import Derived.Test.YtekmlhkoibgmlaaDoorPEach
import Derived.Test.YtekmlhkoibgmlaaDoorPlace
namespace Go.Proofs.YtekmlhkoibgmlaaDoor

theorem v4go_step {n : Nat} (hn : n ≤ 255) {r done : List UInt8} (hr : r ≠ []) (hd : done.length ≠ 3) : v4go (decL n ++ (46 :: r)) 0 0 done = v4go r 0 0 (done ++ [UInt8.ofNat n]) := by
  have hl : (decL n).length ≠ 0 := fun h => decL_ne n (List.eq_nil_of_length_eq_zero h)
  rw [v4go_dec, if_pos hn, v4go, if_neg (by rw [dot_notdig]; simp), if_pos rfl, if_neg (by
    intro h
    rcases h with h | h
    · exact hl h
    · exact hr h), if_neg hd]
theorem scan_dec (n : Nat) (r : List UInt8) : scanL (decL n ++ (46 :: r)) = some 46 := by rw [scan_digs (decL_digs n), scan_dot]
theorem zeros_digs (m n : Nat) : ∀ c ∈ zerosAhead m n, isDig c = true := by
  intro c hc
  unfold zerosAhead at hc
  rcases List.mem_append.1 hc with h | h
  · rw [List.eq_of_mem_replicate h]; decide
  · exact decL_digs n c h
theorem zeros_ne (m n : Nat) : zerosAhead m n ≠ [] := by unfold zerosAhead; simp [decL_ne]

theorem dots4_eq (x y z : UInt8) (last : List UInt8) : dots4 x y z last = decL x.toNat ++ (46 :: (decL y.toNat ++ (46 :: (decL z.toNat ++ (46 :: last))))) := by
  unfold dots4; simp [List.append_assoc]
theorem scan_dots4 (x y z : UInt8) (last : List UInt8) : scanL (dots4 x y z last) = some 46 := by rw [dots4_eq, scan_dec]
theorem v4go_dots4 (x y z : UInt8) {last : List UInt8} (hl : last ≠ []) : v4go (dots4 x y z last) 0 0 [] = v4go last 0 0 [x, y, z] := by
  have hx := x.toNat_lt
  have hy := y.toNat_lt
  have hz := z.toNat_lt
  rw [dots4_eq, v4go_step (by omega) (by simp) (by simp), v4go_step (by omega) (by simp) (by simp), v4go_step (by omega) hl (by simp)]
  simp
theorem read_dots4 (x y z : UInt8) (n : Nat) : readB (dots4 x y z (decL n)) = if n ≤ 255 then pre12 ++ [x, y, z, UInt8.ofNat n] else [] := by
  unfold readB read4
  rw [scan_dots4, if_pos rfl, v4go_dots4 x y z (decL_ne n)]
  have := v4go_dec n [] [x, y, z]
  rw [List.append_nil] at this
  rw [this]
  by_cases h : n ≤ 255
  · rw [if_pos h, if_pos h, v4go]; rfl
  · rw [if_neg h, if_neg h]; rfl

/-- The k-th number, with m zeros ahead of that at 'at'. -/
def zaT (at_ m : Nat) (bs : List UInt8) (k : Nat) : List UInt8 := if k = at_ then zerosAhead m (bs.getD k 0).toNat else decL (bs.getD k 0).toNat
def zaL (at_ m : Nat) (bs : List UInt8) (k : Nat) : List (List UInt8) := (List.range k).map (zaT at_ m bs)
theorem zaL_snoc (at_ m : Nat) (bs : List UInt8) (k : Nat) : zaL at_ m bs (k + 1) = zaL at_ m bs k ++ [zaT at_ m bs k] := by unfold zaL; rw [List.range_succ]; simp
theorem zaT_digs (at_ m : Nat) (bs : List UInt8) (k : Nat) : ∀ c ∈ zaT at_ m bs k, isDig c = true := by
  unfold zaT; split
  · exact zeros_digs _ _
  · exact decL_digs _
theorem zaT_ne (at_ m : Nat) (bs : List UInt8) (k : Nat) : zaT at_ m bs k ≠ [] := by
  unfold zaT; split
  · exact zeros_ne _ _
  · exact decL_ne _
theorem zaT_len {at_ m : Nat} (hm : m ≤ 21) (bs : List UInt8) (k : Nat) : (zaT at_ m bs k).length ≤ 24 := by
  have := decL_short3 (bs.getD k 0)
  unfold zaT; split
  · unfold zerosAhead; simp only [List.length_append, List.length_replicate]; omega
  · omega
theorem read_zeros {at_ m : Nat} (ha : at_ ≤ 3) (hm : 0 < m) (bs : List UInt8) : readB (joinL [46] (zaL at_ m bs 4)) = [] := by
  have e : joinL [46] (zaL at_ m bs 4) = zaT at_ m bs 0 ++ (46 :: (zaT at_ m bs 1 ++ (46 :: (zaT at_ m bs 2 ++ (46 :: zaT at_ m bs 3))))) := by
    show joinL [46] [zaT at_ m bs 0, zaT at_ m bs 1, zaT at_ m bs 2, zaT at_ m bs 3] = _
    simp [joinL]
  have hs : scanL (joinL [46] (zaL at_ m bs 4)) = some 46 := by rw [e, scan_digs (zaT_digs _ _ _ _), scan_dot]
  have hv : v4go (joinL [46] (zaL at_ m bs 4)) 0 0 [] = none := by
    rw [e]
    have lt : ∀ k, (bs.getD k 0).toNat ≤ 255 := fun k => by have := (bs.getD k 0).toNat_lt; omega
    have neq : ∀ k, k ≠ at_ → zaT at_ m bs k = decL (bs.getD k 0).toNat := fun k h => by unfold zaT; rw [if_neg h]
    have eqz : zaT at_ m bs at_ = zerosAhead m (bs.getD at_ 0).toNat := by unfold zaT; rw [if_pos rfl]
    have z3 : ∀ done, v4go (zerosAhead m (bs.getD at_ 0).toNat) 0 0 done = none := fun done => by
      have := v4go_zeros hm (bs.getD at_ 0).toNat [] done
      rwa [List.append_nil] at this
    rcases Nat.lt_or_ge 0 at_ with h0 | h0
    · rw [neq 0 (by omega), v4go_step (lt 0) (by simp) (by simp)]
      rcases Nat.lt_or_ge 1 at_ with h1 | h1
      · rw [neq 1 (by omega), v4go_step (lt 1) (by simp) (by simp)]
        rcases Nat.lt_or_ge 2 at_ with h2 | h2
        · obtain rfl : at_ = 3 := by omega
          rw [neq 2 (by omega), v4go_step (lt 2) (zaT_ne _ _ _ _) (by simp), eqz, z3]
        · obtain rfl : at_ = 2 := by omega
          rw [eqz, v4go_zeros hm]
      · obtain rfl : at_ = 1 := by omega
        rw [eqz, v4go_zeros hm]
    · obtain rfl : at_ = 0 := by omega
      rw [eqz, v4go_zeros hm]
  unfold readB read4
  rw [hs, if_pos rfl, hv]
  rfl
end Go.Proofs.YtekmlhkoibgmlaaDoor
