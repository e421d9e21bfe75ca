/-
  What the row's list gives, whatever its order: the three handles; the prefix.
-/
import Derived.Test.YtmfcgglgolajnaaDoorLaidZ
import Derived.Test.YtmfcgglgolajnaaDoorMH
namespace Go.Proofs.YtmfcgglgolajnaaDoor
open Go.ChangeShapes Go.WideShapes Go.ChangeAt Go.RowKit Go.Deep
set_option linter.unusedVariables false

theorem laid_mem {P : Program} {w : World} : ∀ {laid : List (String × DataW Unit)} {ps : List MemPlace}, DataW.LaidVars P w laid ps → ∀ {n : String} {d : DataW Unit}, (n, d) ∈ laid →
    ∃ g t cs fuel p, P.globalNamed n = some g ∧ (P.globals[g]?).map (·.type) = some t ∧ w.var? P n = some cs ∧ DataW.trod (fun _ => ()) P w 0 (fun _ => true) false fuel t cs.toList = some (d, p) ∧ ∀ x ∈ p, x ∈ ps
  | [], _, _, _, _, hm => by cases hm
  | (n', d') :: r, ps, h, n, d, hm => by
    obtain ⟨g, t, cs, fuel, p, q, hg, ht, hv, hd, hr, hps⟩ := h
    rcases List.mem_cons.1 hm with e | hm
    · injection e with e1 e2
      subst e1 e2
      exact ⟨g, t, cs, fuel, p, hg, ht, hv, hd, fun x hx => by rw [hps]; simp [hx]⟩
    · obtain ⟨g2, t2, cs2, f2, p2, a1, a2, a3, a4, a5⟩ := laid_mem hr hm
      exact ⟨g2, t2, cs2, f2, p2, a1, a2, a3, a4, fun x hx => by rw [hps]; simp [a5 x hx]⟩

theorem zxG {W : World} {laid : List (String × DataW Unit)} (h : laidMet Tryd.prog laid W) (m4 : ("net/netip.z4", Rows.laid_net_netip_z4) ∈ laid) (m6 : ("net/netip.z6noz", Rows.laid_net_netip_z6noz) ∈ laid) (m0 : ("net/netip.z0", Rows.laid_net_netip_z0) ∈ laid) : ∃ g4 o4 g6 o6, ZX W g4 o4 g6 o6 := by
  obtain ⟨ps, hlv, hnd, hpl⟩ := h
  obtain ⟨g, t, cs, fuel, p, hg, ht, hv, hd, hps⟩ := laid_mem hlv m4
  obtain ⟨g', t', cs', fuel', p', hg', ht', hv', hd', hps'⟩ := laid_mem hlv m6
  obtain ⟨g'', t'', cs'', fuel'', p'', hg'', ht'', hv'', hd'', _⟩ := laid_mem hlv m0
  obtain rfl := Option.some.inj ((show Tryd.prog.globalNamed "net/netip.z4" = some 3 by kernel_rfl).symm.trans hg)
  obtain rfl := Option.some.inj ((show Tryd.prog.globalNamed "net/netip.z6noz" = some 4 by kernel_rfl).symm.trans hg')
  obtain rfl := Option.some.inj ((show Tryd.prog.globalNamed "net/netip.z0" = some 2 by kernel_rfl).symm.trans hg'')
  obtain rfl := Option.some.inj ((show (Tryd.prog.globals[3]?).map (·.type) = some 87 by kernel_rfl).symm.trans ht)
  obtain rfl := Option.some.inj ((show (Tryd.prog.globals[4]?).map (·.type) = some 87 by kernel_rfl).symm.trans ht')
  obtain rfl := Option.some.inj ((show (Tryd.prog.globals[2]?).map (·.type) = some 87 by kernel_rfl).symm.trans ht'')
  obtain ⟨g4, o4, k1, k2, k3, k5⟩ := handle_open2 hd
  obtain ⟨g6, o6, l1, l2, l3, l5⟩ := handle_open2 hd'
  have c4 := World.var?_cell hg hv 0
  have c6 := World.var?_cell hg' hv' 0
  have c0 := World.var?_cell hg'' hv'' 0
  have n4 := (hpl g4 o4 (hps _ k5)).1
  have n6 := (hpl g6 o6 (hps' _ l5)).1
  refine ⟨g4, o4, g6, o6, ⟨?_, by rw [c4]; exact k1, by rw [c6]; exact l1, k2, k3, l2, l3⟩, n4, n6⟩
  rw [c0]
  exact nil_open hd''

theorem preG {W : World} {laid : List (String × DataW Unit)} (h : laidMet Tryd.prog laid W) (mp : ("net.v4InV6Prefix", Rows.laid_net_v4InV6Prefix) ∈ laid) : PreIs W := by
  obtain ⟨ps, hlv, hnd, hpl⟩ := h
  obtain ⟨g, t, cs, fuel, p, hg, ht, hv, hd, hps⟩ := laid_mem hlv mp
  obtain rfl := Option.some.inj ((show Tryd.prog.globalNamed "net.v4InV6Prefix" = some 0 by kernel_rfl).symm.trans hg)
  obtain rfl := Option.some.inj ((show (Tryd.prog.globals[0]?).map (·.type) = some 22 by kernel_rfl).symm.trans ht)
  rcases open_ints Tryd.underlying22 Tryd.underlying5 (by kernel_rfl) hd with ⟨hcs, hx⟩ | ⟨x, l, c, zs, hcs, hB, hl, hm, hz, hx, hcell, hwz⟩
  · injection hx with hx _
    cases hx
  · have hcell0 := World.var?_cell hg hv 0
    injection hx with hx _
    unfold Rows.laid_net_v4InV6Prefix lits at hx
    injection hx with hx1 hx2
    have hinj : ∀ a b : Int, (DataW.lit (.int .u8 a) : DataW Unit) = .lit (.int .u8 b) → a = b := fun a b e => by injection e with e; injection e
    have ht : zs.take l = [0, 0, 0, 0, 0, 0, 0, 0, 0, 0, 255, 255] := by
      refine (List.map_inj_right (f := fun z : Int => (DataW.lit (.int .u8 z) : DataW Unit)) (fun {a b} e => hinj a b e)).1 ?_
      exact hx1.symm
    have hd0 : zs.drop l = [] := List.map_eq_nil_iff.1 hx2.symm
    have hle : zs.length ≤ l := by simpa using hd0
    have hll : zs.length = l := by
      have : l ≤ zs.length := by rw [hz]; split <;> omega
      omega
    have hl12 : l = 12 := by have h := congrArg List.length ht; rw [List.length_take, hll] at h; simp at h; omega
    subst hl12
    have hrb := bytes_row (w := W) (a := x) (len := 12) (cap := 12) (zs := zs) (Nat.le_refl _) (by unfold maxLen; omega) hll hcell hwz
    rw [ht] at hrb
    refine ⟨some x, c, ?_, hrb.1, hl, hm, hrb.2.2.2⟩
    rw [hcell0]
    obtain ⟨cs⟩ := cs
    simp at hcs
    subst hcs
    rfl
end Go.Proofs.YtmfcgglgolajnaaDoor
