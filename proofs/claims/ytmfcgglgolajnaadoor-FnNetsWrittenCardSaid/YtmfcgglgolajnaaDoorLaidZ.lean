/-
  What the row's list gives: the three handles.
-/
import Derived.Test.YtmfcgglgolajnaaDoorMC
import Derived.Test.YtmfcgglgolajnaaDoorMA
import Derived.Test.YtmfcgglgolajnaaDoorRows
import Derived.Lib.LaidTab
import Derived.Lay
import Derived.SevenTiedAt
import Derived.ChangeSame
namespace Go.Proofs.YtmfcgglgolajnaaDoor
open Go.ChangeShapes Go.WideShapes Go.ChangeAt Go.RowKit Go.Deep
set_option linter.unusedVariables false

theorem two_of {α : Type} {l : List α} (h : l.length = 2) : ∃ a b, l = [a, b] := by
  match l, h with
  | [a, b], _ => exact ⟨a, b, rfl⟩
theorem handle_open {W : World} {fuel : Nat} {cs : Array Value} {b : Bool} {p : List MemPlace} (hd : DataW.trod (fun _ => ()) Tryd.prog W 0 (fun _ => true) false fuel 87 cs.toList = some (.agg [.ptr (.agg [.lit (.bool b), .lit (.string [])])], p)) :
    ∃ g o, cs[0]? = some (.pointer (some ⟨g, o, none⟩)) ∧ W.cell? ⟨g, o, none⟩ = some (.bool b) ∧ W.cell? ⟨g, o + 1, none⟩ = some (.string ⟨#[]⟩) := by
  obtain ⟨y0, n, hx, hl, h0⟩ := trod_struct1 Tryd.underlying87 hd
  have hl1 : cs.toList.length = 1 := hl.trans (by kernel_rfl)
  obtain ⟨v, hv⟩ : ∃ v, cs.toList = [v] := by
    match h : cs.toList, hl1 with
    | [v], _ => exact ⟨v, rfl⟩
  have hc0 : cs[0]? = some v := by rw [← Array.getElem?_toList, hv]; rfl
  rw [hv] at h0
  have h0' : DataW.trod (fun _ => ()) Tryd.prog W 0 (fun _ => true) false n 85 [v] = some y0 := by
    have e : List.take (Tryd.prog.cellsOf 85) (List.drop 0 [v]) = [v] := by
      rw [show Tryd.prog.cellsOf 85 = 1 by kernel_rfl]; rfl
    rw [← e]; exact h0
  rcases DataW.trod_pointer Tryd.underlying85 h0' with ⟨_, hy⟩ | ⟨a, cs', y, m, _, he, hy, hcells, hy2⟩
  · rw [hy] at hx; injection hx with hx _; injection hx with hx; injection hx with hx _; cases hx
  · rw [hy] at hx
    injection hx with hx _
    injection hx with hx
    injection hx with hx _
    injection hx with hx
    obtain ⟨z0, z1, k, hz, hzl, hz0, hz1⟩ := trod_struct2 Tryd.underlying106 hy2
    have hcl : Tryd.prog.cellsOf 106 = 2 := by kernel_rfl
    rw [hcl] at hcells
    obtain ⟨_, hcs', hcell⟩ := World.cells?_some hcells
    obtain ⟨u0, u1, rfl⟩ := two_of hcs'
    have hz0' : DataW.trod (fun _ => ()) Tryd.prog W 0 (fun _ => true) false k 4 [u0] = some z0 := by
      have e : List.take (Tryd.prog.cellsOf 4) (List.drop 0 [u0, u1]) = [u0] := by
        rw [show Tryd.prog.cellsOf 4 = 1 by kernel_rfl]; rfl
      rw [← e]; exact hz0
    have hz1' : DataW.trod (fun _ => ()) Tryd.prog W 0 (fun _ => true) false k 9 [u1] = some z1 := by
      have e : List.take (Tryd.prog.cellsOf 9) (List.drop 1 [u0, u1]) = [u1] := by
        rw [show Tryd.prog.cellsOf 9 = 1 by kernel_rfl]; rfl
      rw [← e]; exact hz1
    obtain ⟨b', e0, e0'⟩ := DataW.trod_bool Tryd.underlying4 hz0'
    obtain ⟨s', e1, e1', _⟩ := DataW.trod_string Tryd.underlying9 hz1'
    injection e0 with e0 _
    injection e1 with e1 _
    rw [hz, e0', e1'] at hx
    injection hx with hx
    injection hx with hx1 hx2
    injection hx2 with hx2 _
    injection hx1 with hx1
    injection hx1 with hx1
    injection hx2 with hx2
    injection hx2 with hx2
    injection he with he _
    subst he e0 e1 hx1
    have c0 := hcell 0 (by omega)
    have c1 := hcell 1 (by omega)
    obtain ⟨g, o, spot⟩ := a
    have hs : spot = none := by simpa [Addr.add] using World.cell?_spot c0
    subst hs
    rw [add_at] at c0 c1
    refine ⟨g, o, hc0, c0, ?_⟩
    rw [c1]
    have hse : s' = ⟨#[]⟩ := by
      apply ByteArray.ext
      exact Array.toList_inj.1 hx2.symm
    rw [hse]
    rfl
theorem handle_open2 {W : World} {fuel : Nat} {cs : Array Value} {b : Bool} {p : List MemPlace} (hd : DataW.trod (fun _ => ()) Tryd.prog W 0 (fun _ => true) false fuel 87 cs.toList = some (.agg [.ptr (.agg [.lit (.bool b), .lit (.string [])])], p)) :
    ∃ g o, cs[0]? = some (.pointer (some ⟨g, o, none⟩)) ∧ W.cell? ⟨g, o, none⟩ = some (.bool b) ∧ W.cell? ⟨g, o + 1, none⟩ = some (.string ⟨#[]⟩) ∧ MemPlace.cell g o ∈ p := by
  obtain ⟨y0, n, hx, hl, h0⟩ := trod_struct1 Tryd.underlying87 hd
  have hpp : p = y0.2 := congrArg Prod.snd hx
  have hl1 : cs.toList.length = 1 := hl.trans (by kernel_rfl)
  obtain ⟨v, hv⟩ : ∃ v, cs.toList = [v] := by
    match h : cs.toList, hl1 with
    | [v], _ => exact ⟨v, rfl⟩
  have hc0 : cs[0]? = some v := by rw [← Array.getElem?_toList, hv]; rfl
  rw [hv] at h0
  have h0' : DataW.trod (fun _ => ()) Tryd.prog W 0 (fun _ => true) false n 85 [v] = some y0 := by
    have e : List.take (Tryd.prog.cellsOf 85) (List.drop 0 [v]) = [v] := by
      rw [show Tryd.prog.cellsOf 85 = 1 by kernel_rfl]; rfl
    rw [← e]; exact h0
  rcases DataW.trod_pointer Tryd.underlying85 h0' with ⟨_, hy⟩ | ⟨a, cs', y, m, _, he, hy, hcells, hy2⟩
  · rw [hy] at hx; injection hx with hx _; injection hx with hx; injection hx with hx _; cases hx
  · have hp2 : p = MemPlace.row a (Tryd.prog.cellsOf 106) ++ y.2 := by rw [hpp, hy]
    rw [hy] at hx
    injection hx with hx _
    injection hx with hx
    injection hx with hx _
    injection hx with hx
    obtain ⟨z0, z1, k, hz, hzl, hz0, hz1⟩ := trod_struct2 Tryd.underlying106 hy2
    have hcl : Tryd.prog.cellsOf 106 = 2 := by kernel_rfl
    rw [hcl] at hcells
    obtain ⟨_, hcs', hcell⟩ := World.cells?_some hcells
    obtain ⟨u0, u1, rfl⟩ := two_of hcs'
    have hz0' : DataW.trod (fun _ => ()) Tryd.prog W 0 (fun _ => true) false k 4 [u0] = some z0 := by
      have e : List.take (Tryd.prog.cellsOf 4) (List.drop 0 [u0, u1]) = [u0] := by
        rw [show Tryd.prog.cellsOf 4 = 1 by kernel_rfl]; rfl
      rw [← e]; exact hz0
    have hz1' : DataW.trod (fun _ => ()) Tryd.prog W 0 (fun _ => true) false k 9 [u1] = some z1 := by
      have e : List.take (Tryd.prog.cellsOf 9) (List.drop 1 [u0, u1]) = [u1] := by
        rw [show Tryd.prog.cellsOf 9 = 1 by kernel_rfl]; rfl
      rw [← e]; exact hz1
    obtain ⟨b', e0, e0'⟩ := DataW.trod_bool Tryd.underlying4 hz0'
    obtain ⟨s', e1, e1', _⟩ := DataW.trod_string Tryd.underlying9 hz1'
    injection e0 with e0 _
    injection e1 with e1 _
    rw [hz, e0', e1'] at hx
    injection hx with hx
    injection hx with hx1 hx2
    injection hx2 with hx2 _
    injection hx1 with hx1
    injection hx1 with hx1
    injection hx2 with hx2
    injection hx2 with hx2
    injection he with he _
    subst he e0 e1 hx1
    have c0 := hcell 0 (by omega)
    have c1 := hcell 1 (by omega)
    obtain ⟨g, o, spot⟩ := a
    have hs : spot = none := by simpa [Addr.add] using World.cell?_spot c0
    subst hs
    rw [add_at] at c0 c1
    have hmem : MemPlace.cell g o ∈ p := by
      rw [hp2, show Tryd.prog.cellsOf 106 = 2 by kernel_rfl]
      simp [MemPlace.row, List.range_succ]
    refine ⟨g, o, hc0, c0, ?_, hmem⟩
    rw [c1]
    have hse : s' = ⟨#[]⟩ := by
      apply ByteArray.ext
      exact Array.toList_inj.1 hx2.symm
    rw [hse]
    rfl
theorem nil_open {W : World} {fuel : Nat} {cs : Array Value} {p : List MemPlace} (hd : DataW.trod (fun _ => ()) Tryd.prog W 0 (fun _ => true) false fuel 87 cs.toList = some (.agg [.nil], p)) : cs[0]? = some (.pointer none) := by
  obtain ⟨y0, n, hx, hl, h0⟩ := trod_struct1 Tryd.underlying87 hd
  have hl1 : cs.toList.length = 1 := hl.trans (by kernel_rfl)
  obtain ⟨v, hv⟩ : ∃ v, cs.toList = [v] := by
    match h : cs.toList, hl1 with
    | [v], _ => exact ⟨v, rfl⟩
  have hc0 : cs[0]? = some v := by rw [← Array.getElem?_toList, hv]; rfl
  rw [hv] at h0
  have h0' : DataW.trod (fun _ => ()) Tryd.prog W 0 (fun _ => true) false n 85 [v] = some y0 := by
    have e : List.take (Tryd.prog.cellsOf 85) (List.drop 0 [v]) = [v] := by
      rw [show Tryd.prog.cellsOf 85 = 1 by kernel_rfl]; rfl
    rw [← e]; exact h0
  rcases DataW.trod_pointer Tryd.underlying85 h0' with ⟨he, _⟩ | ⟨a, cs', y, m, _, he, hy, _, _⟩
  · have he' : v = .pointer none := by injection he
    exact hc0.trans (congrArg some he')
  · exfalso
    have hx1 := congrArg Prod.fst hx
    rw [hy] at hx1
    injection hx1 with hx1
    injection hx1 with hx1 _
    have hx2 : (DataW.nil : DataW Unit) = DataW.ptr y.1 := hx1
    exact absurd hx2 (by intro h; nomatch h)
theorem gz4 : Tryd.prog.globalNamed "net/netip.z4" = some 3 := by kernel_rfl
theorem gz6 : Tryd.prog.globalNamed "net/netip.z6noz" = some 4 := by kernel_rfl
theorem gz0 : Tryd.prog.globalNamed "net/netip.z0" = some 2 := by kernel_rfl
theorem tz4 : (Tryd.prog.globals[3]?).map (·.type) = some 87 := by kernel_rfl
theorem tz6 : (Tryd.prog.globals[4]?).map (·.type) = some 87 := by kernel_rfl
theorem tz0 : (Tryd.prog.globals[2]?).map (·.type) = some 87 := by kernel_rfl
theorem zIs_of {W : World} (h : laidMetH Tryd.prog [("net/netip.z4", Rows.laid_net_netip_z4), ("net/netip.z6noz", Rows.laid_net_netip_z6noz), ("net/netip.z0", Rows.laid_net_netip_z0)] W) : ∃ g4 o4 g6 o6, ZIs W g4 o4 g6 o6 := by
  rw [MakeChecks.laidMetH_plain _ _ _ (by kernel_rfl)] at h
  obtain ⟨ps, ⟨g, t, cs, fuel, p, q, hg, ht, hv, hd, ⟨g', t', cs', fuel', p', q', hg', ht', hv', hd', ⟨g'', t'', cs'', fuel'', p'', q'', hg'', ht'', hv'', hd'', _, _⟩, _⟩, _⟩, _⟩ := h
  obtain rfl := Option.some.inj ((show Tryd.prog.globalNamed "net/netip.z4" = some 3 by kernel_rfl).symm.trans hg)
  obtain rfl := Option.some.inj ((show Tryd.prog.globalNamed "net/netip.z6noz" = some 4 by kernel_rfl).symm.trans hg')
  obtain rfl := Option.some.inj ((show Tryd.prog.globalNamed "net/netip.z0" = some 2 by kernel_rfl).symm.trans hg'')
  obtain rfl := Option.some.inj ((show (Tryd.prog.globals[3]?).map (·.type) = some 87 by kernel_rfl).symm.trans ht)
  obtain rfl := Option.some.inj ((show (Tryd.prog.globals[4]?).map (·.type) = some 87 by kernel_rfl).symm.trans ht')
  obtain rfl := Option.some.inj ((show (Tryd.prog.globals[2]?).map (·.type) = some 87 by kernel_rfl).symm.trans ht'')
  obtain ⟨g4, o4, k1, k2, k3⟩ := handle_open hd
  obtain ⟨g6, o6, l1, l2, l3⟩ := handle_open hd'
  have c4 := World.var?_cell hg hv 0
  have c6 := World.var?_cell hg' hv' 0
  have c0 := World.var?_cell hg'' hv'' 0
  refine ⟨g4, o4, g6, o6, ?_, by rw [c4]; exact k1, by rw [c6]; exact l1, k2, k3, l2, l3⟩
  rw [c0]
  exact nil_open hd''
theorem zx_of {W : World} (h : laidMetH Tryd.prog [("net/netip.z4", Rows.laid_net_netip_z4), ("net/netip.z6noz", Rows.laid_net_netip_z6noz), ("net/netip.z0", Rows.laid_net_netip_z0)] W) : ∃ g4 o4 g6 o6, ZX W g4 o4 g6 o6 := by
  rw [MakeChecks.laidMetH_plain _ _ _ (by kernel_rfl)] at h
  obtain ⟨ps, ⟨g, t, cs, fuel, p, q, hg, ht, hv, hd, ⟨g', t', cs', fuel', p', q', hg', ht', hv', hd', ⟨g'', t'', cs'', fuel'', p'', q'', hg'', ht'', hv'', hd'', _, _⟩, hps'⟩, hps⟩, hnd, hpl⟩ := h
  obtain rfl := Option.some.inj ((show Tryd.prog.globalNamed "net/netip.z4" = some 3 by kernel_rfl).symm.trans hg)
  obtain rfl := Option.some.inj ((show Tryd.prog.globalNamed "net/netip.z6noz" = some 4 by kernel_rfl).symm.trans hg')
  obtain rfl := Option.some.inj ((show Tryd.prog.globalNamed "net/netip.z0" = some 2 by kernel_rfl).symm.trans hg'')
  obtain rfl := Option.some.inj ((show (Tryd.prog.globals[3]?).map (·.type) = some 87 by kernel_rfl).symm.trans ht)
  obtain rfl := Option.some.inj ((show (Tryd.prog.globals[4]?).map (·.type) = some 87 by kernel_rfl).symm.trans ht')
  obtain rfl := Option.some.inj ((show (Tryd.prog.globals[2]?).map (·.type) = some 87 by kernel_rfl).symm.trans ht'')
  obtain ⟨g4, o4, k1, k2, k3, k5⟩ := handle_open2 hd
  obtain ⟨g6, o6, l1, l2, l3, l5⟩ := handle_open2 hd'
  have c4 := World.var?_cell hg hv 0
  have c6 := World.var?_cell hg' hv' 0
  have c0 := World.var?_cell hg'' hv'' 0
  have m4 := (hpl g4 o4 (by rw [hps]; simp [k5])).1
  have m6 := (hpl g6 o6 (by rw [hps, hps']; simp [l5])).1
  refine ⟨g4, o4, g6, o6, ⟨?_, by rw [c4]; exact k1, by rw [c6]; exact l1, k2, k3, l2, l3⟩, m4, m6⟩
  rw [c0]
  exact nil_open hd''
end Go.Proofs.YtmfcgglgolajnaaDoor
