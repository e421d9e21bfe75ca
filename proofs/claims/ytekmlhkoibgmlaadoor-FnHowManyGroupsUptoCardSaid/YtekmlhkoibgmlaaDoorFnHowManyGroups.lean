/-
  FnHowManyGroups: for every input whose arguments hold together at most 1048576 values and letters the law returns true, and each argument reads afterwards as it read before. No other condition.
-/
import Derived.Test.YtekmlhkoibgmlaaDoorFnHowManyGroupsWalk
import Derived.Test.YtekmlhkoibgmlaaDoorBulk
import Derived.JoinedCond
import Derived.Test.YtekmlhkoibgmlaaDoorCards
import Derived.Test.YtekmlhkoibgmlaaDoorTie
import Derived.Lay
import Derived.SevenTiedAt
import Derived.Deep.DeepHandedRow
import Derived.Test.YtekmlhkoibgmlaaDoorLaidZ
namespace Go.Proofs.YtekmlhkoibgmlaaDoor.fnHowManyGroupsDone
open Go.ChangeShapes Go.WideShapes Go.ChangeAt Go.RowKit
set_option linter.unusedVariables false

theorem own : ownKnob Tryd.prog.godebug = none := by kernel_rfl
theorem laidOut : laidOutB Tryd.prog = true := by kernel_rfl

set_option maxRecDepth 100000 in
set_option maxHeartbeats 1000000 in
theorem lifted (os : Os) (started : os.Started) (H : Type) (enc : TypeId × Value → H)
    (F : Stop.Interp) :
    ReturnsInHanded {} Tryd.checked os 5 .any ((Rows.OpenSpec.upto Rows.fnHowManyGroupsSpec).preRow enc Tryd.prog Tryd.f5 Rows.fnHowManyGroupsUptoRow.domain false Rows.fnHowManyGroupsUptoRow.laid) (((Rows.OpenSpec.upto Rows.fnHowManyGroupsSpec).at F).post enc Tryd.prog Tryd.f5 false true false false) := by
  have hx : DataW.whole enc Tryd.prog ((World.laidAll Tryd.prog os Rows.fnHowManyGroupsUptoRow.laid).forCall (fun _ _ => 0) ⟨#[], #[.slice none 0 0], []⟩).memory Tryd.f5.params.toList (Rows.OpenSpec.upto Rows.fnHowManyGroupsSpec).vars false #[.slice none 0 0].toList 8 = some ([.nil], [], []) := by kernel_rfl
  have hok : Input.okWideB Tryd.checked.prog ((World.laidAll Tryd.prog os Rows.fnHowManyGroupsUptoRow.laid).forCall (fun _ _ => 0) ⟨#[], #[.slice none 0 0], []⟩) 5 ⟨#[], #[.slice none 0 0], []⟩ = true := by kernel_rfl
  have hlm : laidMetH Tryd.prog Rows.fnHowManyGroupsUptoRow.laid ((World.laidAll Tryd.prog os Rows.fnHowManyGroupsUptoRow.laid).forCall (fun _ _ => 0) ⟨#[], #[.slice none 0 0], []⟩).memory := by rw [MakeChecks.laidMetH_plain _ _ _ (by kernel_rfl)]; exact laidMet_laidAll _ (by kernel_rfl) (by kernel_rfl)
  refine returnsInHanded_of_row (C := Tryd.checked) (s := Rows.OpenSpec.upto Rows.fnHowManyGroupsSpec) own started (by kernel_rfl) Tryd.func5
    ⟨World.laidAll Tryd.prog os Rows.fnHowManyGroupsUptoRow.laid, fun _ _ => 0, ⟨#[], #[.slice none 0 0], []⟩, World.laidAll_os _ _ _, World.shaped_of_ZipB (by kernel_rfl) (by kernel_rfl), (Input.okWide_of_okWideB (base := 0) hok).1, (Input.okWide_of_okWideB hok).2,
      OpenSpec.preRow_of_cond 8 hx (by kernel_rfl) (fun k hk => by cases hk; kernel_rfl) (by kernel_rfl) hlm, by
      simp only [Assume.holds]
      exact ⟨by simp, by simp, fun _ => Modest.zero, by simp, by simp⟩⟩ ?_
  clear hx hok hlm
  intro W base args ds gs before hval0 hW _ hcond _ hL _ _
  have hk := hcond _ rfl
  have hval : ∀ (j : Nat) t v, Tryd.f5.params[j]? = some t → args[j]? = some v → Value.okWide Tryd.prog W .any base t v := hval0
  have hW' := hW
  obtain ⟨p, q, hA0, hV, rfl, hfz, hnd⟩ := hW
  have hA : DataW.TrodAll enc Tryd.prog W 0 (fun _ => true) true Tryd.f5.params.toList args.toList ds p := hA0
  rw [Tryd.params5] at hA hval
  obtain ⟨v0, vs0, d0, ds0, p0, q0, hargs, rfl, rfl, h0, r0⟩ := trodAll_cons hA
  obtain ⟨rfl, rfl, rfl⟩ := trodAll_nil r0
  obtain rfl : args = #[v0] := by cases args; simp_all
  obtain ⟨rfl, rfl⟩ := trodVars_none hV
  have hbk := bulks.bound hk
  simp only [List.append_nil, Rows.uptoBulkAll] at hbk
  obtain ⟨a0, n0, c0, rfl⟩ := okWide_slice Tryd.underlying22 (hval 0 22 v0 rfl rfl)
  have k0 := h0
  have lt0 : ∀ x ∈ p0, x.block < W.heap.size := by obtain ⟨m, hm⟩ := k0; exact DataW.trod_lt m _ _ _ hm
  obtain ⟨b0, w0, z0⟩ := open_bytes_small Tryd.underlying22 Tryd.underlying5 (by kernel_rfl) h0 (by omega)
  clear hA0 hval0
  obtain ⟨g4, o4, g6, o6, hzs⟩ := zx_of hL
  refine (fnHowManyGroups_walk W g4 o4 g6 o6 hzs a0 n0 c0 b0 w0 z0).mono fun e W' ⟨he, bel⟩ => ?_
  subst he
  exact ⟨_, rfl, _, _, _, [], _, [], hW', trodAll_mk1 (shut_bool Tryd.underlying4 _), (trodAll_cons_mk (Below.trod laidOut (by kernel_rfl) (of_decide_eq_true (by kernel_rfl)) k0 bel lt0) trodAll_mk0), rfl, bel.frame _, fun h => by cases h⟩

theorem over : Rows.FnHowManyGroupsUptoSaid :=
  OpenClaim.holds_of_cond 5 Tryd.f5 rfl rfl rfl rfl rfl rfl rfl ⟨rfl, rfl, rfl, rfl, rfl⟩ rfl rfl rfl rfl rfl (by kernel_rfl) Tryd.func5 (by kernel_rfl)
    (of_decide_eq_true (by kernel_rfl)) (by unfold Func.isWrapper; first | (rw [if_pos (by decide +kernel)]; kernel_rfl) | (rw [if_neg (by decide +kernel)]; exact ⟨rfl, rfl⟩))
    (fun os started H enc _ F => by rw [OpenClaim.pre_eq_preRow]; exact lifted os started H enc F)

theorem proved : Rows.FnHowManyGroupsUptoCardSaid :=
  Claim7.holds_tied_plain_at .later [] _ _ _ _ over (fun _ h => by cases h) (by kernel_rfl) (fun _ h => by cases h) fnHowManyGroupsUpto_row_tie rfl ⟨rfl, rfl⟩ (by kernel_rfl) rfl
    (fun f fn hf hfn => by
      obtain rfl : f = 5 := Option.some.inj ((show Tryd.prog.funcNamed "loop.example/lib-g01431/laws.FnHowManyGroups" = some 5 by kernel_rfl).symm.trans hf) |>.symm
      obtain rfl : fn = Tryd.f5 := (Option.some.inj (Tryd.func5.symm.trans hfn)).symm
      exact ⟨by kernel_rfl, fun j t ht => by
        rw [Tryd.params5] at ht
        have hm : t ∈ [22] := by simpa using Array.mem_of_getElem? ht
        have hall : ([22].all fun u => !Tryd.prog.wantsStandIn u) = true := by kernel_rfl
        exact (show Tryd.prog.wantsStandIn t = false by simpa using List.all_eq_true.1 hall t hm)⟩)
    (by kernel_rfl)
#print axioms proved
end Go.Proofs.YtekmlhkoibgmlaaDoor.fnHowManyGroupsDone
