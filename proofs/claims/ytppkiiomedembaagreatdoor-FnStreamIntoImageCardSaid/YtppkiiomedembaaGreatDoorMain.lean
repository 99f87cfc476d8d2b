/-
  The law FnStreamIntoImage holds (its card): for every input (data, sizes, inline or not) the law returns true and each argument reads behind the call as it read before. Conditions: none beyond the row's own: the listed package-level variables hold what the program's text lays (the card ties them).
-/
import Derived.Test.YtppkiiomedembaaGreatDoorM25
import Derived.Lay
import Derived.Deep.DeepWitnessRowRef
set_option linter.unusedVariables false
set_option linter.unusedSimpArgs false
namespace Go.Proofs.YtppkiiomedembaaGreatDoor
open Go
open Go.ChangeShapes Go.WideShapes Go.ChangeAt Go.RowKit Go.Deep
set_option maxRecDepth 100000
set_option maxHeartbeats 2000000
abbrev wArgs : Array Value := #[.slice none 0 0, .slice none 0 0, .bool false]
noncomputable abbrev laidWorld (os : Os) : World := World.laidAll Tryz.prog os Rows.fnStreamIntoImageRow.laid
theorem laid_met (os : Os) : laidMet Tryz.prog Rows.fnStreamIntoImageRow.laid ((laidWorld os).forCall (fun _ _ => 0) ⟨#[], wArgs, []⟩).memory :=
  laidMet_laidAll _ (by kernel_rfl) (by kernel_rfl)
abbrev wDs {H : Type} : List (DataW H) := [.nil, .nil, .lit (.bool false)]
theorem reads (os : Os) {H : Type} (enc' : TypeId × Value → H) : ∃ places, DataW.whole enc' Tryz.prog ((laidWorld os).forCall (fun _ _ => 0) ⟨#[], wArgs, []⟩).memory Tryz.f3.params.toList Rows.fnStreamIntoImageSpec.vars false wArgs.toList 8 = some (wDs, [], places) :=
  ⟨[], by kernel_rfl⟩
theorem lifted (os : Os) (started : os.Started) (H : Type) (enc' : TypeId × Value → H) (F : Stop.Interp) :
    ReturnsInHanded {} Tryz.checked os 3 .any ((OpenSpec.ofChange Rows.fnStreamIntoImageSpec).preRow enc' Tryz.prog Tryz.f3 Rows.fnStreamIntoImageRow.domain false Rows.fnStreamIntoImageRow.laid) (((OpenSpec.ofChange Rows.fnStreamIntoImageSpec).at F).post enc' Tryz.prog Tryz.f3 false true false false) := by
  obtain ⟨places, hx⟩ := reads os enc'
  refine returnsInHanded_of_row (C := Tryz.checked) (s := OpenSpec.ofChange Rows.fnStreamIntoImageSpec) s_own started (by kernel_rfl) Tryz.func3
    (witness_row_atRef (enc := enc') (C := Tryz.checked) false (laidWorld os) wArgs (World.laidAll_os _ _ _) (by kernel_rfl) (by kernel_rfl) (by kernel_rfl)
      (OpenSpec.preRow_of_cond 8 hx (by kernel_rfl) (fun k hk => by cases hk) (by kernel_rfl) (by rw [MakeChecks.laidMetH_plain _ _ _ (by kernel_rfl)]; exact laid_met os))) ?_
  intro W base args ds gs before hval hW _ _ _ hL _ _
  exact contract H enc' W base args ds gs before hval hW hL
theorem said : Rows.FnStreamIntoImageSaid :=
  OpenClaim.holds_of_cond 3 Tryz.f3 rfl rfl rfl rfl rfl rfl rfl ⟨rfl, rfl, rfl, rfl, rfl⟩ rfl rfl rfl rfl rfl (by kernel_rfl) Tryz.func3 (by kernel_rfl)
    (of_decide_eq_true (by kernel_rfl)) (by unfold Func.isWrapper; first | (rw [if_pos (by decide +kernel)]; kernel_rfl) | (rw [if_neg (by decide +kernel)]; exact ⟨rfl, rfl⟩))
    (fun os started H enc' _ F => by rw [OpenClaim.pre_eq_preRow]; exact lifted os started H enc' F)
theorem plainCard (f : FuncId) (fn : Func) (hf : Tryz.pinned.checked.prog.funcNamed "pub-marram/laws.FnStreamIntoImage" = some f) (hfn : Tryz.pinned.checked.prog.funcs[f]? = some fn) :
    true = Tryz.pinned.checked.prog.looks [] ∧ ∀ (j : Nat) t, fn.params[j]? = some t → Tryz.pinned.checked.prog.wantsStandIn t = false := by
  obtain rfl : f = 3 := Option.some.inj ((show Tryz.prog.funcNamed "pub-marram/laws.FnStreamIntoImage" = some 3 by kernel_rfl).symm.trans hf) |>.symm
  obtain rfl : fn = Tryz.f3 := (Option.some.inj (Tryz.func3.symm.trans hfn)).symm
  refine ⟨by kernel_rfl, fun j t ht => ?_⟩
  rw [Tryz.params3] at ht
  have hm : t ∈ [22, 23, 4] := by simpa using Array.mem_of_getElem? ht
  have hall : ([22, 23, 4].all fun u => !Tryz.prog.wantsStandIn u) = true := by kernel_rfl
  exact (show Tryz.prog.wantsStandIn t = false by simpa using List.all_eq_true.1 hall t hm)
theorem fnStreamIntoImage_holds : Rows.FnStreamIntoImageCardSaid :=
  Claim7.holds_tied_plain_at .later [] _ _ _ _ said (fun _ h => by cases h) (by kernel_rfl) (fun _ h => by cases h) fnStreamIntoImage_row_tie rfl ⟨rfl, rfl⟩ (by kernel_rfl) rfl plainCard (by kernel_rfl)
end Go.Proofs.YtppkiiomedembaaGreatDoor
