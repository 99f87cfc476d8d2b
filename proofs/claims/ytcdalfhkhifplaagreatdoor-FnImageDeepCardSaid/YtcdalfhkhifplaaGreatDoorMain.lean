/-
  The law FnImageDeep holds (its card): for every input (names, a file, data, inline or not) the law returns true and each argument reads behind the call as it read before. Conditions: none beyond the row's own: the package-level variable xattrPrefixes holds what the program's text lays (the card ties it).
-/
import Derived.Test.YtcdalfhkhifplaaGreatDoorM19
set_option linter.unusedVariables false
set_option linter.unusedSimpArgs false
namespace Go.Proofs.YtcdalfhkhifplaaGreatDoor
open Go
open Go.ChangeShapes Go.WideShapes Go.ChangeAt Go.RowKit Go.Deep
set_option maxRecDepth 100000
set_option maxHeartbeats 2000000
abbrev wFile : Value := .agg #[.string ⟨#[]⟩, .int .i64 0, .int .u16 0, .int .u32 0, .int .u32 0, .bool false, .int .i64 0, .int .i64 0, .bool false, .int .i64 0, .int .i64 0, .bool false, .int .i64 0, .int .i64 0, .bool false, .int .i64 0, .int .i64 0, .int .u32 0, .int .u32 0, .slice none 0 0]
abbrev wArgs : Array Value := #[.slice none 0 0, wFile, .slice none 0 0, .bool false]
noncomputable def laidWorld (os : Os) : World :=
  { World.holding Tryz.prog os ⟨#[], #[], []⟩ with heap := (World.holding Tryz.prog os ⟨#[], #[], []⟩).heap.modify 0 fun
      | .cells _ t frozen => .cells pfx.toArray t frozen
      | o => o }
theorem laid_met (os : Os) : laidMet Tryz.prog Rows.fnImageDeepRow.laid ((laidWorld os).forCall (fun _ _ => 0) ⟨#[], wArgs, []⟩).memory :=
  laidMet_of_run' 8 (by kernel_rfl) (by kernel_rfl)
abbrev wTime {H : Type} : DataW H := .agg [.lit (.bool false), .lit (.int .i64 0), .lit (.int .i64 0)]
abbrev wDs {H : Type} : List (DataW H) := [.nil, .agg [.lit (.string []), .lit (.int .i64 0), .lit (.int .u16 0), .lit (.int .u32 0), .lit (.int .u32 0), wTime, wTime, wTime, wTime, .lit (.int .u32 0), .lit (.int .u32 0), .nil], .nil, .lit (.bool false)]
theorem reads (os : Os) {H : Type} (enc' : TypeId × Value → H) : ∃ places, DataW.whole enc' Tryz.prog ((laidWorld os).forCall (fun _ _ => 0) ⟨#[], wArgs, []⟩).memory Tryz.f3.params.toList Rows.fnImageDeepSpec.vars false wArgs.toList 8 = some (wDs, [], places) :=
  ⟨[], by kernel_rfl⟩
theorem lifted (os : Os) (started : os.Started) (H : Type) (enc' : TypeId × Value → H) (F : Stop.Interp) :
    ReturnsInHanded {} Tryz.checked os 3 .any ((OpenSpec.ofChange Rows.fnImageDeepSpec).preRow enc' Tryz.prog Tryz.f3 Rows.fnImageDeepRow.domain false Rows.fnImageDeepRow.laid) (((OpenSpec.ofChange Rows.fnImageDeepSpec).at F).post enc' Tryz.prog Tryz.f3 false true false false) := by
  obtain ⟨places, hx⟩ := reads os enc'
  refine returnsInHanded_of_row (C := Tryz.checked) (s := OpenSpec.ofChange Rows.fnImageDeepSpec) deep_own started (by kernel_rfl) Tryz.func3
    (witness_row_at (enc := enc') (C := Tryz.checked) false (laidWorld os) wArgs rfl (by kernel_rfl) (by kernel_rfl) (by kernel_rfl)
      (OpenSpec.preRow_of_cond 8 hx (by kernel_rfl) (fun k hk => by cases hk) (by kernel_rfl) (laid_met os))) ?_
  intro W base args ds gs before hval hW _ _ _ hL _ _
  exact contract H enc' W base args ds gs before hval hW hL
theorem said : Rows.FnImageDeepSaid :=
  OpenClaim.holds_of_cond 3 Tryz.f3 rfl rfl rfl rfl rfl rfl rfl ⟨rfl, rfl, rfl, rfl, rfl⟩ rfl rfl rfl rfl rfl (by kernel_rfl) Tryz.func3 (by kernel_rfl)
    (of_decide_eq_true (by kernel_rfl)) (by unfold Func.isWrapper; first | (rw [if_pos (by decide +kernel)]; kernel_rfl) | (rw [if_neg (by decide +kernel)]; exact ⟨rfl, rfl⟩))
    (fun os started H enc' _ F => by rw [OpenClaim.pre_eq_preRow]; exact lifted os started H enc' F)
theorem plainCard (f : FuncId) (fn : Func) (hf : Tryz.pinned.checked.prog.funcNamed "pub-marram/laws.FnImageDeep" = some f) (hfn : Tryz.pinned.checked.prog.funcs[f]? = some fn) :
    true = Tryz.pinned.checked.prog.looks [] ∧ ∀ (j : Nat) t, fn.params[j]? = some t → Tryz.pinned.checked.prog.wantsStandIn t = false := by
  obtain rfl : f = 3 := Option.some.inj ((show Tryz.prog.funcNamed "pub-marram/laws.FnImageDeep" = some 3 by kernel_rfl).symm.trans hf) |>.symm
  obtain rfl : fn = Tryz.f3 := (Option.some.inj (Tryz.func3.symm.trans hfn)).symm
  refine ⟨by kernel_rfl, fun j t ht => ?_⟩
  rw [Tryz.params3] at ht
  have ht' : t = 22 ∨ t = 29 ∨ t = 30 ∨ t = 4 := by simpa using Array.mem_of_getElem? ht
  rcases ht' with rfl | rfl | rfl | rfl
  · exact (show Tryz.prog.wantsStandIn 22 = false by kernel_rfl)
  · exact (show Tryz.prog.wantsStandIn 29 = false by kernel_rfl)
  · exact (show Tryz.prog.wantsStandIn 30 = false by kernel_rfl)
  · exact (show Tryz.prog.wantsStandIn 4 = false by kernel_rfl)
theorem fnImageDeep_holds : Rows.FnImageDeepCardSaid :=
  Claim7.holds_tied_plain_at .later [] _ _ _ _ said (fun _ h => by cases h) (by kernel_rfl) (fun _ h => by cases h) fnImageDeep_row_tie rfl ⟨rfl, rfl⟩ (by kernel_rfl) rfl plainCard (by kernel_rfl)
end Go.Proofs.YtcdalfhkhifplaaGreatDoor
