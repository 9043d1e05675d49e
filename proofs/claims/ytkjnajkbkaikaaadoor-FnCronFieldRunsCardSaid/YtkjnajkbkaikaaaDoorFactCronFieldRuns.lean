/-
  Closed facts of the row and the card of laws.FnCronFieldRuns: no walk.
-/
import Derived.Test.YtkjnajkbkaikaaaDoorCards
import Derived.Test.YtkjnajkbkaikaaaDoorTie
import Derived.WalkKit
import Derived.ProofKit
import Derived.OpenShut
import Derived.ShutString
import Derived.Below
import Derived.SizedLaws
import Derived.Deep.DeepHandedRow
import Derived.Deep.DeepWitnessRowRef
import Derived.Lay
import Derived.MakeChecks
namespace Go.Proofs.YtkjnajkbkaikaaaDoor.fnCronFieldRuns
open Go.ChangeShapes Go.WideShapes Go.ChangeAt Go.RowKit
open Go.ChangeMaps (open_string shut_string)
set_option linter.unusedVariables false

theorem own : ownKnob Tryd.prog.godebug = none := by kernel_rfl

theorem laid_met (os : Os) : laidMet Tryd.prog Rows.fnCronFieldRunsRow.laid ((World.laidAll Tryd.prog os Rows.fnCronFieldRunsRow.laid).forCall (fun _ _ => 0) ⟨#[], #[.int .u64 0, .int .u64 0, .int .u64 0], []⟩).memory :=
  laidMet_laidAll _ (by kernel_rfl) (by kernel_rfl)
theorem laid_metH (os : Os) : laidMetH Tryd.prog Rows.fnCronFieldRunsRow.laid ((World.laidAll Tryd.prog os Rows.fnCronFieldRunsRow.laid).forCall (fun _ _ => 0) ⟨#[], #[.int .u64 0, .int .u64 0, .int .u64 0], []⟩).memory := by
  rw [MakeChecks.laidMetH_plain _ _ _ (by kernel_rfl)]; exact laid_met os
theorem reads (os : Os) {H : Type} (enc : TypeId × Value → H) : ∃ places, DataW.whole enc Tryd.prog ((World.laidAll Tryd.prog os Rows.fnCronFieldRunsRow.laid).forCall (fun _ _ => 0) ⟨#[], #[.int .u64 0, .int .u64 0, .int .u64 0], []⟩).memory Tryd.f5.params.toList Rows.fnCronFieldRunsSpec.vars false #[Value.int .u64 0, Value.int .u64 0, Value.int .u64 0].toList 8 = some ([.lit (.int .u64 0), .lit (.int .u64 0), .lit (.int .u64 0)], [], places) :=
  ⟨[], by kernel_rfl⟩

set_option maxHeartbeats 40000000
set_option maxRecDepth 100000
theorem facts : joinedFacts Tryd.pinned.checked.prog 5 Tryd.f5 (OpenSpec.ofChange Rows.fnCronFieldRunsSpec).bare Rows.fnCronFieldRunsRow = true := by
  unfold joinedFacts
  simp only [Bool.and_eq_true]
  repeat' apply And.intro
  all_goals as_aux_lemma => kernel_rfl

theorem plain (f : FuncId) (fn : Func) (hf : Tryd.pinned.checked.prog.funcNamed "pub-timebook/laws.FnCronFieldRuns" = some f) (hfn : Tryd.pinned.checked.prog.funcs[f]? = some fn) :
    Rows.fnCronFieldRunsCard.stood.looks = Tryd.pinned.checked.prog.looks [] ∧ ∀ (j : Nat) t, fn.params[j]? = some t → Tryd.pinned.checked.prog.wantsStandIn t = false := by
  obtain rfl : f = 5 := Option.some.inj ((show Tryd.prog.funcNamed "pub-timebook/laws.FnCronFieldRuns" = some 5 by as_aux_lemma => kernel_rfl).symm.trans hf) |>.symm
  obtain rfl : fn = Tryd.f5 := (Option.some.inj (Tryd.func5.symm.trans hfn)).symm
  refine ⟨by as_aux_lemma => kernel_rfl, fun j t ht => ?_⟩
  rw [Tryd.params5] at ht
  have hm := Array.mem_of_getElem? ht
  have hall : (#[22, 22, 30] : Array TypeId).all (fun t => !Tryd.prog.wantsStandIn t) = true := by as_aux_lemma => kernel_rfl
  have := Array.all_eq_true_iff_forall_mem.1 hall t hm
  exact (by simpa using this : Tryd.prog.wantsStandIn t = false)

end Go.Proofs.YtkjnajkbkaikaaaDoor.fnCronFieldRuns
