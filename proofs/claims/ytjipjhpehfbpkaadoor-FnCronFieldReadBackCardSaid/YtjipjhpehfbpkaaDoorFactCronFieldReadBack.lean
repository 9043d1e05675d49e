/-
  Closed facts of the row and the card of laws.FnCronFieldReadBack: no walk.
-/
import Derived.Test.YtjipjhpehfbpkaaDoorCards
import Derived.Test.YtjipjhpehfbpkaaDoorTie
import Derived.WalkKit
import Derived.ProofKit
import Derived.OpenShut
import Derived.ShutString
import Derived.Below
import Derived.SizedLaws
import Derived.Deep.DeepHandedRow
import Derived.Deep.DeepWitnessRowRef
import Derived.Lay
import Derived.MakeChecks
namespace Go.Proofs.YtjipjhpehfbpkaaDoor.fnCronFieldReadBack
open Go.ChangeShapes Go.WideShapes Go.ChangeAt Go.RowKit
open Go.ChangeMaps (open_string shut_string)
set_option linter.unusedVariables false

theorem own : ownKnob Tryd.prog.godebug = none := by kernel_rfl

theorem laid_met (os : Os) : laidMet Tryd.prog Rows.fnCronFieldReadBackRow.laid ((World.laidAll Tryd.prog os Rows.fnCronFieldReadBackRow.laid).forCall (fun _ _ => 0) ⟨#[], #[.int .i64 0, .int .u64 0, .slice none 0 0], []⟩).memory :=
  laidMet_laidAll _ (by kernel_rfl) (by kernel_rfl)
theorem laid_metH (os : Os) : laidMetH Tryd.prog Rows.fnCronFieldReadBackRow.laid ((World.laidAll Tryd.prog os Rows.fnCronFieldReadBackRow.laid).forCall (fun _ _ => 0) ⟨#[], #[.int .i64 0, .int .u64 0, .slice none 0 0], []⟩).memory := by
  rw [MakeChecks.laidMetH_plain _ _ _ (by kernel_rfl)]; exact laid_met os
theorem reads (os : Os) {H : Type} (enc : TypeId × Value → H) : ∃ places, DataW.whole enc Tryd.prog ((World.laidAll Tryd.prog os Rows.fnCronFieldReadBackRow.laid).forCall (fun _ _ => 0) ⟨#[], #[.int .i64 0, .int .u64 0, .slice none 0 0], []⟩).memory Tryd.f4.params.toList Rows.fnCronFieldReadBackSpec.vars false #[Value.int .i64 0, Value.int .u64 0, Value.slice none 0 0].toList 8 = some ([.lit (.int .i64 0), .lit (.int .u64 0), .nil], [], places) :=
  ⟨[], by kernel_rfl⟩

set_option maxHeartbeats 40000000
set_option maxRecDepth 100000
theorem facts : joinedFacts Tryd.pinned.checked.prog 4 Tryd.f4 (OpenSpec.ofChange Rows.fnCronFieldReadBackSpec).bare Rows.fnCronFieldReadBackRow = true := by
  unfold joinedFacts
  simp only [Bool.and_eq_true]
  repeat' apply And.intro
  all_goals as_aux_lemma => kernel_rfl

theorem plain (f : FuncId) (fn : Func) (hf : Tryd.pinned.checked.prog.funcNamed "pub-timebook/laws.FnCronFieldReadBack" = some f) (hfn : Tryd.pinned.checked.prog.funcs[f]? = some fn) :
    Rows.fnCronFieldReadBackCard.stood.looks = Tryd.pinned.checked.prog.looks [] ∧ ∀ (j : Nat) t, fn.params[j]? = some t → Tryd.pinned.checked.prog.wantsStandIn t = false := by
  obtain rfl : f = 4 := Option.some.inj ((show Tryd.prog.funcNamed "pub-timebook/laws.FnCronFieldReadBack" = some 4 by as_aux_lemma => kernel_rfl).symm.trans hf) |>.symm
  obtain rfl : fn = Tryd.f4 := (Option.some.inj (Tryd.func4.symm.trans hfn)).symm
  refine ⟨by as_aux_lemma => kernel_rfl, fun j t ht => ?_⟩
  rw [Tryd.params4] at ht
  have hm := Array.mem_of_getElem? ht
  have hall : (#[3, 22, 34] : Array TypeId).all (fun t => !Tryd.prog.wantsStandIn t) = true := by as_aux_lemma => kernel_rfl
  have := Array.all_eq_true_iff_forall_mem.1 hall t hm
  exact (by simpa using this : Tryd.prog.wantsStandIn t = false)

end Go.Proofs.YtjipjhpehfbpkaaDoor.fnCronFieldReadBack
