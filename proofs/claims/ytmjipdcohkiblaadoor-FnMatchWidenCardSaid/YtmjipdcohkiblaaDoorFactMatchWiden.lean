/-
  Closed facts of the row and the card of laws.FnMatchWiden: no walk.
-/
import Derived.Test.YtmjipdcohkiblaaDoorCards
import Derived.Test.YtmjipdcohkiblaaDoorTie
import Derived.WalkKit
import Derived.ProofKit
import Derived.OpenShut
import Derived.ShutString
import Derived.Below
import Derived.SizedLaws
import Derived.Deep.DeepHandedRow
import Derived.Deep.DeepWitnessRowRef
import Derived.Lay
import Derived.MakeChecks
namespace Go.Proofs.YtmjipdcohkiblaaDoor.fnMatchWiden
open Go.ChangeShapes Go.WideShapes Go.ChangeAt Go.RowKit
open Go.ChangeMaps (open_string shut_string)
set_option linter.unusedVariables false

theorem own : ownKnob Tryd.prog.godebug = none := by kernel_rfl

theorem laid_met (os : Os) : laidMet Tryd.prog Rows.fnMatchWidenRow.laid ((World.laidAll Tryd.prog os Rows.fnMatchWidenRow.laid).forCall (fun _ _ => 0) ⟨#[], #[.string ByteArray.empty, .int .i64 0], []⟩).memory :=
  laidMet_laidAll _ (by kernel_rfl) (by kernel_rfl)
theorem laid_metH (os : Os) : laidMetH Tryd.prog Rows.fnMatchWidenRow.laid ((World.laidAll Tryd.prog os Rows.fnMatchWidenRow.laid).forCall (fun _ _ => 0) ⟨#[], #[.string ByteArray.empty, .int .i64 0], []⟩).memory := by
  rw [MakeChecks.laidMetH_plain _ _ _ (by kernel_rfl)]; exact laid_met os
theorem reads (os : Os) {H : Type} (enc : TypeId × Value → H) : ∃ places, DataW.whole enc Tryd.prog ((World.laidAll Tryd.prog os Rows.fnMatchWidenRow.laid).forCall (fun _ _ => 0) ⟨#[], #[.string ByteArray.empty, .int .i64 0], []⟩).memory Tryd.f3.params.toList Rows.fnMatchWidenSpec.vars false #[Value.string ByteArray.empty, Value.int .i64 0].toList 8 = some ([.lit (.string []), .lit (.int .i64 0)], [], places) :=
  ⟨[], by kernel_rfl⟩

set_option maxHeartbeats 40000000
set_option maxRecDepth 100000
theorem facts : joinedFacts Tryd.pinned.checked.prog 3 Tryd.f3 (OpenSpec.ofChange Rows.fnMatchWidenSpec).bare Rows.fnMatchWidenRow = true := by
  unfold joinedFacts
  simp only [Bool.and_eq_true]
  repeat' apply And.intro
  all_goals as_aux_lemma => kernel_rfl

theorem plain (f : FuncId) (fn : Func) (hf : Tryd.pinned.checked.prog.funcNamed "pub-timebook/laws.FnMatchWiden" = some f) (hfn : Tryd.pinned.checked.prog.funcs[f]? = some fn) :
    Rows.fnMatchWidenCard.stood.looks = Tryd.pinned.checked.prog.looks [] ∧ ∀ (j : Nat) t, fn.params[j]? = some t → Tryd.pinned.checked.prog.wantsStandIn t = false := by
  obtain rfl : f = 3 := Option.some.inj ((show Tryd.prog.funcNamed "pub-timebook/laws.FnMatchWiden" = some 3 by as_aux_lemma => kernel_rfl).symm.trans hf) |>.symm
  obtain rfl : fn = Tryd.f3 := (Option.some.inj (Tryd.func3.symm.trans hfn)).symm
  refine ⟨by as_aux_lemma => kernel_rfl, fun j t ht => ?_⟩
  rw [Tryd.params3] at ht
  have hm := Array.mem_of_getElem? ht
  have hall : (#[9, 3] : Array TypeId).all (fun t => !Tryd.prog.wantsStandIn t) = true := by as_aux_lemma => kernel_rfl
  have := Array.all_eq_true_iff_forall_mem.1 hall t hm
  exact (by simpa using this : Tryd.prog.wantsStandIn t = false)

end Go.Proofs.YtmjipdcohkiblaaDoor.fnMatchWiden
