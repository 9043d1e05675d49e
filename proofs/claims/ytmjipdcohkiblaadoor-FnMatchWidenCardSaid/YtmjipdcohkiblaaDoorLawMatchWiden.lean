/-
  The card of laws.FnMatchWiden: for every input the law returns true; what the walks need of the listed variables comes out of the row's list, which the given tie ties to the program's text.
-/
import Derived.Test.YtmjipdcohkiblaaDoorCards
import Derived.Test.YtmjipdcohkiblaaDoorTie
import Derived.Test.YtmjipdcohkiblaaDoorFactMatchWiden
import Derived.Test.YtmjipdcohkiblaaDoorMatLaw
import Derived.WalkKit
import Derived.ProofKit
import Derived.OpenShut
import Derived.ShutString
import Derived.Below
import Derived.SizedLaws
import Derived.Deep.DeepHandedRow
import Derived.Deep.DeepWitnessRowRef
import Derived.Lay
import Derived.MakeChecks
namespace Go.Proofs.YtmjipdcohkiblaaDoor.fnMatchWiden
open Go.ChangeShapes Go.WideShapes Go.ChangeAt Go.RowKit
open Go.ChangeMaps (open_string shut_string)
set_option linter.unusedVariables false

set_option maxRecDepth 100000 in
theorem contract (H : Type) (enc : TypeId × Value → H) (W : World) (base : Nat) (args : Array Value) (ds gs : List (DataW H)) (before : List MemPlace)
    (hval : ∀ (j : Nat) t v, Tryd.f3.params[j]? = some t → args[j]? = some v → Value.okWide Tryd.prog W .any base t v)
    (hW : DataW.Whole enc Tryd.prog Tryd.f3.params.toList Rows.fnMatchWidenSpec.vars false W args.toList ds gs before)
    (hsz0 : (DataW.weightsEach Tryd.prog (Tryd.f3.params.toList ++ (OpenSpec.ofChange Rows.fnMatchWidenSpec).bare.plain.varTypes Tryd.prog) (ds ++ gs)).all (· ≤ reachBytes) = true)
    (hL : laidMetH Tryd.prog Rows.fnMatchWidenRow.laid W) :
    Calls Tryd.prog 3 args W fun e W' => ∃ v, e = .returned v ∧ Rows.fnMatchWidenSpec.post enc Tryd.prog Tryd.f3 false true false false W args v W' := by
  have hsz : (DataW.weightsEach Tryd.prog (Tryd.f3.params.toList ++ (OpenSpec.ofChange Rows.fnMatchWidenSpec).bare.plain.varTypes Tryd.prog) (ds ++ gs)).all (· ≤ reachBytes) = true := hsz0
  have hL' : laidMet Tryd.prog Rows.fnMatchWidenRow.laid W := by rw [← MakeChecks.laidMetH_plain _ _ _ (by kernel_rfl)]; exact hL
  have hW' := hW
  obtain ⟨p, q, hA0, hV, rfl, hfz, hnd⟩ := hW
  have hA : DataW.TrodAll enc Tryd.prog W 0 (fun _ => true) true Tryd.f3.params.toList args.toList ds p := hA0
  rw [Tryd.params3] at hA hval
  obtain ⟨v0, vs0, d0, ds0, p0, q0, hargs, rfl, rfl, h0, r0⟩ := trodAll_cons hA
  obtain ⟨v1, vs1, d1, ds1, p1, q1, rfl, rfl, rfl, h1, r1⟩ := trodAll_cons r0
  obtain ⟨rfl, rfl, rfl⟩ := trodAll_nil r1
  obtain rfl : args = #[v0, v1] := by cases args; simp_all
  obtain ⟨rfl, rfl⟩ := trodVars_none hV
  obtain ⟨a0, rfl, rfl, rfl, y0⟩ := open_string Tryd.underlying9 (hval 0 9 v0 rfl rfl) h0
  have w0 : a0.size ≤ 140737488351232 := by
    have z := sized_string hsz (j := 0) (t := 9) rfl rfl
    rw [Array.length_toList] at z
    exact z
  obtain ⟨a1, rfl, rfl, rfl, w1⟩ := open_int Tryd.underlying3 (hval 1 3 v1 rfl rfl) h1
  clear hA0 hsz0 hsz

  refine (widen_walk a0 a1 W w0 w1).mono fun e W' ⟨he, bel⟩ => ?_
  subst he
  exact ⟨_, rfl, _, _, _, [], _, [], hW', trodAll_mk1 (shut_bool Tryd.underlying4 _), (trodAll_cons_mk (shut_string Tryd.underlying9 y0) (trodAll_cons_mk (shut_int Tryd.underlying3 w1) trodAll_mk0)), rfl, bel.frame _, fun h => by cases h⟩

set_option maxRecDepth 100000 in
theorem lifted (os : Os) (started : os.Started) (H : Type) (enc : TypeId × Value → H) (F : Stop.Interp) :
    ReturnsInHanded {} Tryd.checked os 3 .any ((OpenSpec.ofChange Rows.fnMatchWidenSpec).preRow enc Tryd.prog Tryd.f3 Rows.fnMatchWidenRow.domain false Rows.fnMatchWidenRow.laid) (((OpenSpec.ofChange Rows.fnMatchWidenSpec).at F).post enc Tryd.prog Tryd.f3 false true false false) := by
  obtain ⟨places, hx⟩ := reads os enc
  refine returnsInHanded_of_row (C := Tryd.checked) (s := OpenSpec.ofChange Rows.fnMatchWidenSpec) own started (by as_aux_lemma => kernel_rfl) Tryd.func3
    (witness_row_atRef (enc := enc) (C := Tryd.checked) false (World.laidAll Tryd.prog os Rows.fnMatchWidenRow.laid) #[.string ByteArray.empty, .int .i64 0] (World.laidAll_os _ _ _) (by as_aux_lemma => kernel_rfl) (by as_aux_lemma => kernel_rfl) (by as_aux_lemma => kernel_rfl)
      (OpenSpec.preRow_of_cond 8 hx (by as_aux_lemma => kernel_rfl) (fun k hk => by cases hk) (by as_aux_lemma => kernel_rfl) (laid_met os))) ?_
  intro W base args ds gs before hval hW _ _ hsz hL _ _
  exact contract H enc W base args ds gs before hval hW hsz hL

theorem said : Rows.FnMatchWidenSaid :=
  OpenClaim.holds_of_cond 3 Tryd.f3 rfl rfl rfl rfl rfl rfl rfl ⟨rfl, rfl, rfl, rfl, rfl⟩ rfl rfl rfl rfl rfl (by as_aux_lemma => kernel_rfl) Tryd.func3 facts
    (of_decide_eq_true (by as_aux_lemma => kernel_rfl)) (by unfold Func.isWrapper; first | (rw [if_pos (by decide +kernel)]; as_aux_lemma => kernel_rfl) | (rw [if_neg (by decide +kernel)]; exact ⟨rfl, rfl⟩))
    (fun os started H enc _ F => by rw [OpenClaim.pre_eq_preRow]; exact lifted os started H enc F)

set_option maxHeartbeats 40000000
set_option maxRecDepth 100000
/-- laws.FnMatchWiden: whatever the input, it returns true. -/
theorem card : Rows.FnMatchWidenCardSaid :=
  Claim7.holds_tied_plain_at .later [] _ _ _ _ said (fun _ h => by cases h) (by as_aux_lemma => kernel_rfl) (fun _ h => by cases h) fnMatchWiden_row_tie rfl ⟨rfl, rfl⟩ (by as_aux_lemma => kernel_rfl) rfl plain (by as_aux_lemma => kernel_rfl)
end Go.Proofs.YtmjipdcohkiblaaDoor.fnMatchWiden
