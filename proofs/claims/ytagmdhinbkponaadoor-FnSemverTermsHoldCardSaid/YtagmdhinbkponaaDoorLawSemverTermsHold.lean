/-
  The card of laws.FnSemverTermsHold: for every input the law returns true; what the walks need of the listed variables comes out of the row's list, which the given tie ties to the program's text.
-/
import Derived.Test.YtagmdhinbkponaaDoorCards
import Derived.Test.YtagmdhinbkponaaDoorTie
import Derived.Test.YtagmdhinbkponaaDoorFactSemverTermsHold
import Derived.Test.YtagmdhinbkponaaDoorTermsHoldLaw
import Derived.Test.YtagmdhinbkponaaDoorTermsOpen
import Derived.WalkKit
import Derived.ProofKit
import Derived.OpenShut
import Derived.ShutString
import Derived.Below
import Derived.SizedLaws
import Derived.Deep.DeepHandedRow
import Derived.Deep.DeepWitnessRowRef
import Derived.Lay
import Derived.MakeChecks
namespace Go.Proofs.YtagmdhinbkponaaDoor.fnSemverTermsHold
open Go.ChangeShapes Go.WideShapes Go.ChangeAt Go.RowKit
open Go.ChangeMaps (open_string shut_string)
set_option linter.unusedVariables false

set_option maxRecDepth 100000 in
theorem contract (H : Type) (enc : TypeId × Value → H) (W : World) (base : Nat) (args : Array Value) (ds gs : List (DataW H)) (before : List MemPlace)
    (hval : ∀ (j : Nat) t v, Tryd.f5.params[j]? = some t → args[j]? = some v → Value.okWide Tryd.prog W .any base t v)
    (hW : DataW.Whole enc Tryd.prog Tryd.f5.params.toList Rows.fnSemverTermsHoldSpec.vars false W args.toList ds gs before)
    (hsz0 : (DataW.weightsEach Tryd.prog (Tryd.f5.params.toList ++ (OpenSpec.ofChange Rows.fnSemverTermsHoldSpec).bare.plain.varTypes Tryd.prog) (ds ++ gs)).all (· ≤ reachBytes) = true)
    (hL : laidMetH Tryd.prog Rows.fnSemverTermsHoldRow.laid W) :
    Calls Tryd.prog 5 args W fun e W' => ∃ v, e = .returned v ∧ Rows.fnSemverTermsHoldSpec.post enc Tryd.prog Tryd.f5 false true false false W args v W' := by
  have hsz : (DataW.weightsEach Tryd.prog (Tryd.f5.params.toList ++ (OpenSpec.ofChange Rows.fnSemverTermsHoldSpec).bare.plain.varTypes Tryd.prog) (ds ++ gs)).all (· ≤ reachBytes) = true := hsz0
  have hL' : laidMet Tryd.prog Rows.fnSemverTermsHoldRow.laid W := by rw [← MakeChecks.laidMetH_plain _ _ _ (by kernel_rfl)]; exact hL
  have hW' := hW
  obtain ⟨p, q, hA0, hV, rfl, hfz, hnd⟩ := hW
  have hA : DataW.TrodAll enc Tryd.prog W 0 (fun _ => true) true Tryd.f5.params.toList args.toList ds p := hA0
  rw [Tryd.params5] at hA hval
  obtain ⟨v0, vs0, d0, ds0, p0, q0, hargs, rfl, rfl, h0, r0⟩ := trodAll_cons hA
  obtain ⟨v1, vs1, d1, ds1, p1, q1, rfl, rfl, rfl, h1, r1⟩ := trodAll_cons r0
  obtain ⟨v2, vs2, d2, ds2, p2, q2, rfl, rfl, rfl, h2, r2⟩ := trodAll_cons r1
  obtain ⟨rfl, rfl, rfl⟩ := trodAll_nil r2
  obtain rfl : args = #[v0, v1, v2] := by cases args; simp_all
  obtain ⟨rfl, rfl⟩ := trodVars_none hV
  have k0 := h0
  have lt0 : ∀ x ∈ p0, x.block < W.heap.size := fun x hx => hW'.lt x (by simp [hx])
  obtain ⟨a0, y0, e0, _⟩ := open_termss (hval 0 37 v0 rfl rfl) h0
  have w0 := sized_termss hsz (j := 0) e0 rfl rfl
  obtain ⟨a1, rfl, rfl, rfl, u1, yp1, ym1⟩ := open_ver (hval 1 26 v1 rfl rfl) h1
  have w1 := sized_ver hsz (j := 1) (x := a1) rfl rfl
  obtain ⟨a2, rfl, rfl, rfl⟩ := open_bool Tryd.underlying4 (hval 2 4 v2 rfl rfl) h2
  clear hA0 hsz0 hsz
  obtain ⟨sa, hE0⟩ := Sent.errs_of_laid numG _ (laidMet.filter isE hL') (by rfl) (by kernel_rfl) (by kernel_rfl) (by decide); have hE : NumErrs W := numErrs_of hE0
  refine (hold_walk v0 a0 a1 a2 W hE y0 w0 u1 w1).mono fun e W' ⟨he, bel⟩ => ?_
  subst he
  exact ⟨_, rfl, _, _, _, [], _, [], hW', trodAll_mk1 (shut_bool Tryd.underlying4 _), (trodAll_cons_mk (Below.trod laidOut (by kernel_rfl) (of_decide_eq_true (by kernel_rfl)) k0 bel lt0) (trodAll_cons_mk (shut_ver u1 yp1 ym1) (trodAll_cons_mk (shut_bool Tryd.underlying4 _) trodAll_mk0))), rfl, bel.frame _, fun h => by cases h⟩

set_option maxRecDepth 100000 in
theorem lifted (os : Os) (started : os.Started) (H : Type) (enc : TypeId × Value → H) (F : Stop.Interp) :
    ReturnsInHanded {} Tryd.checked os 5 .any ((OpenSpec.ofChange Rows.fnSemverTermsHoldSpec).preRow enc Tryd.prog Tryd.f5 Rows.fnSemverTermsHoldRow.domain false Rows.fnSemverTermsHoldRow.laid) (((OpenSpec.ofChange Rows.fnSemverTermsHoldSpec).at F).post enc Tryd.prog Tryd.f5 false true false false) := by
  obtain ⟨places, hx⟩ := reads os enc
  refine returnsInHanded_of_row (C := Tryd.checked) (s := OpenSpec.ofChange Rows.fnSemverTermsHoldSpec) own started (by as_aux_lemma => kernel_rfl) Tryd.func5
    (witness_row_atRef (enc := enc) (C := Tryd.checked) false (World.laidAll Tryd.prog os Rows.fnSemverTermsHoldRow.laid) #[.slice none 0 0, .agg #[.int .u64 0, .int .u64 0, .int .u64 0, .string ByteArray.empty, .string ByteArray.empty], .bool false] (World.laidAll_os _ _ _) (by as_aux_lemma => kernel_rfl) (by as_aux_lemma => kernel_rfl) (by as_aux_lemma => kernel_rfl)
      (OpenSpec.preRow_of_cond 8 hx (by as_aux_lemma => kernel_rfl) (fun k hk => by cases hk) (by as_aux_lemma => kernel_rfl) (laid_met os))) ?_
  intro W base args ds gs before hval hW _ _ hsz hL _ _
  exact contract H enc W base args ds gs before hval hW hsz hL

theorem said : Rows.FnSemverTermsHoldSaid :=
  OpenClaim.holds_of_cond 5 Tryd.f5 rfl rfl rfl rfl rfl rfl rfl ⟨rfl, rfl, rfl, rfl, rfl⟩ rfl rfl rfl rfl rfl (by as_aux_lemma => kernel_rfl) Tryd.func5 facts
    (of_decide_eq_true (by as_aux_lemma => kernel_rfl)) (by unfold Func.isWrapper; first | (rw [if_pos (by decide +kernel)]; as_aux_lemma => kernel_rfl) | (rw [if_neg (by decide +kernel)]; exact ⟨rfl, rfl⟩))
    (fun os started H enc _ F => by rw [OpenClaim.pre_eq_preRow]; exact lifted os started H enc F)

set_option maxHeartbeats 40000000
set_option maxRecDepth 100000
/-- laws.FnSemverTermsHold: whatever the input, it returns true. -/
theorem card : Rows.FnSemverTermsHoldCardSaid :=
  Claim7.holds_tied_plain_at .later [] _ _ _ _ said (fun _ h => by cases h) (by as_aux_lemma => kernel_rfl) (fun _ h => by cases h) fnSemverTermsHold_row_tie rfl ⟨rfl, rfl⟩ (by as_aux_lemma => kernel_rfl) rfl plain (by as_aux_lemma => kernel_rfl)
end Go.Proofs.YtagmdhinbkponaaDoor.fnSemverTermsHold
