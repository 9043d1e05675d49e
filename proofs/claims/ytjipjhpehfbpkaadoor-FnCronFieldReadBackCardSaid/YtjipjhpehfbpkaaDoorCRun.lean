/-
  spec.cronRun.
-/
import Derived.Test.YtjipjhpehfbpkaaDoorCValT
import Derived.Test.YtjipjhpehfbpkaaDoorCUnion
namespace Go.Proofs.YtjipjhpehfbpkaaDoor
open Go.RowKit
set_option maxRecDepth 100000
set_option linter.unusedVariables false

/-- n values from v on, by the step, are in the set and within the field's values -/
def RunIn (f : Nat → Bool) (v st high n : Nat) : Prop := ∀ i, i < n → v + i * st ≤ high ∧ f (1 + (v + i * st)) = true
theorem RunIn.next {f : Nat → Bool} {v st high n V : Nat} (h : RunIn f v st high n) (hV : V = v + n * st) (h1 : V ≤ high) (h2 : f (1 + V) = true) : RunIn f v st high (n + 1) := fun i hi => by
  by_cases e : i = n
  · subst e; subst hV; exact ⟨h1, h2⟩
  · exact h i (by omega)
theorem next_val {v n st V : Nat} (hV : V = v + n * st) : V + st = v + (n + 1) * st := by
  rw [hV, Nat.add_mul, Nat.one_mul, Nat.add_assoc]
theorem run_len {v n st V : Nat} (hV : V = v + n * st) (hs : 1 ≤ st) : n ≤ V := by
  have : n * 1 ≤ n * st := Nat.mul_le_mul_left n hs
  omega
theorem cronRun_any (f : Nat → Bool) (v st high : Nat) (hs : 1 ≤ st) (hs2 : st ≤ 100) (hh : high ≤ 61) (hv : v ≤ 61) (w : World) :
    Calls Tryd.prog 44 #[.agg (setL f).toArray, .int .i64 (v : Int), .int .i64 (st : Int), .int .i64 (high : Int)] w fun e w' => (∃ n : Nat, e = .returned (.int .i64 (n : Int)) ∧ RunIn f v st high n) ∧ Below w.heap.size w w' := by
  go_enter Tryd.func44, Tryd.ntmps44
  go_upto_region 1 with fail
  have S0 : Hid (SetAt (w.alloc (.cells (setL f).toArray 27)) w.heap.size f) := Lib.hid (SetAt.new w f _ rfl)
  have B0 : Hid (Below w.heap.size w (w.alloc (.cells (setL f).toArray 27))) := Lib.hid (below_alloc _ _)
  generalize w.alloc (.cells (setL f).toArray 27) = w3 at *
  obtain ⟨N0, h0⟩ : ∃ n, w.heap.size = n := ⟨_, rfl⟩
  rw [h0] at S0 ⊢
  have H0 := Lib.hid h0
  clear h0
  go_wp2
  go_loop [9, 10] (fun a i => ∃ n V : Nat, a = .int .i64 (n : Int) ∧ i = .int .i64 (V : Int) ∧ V ≤ 161 ∧ n ≤ 161 ∧ Hid (V = v + n * st ∧ RunIn f v st high n)) (fun _ i => 200 - (intOf i).toNat)
  case atStart => exact ⟨0, v, rfl, rfl, by omega, by omega, Lib.hid ⟨by omega, fun i hi => absurd hi (Nat.not_lt_zero _)⟩⟩
  case round =>
    obtain ⟨n, V, rfl, rfl, hV, hn, HR⟩ := hrel
    by_cases hle : V ≤ high
    · have hle1 : (V : Int) ≤ (high : Int) := by omega
      have hV0 : (0 : Int) ≤ (V : Int) := by omega
      have hV63 : (V : Int) < 63 := by omega
      obtain ⟨b, hb⟩ : ∃ b, f (1 + V) = b := ⟨_, rfl⟩
      have hc := S0.out.cell (1 + V) (by omega)
      rw [hb] at hc
      cases b with
      | true =>
        have HN := Lib.hid (And.intro (next_val HR.out.1) (HR.out.2.next HR.out.1 hle hb))
        have HL := Lib.hid (run_len (next_val HR.out.1) hs)
        clear hb
        go_wp2
        go_round
        case rel => exact ⟨n + 1, V + st, by go_num, by go_num, by omega, by have := HL.out; omega, HN⟩
        case measure => simp [intOf]; omega
      | false =>
        clear hb
        go_wp2
        go_ret
        exact ⟨⟨n, rfl, HR.out.2⟩, B0.out⟩
    · have hle1 : ¬ (V : Int) ≤ (high : Int) := by omega
      go_wp2
      go_ret
      exact ⟨⟨n, rfl, HR.out.2⟩, B0.out⟩
end Go.Proofs.YtjipjhpehfbpkaaDoor
