/-
  spec.CronRunsText.
-/
import Derived.Test.YtjipjhpehfbpkaaDoorCJoin
import Derived.Test.YtjipjhpehfbpkaaDoorCErr
import Derived.Deep.DeepCutAuto
import Derived.Deep.CutBlock
namespace Go.Proofs.YtjipjhpehfbpkaaDoor
open Go.RowKit
set_option maxRecDepth 100000
set_option linter.unusedVariables false

namespace M
/-- the runs of B's bits below V -/
def RunsTo (B V : Nat) (R : List (Nat × Nat)) : Prop := (∀ r ∈ R, r.1 ≤ r.2 ∧ r.2 ≤ 62 ∧ r.2 < V) ∧ ∀ i, i < V → (B.testBit i = true ↔ ∃ r ∈ R, r.1 ≤ i ∧ i ≤ r.2)
theorem RunsTo.nil (B : Nat) : RunsTo B 0 [] := ⟨(fun r hr => by cases hr), (fun i hi => by omega)⟩
theorem RunsTo.skip {B V : Nat} {R : List (Nat × Nat)} (h : RunsTo B V R) (hb : B.testBit V = false) : RunsTo B (V + 1) R := by
  refine ⟨fun r hr => ⟨(h.1 r hr).1, (h.1 r hr).2.1, by have := (h.1 r hr).2.2; omega⟩, fun i hi => ?_⟩
  by_cases e : i = V
  · subst e
    rw [hb]
    constructor
    · intro k; cases k
    · rintro ⟨r, hr, _, h2⟩
      have := (h.1 r hr).2.2
      omega
  · exact h.2 i (by omega)
theorem RunsTo.add {B V t : Nat} {R : List (Nat × Nat)} (h : RunsTo B V R) (h1 : V ≤ t) (h2 : t ≤ 62) (hb : ∀ j, V ≤ j → j ≤ t → B.testBit j = true) : RunsTo B (t + 1) (R ++ [(V, t)]) := by
  refine ⟨fun r hr => ?_, fun i hi => ?_⟩
  · rcases List.mem_append.1 hr with hr | hr
    · exact ⟨(h.1 r hr).1, (h.1 r hr).2.1, by have := (h.1 r hr).2.2; omega⟩
    · obtain rfl := List.mem_singleton.1 hr
      exact ⟨h1, h2, Nat.lt_succ_self _⟩
  · by_cases e : i < V
    · rw [h.2 i e]
      constructor
      · rintro ⟨r, hr, k⟩
        exact ⟨r, List.mem_append_left _ hr, k⟩
      · rintro ⟨r, hr, k⟩
        rcases List.mem_append.1 hr with hr | hr
        · exact ⟨r, hr, k⟩
        · obtain rfl := List.mem_singleton.1 hr
          have := k.1
          simp at this
          omega
    · constructor
      · intro _
        exact ⟨(V, t), List.mem_append_right _ (List.mem_singleton.2 rfl), by simp; omega, by simp; omega⟩
      · intro _
        exact hb i (by omega) (by omega)
theorem runText_len {r : Nat × Nat} (h1 : r.1 ≤ 62) (h2 : r.2 ≤ 62) : (runText r).length ≤ 1000 := by
  have hl : ∀ n, n ≤ 62 → (Lib.decDigits n).length ≤ 2 := by
    intro n hn
    by_cases h : n < 10
    · rw [Lib.decDigits_one h]; simp
    · rw [Lib.decDigits_two h (by omega)]; simp
  have a := hl r.1 h1
  have b := hl r.2 h2
  unfold runText
  split
  · omega
  · rw [List.length_append, List.length_cons]; omega
theorem bit_and (B n : Nat) (hB : B < 18446744073709551616) : Go.bits .and .u64 ((B : Int) / 2 ^ n) 1 = if B.testBit n then 1 else 0 := by
  have e : (B : Int) / 2 ^ n = ((B / 2 ^ n : Nat) : Int) := by simp
  have := and64 (a := B / 2 ^ n) (b := 1) (Nat.lt_of_le_of_lt (Nat.div_le_self _ _) hB) (by decide)
  rw [e]
  refine this.trans ?_
  rw [shr_and]
  split <;> rfl
end M
theorem OwnS.at {w : World} {base : Nat} {v : Value} {L : List ByteArray} (h : OwnS w base v L) (hL : L ≠ []) : ∃ g c, v = .slice (some ⟨g, 0, none⟩) L.length c ∧ SlAt w g L := by
  have h0 := h
  obtain ⟨h1, h2 | ⟨g, cap, cur, rfl, hg, hbk, hn, hc, hs, ht⟩⟩ := h
  · obtain ⟨rfl, hn⟩ := h2
    exact absurd (List.length_eq_zero_iff.1 hn) hL
  · refine ⟨g, cap, rfl, (Array.getElem?_eq_some_iff.1 hbk).1, fun i hi => ?_⟩
    have := World.ownsRow.cellAt (w := w) (base := base) (e := 9) (size := 1) (g := g) (n := L.length) (cap := cap) (xs := L.map Value.string) h0 i (by omega)
    rw [this]
    simp [hi]
theorem itoa_small (n : Nat) (w : World) (h : n ≤ 62) :
    Calls Tryd.prog 56 #[.int .i64 (n : Int)] w fun e w' => e = .returned (.string (dec n)) ∧ w = w' :=
  (Tryd.strconv_Itoa_small n (by omega) w).mono fun e w' ⟨he, hw⟩ => ⟨he, hw.symm⟩
theorem dec_small {n : Nat} (h : n ≤ 62) : (dec n).size ≤ 2 := by
  show (Lib.decDigits n).toArray.size ≤ 2
  rw [List.size_toArray]
  by_cases h' : n < 10
  · rw [Lib.decDigits_one h']; simp
  · rw [Lib.decDigits_two h' (by omega)]; simp
/-- at the head of the loop over the values -/
def RnRel (B : Nat) (w : World) (v i : Value) (wr : World) : Prop :=
  ∃ (V : Nat) (R : List (Nat × Nat)) (L : List ByteArray), i = .int .i64 (V : Int) ∧ V ≤ 63 ∧ OwnS wr w.heap.size v L ∧ L.map M.bs = R.map M.runText ∧ R.length ≤ V ∧ Below w.heap.size w wr ∧ M.RunsTo B V R
end Go.Proofs.YtjipjhpehfbpkaaDoor
