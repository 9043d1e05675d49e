/-
  laws.FnCronRangeTurned returns true for all fields, ends and steps.
-/
import Derived.Test.YtjipjhpehfbpkaaDoorCAscii
import Derived.Test.YtjipjhpehfbpkaaDoorCErr
namespace Go.Proofs.YtjipjhpehfbpkaaDoor
open Go.RowKit
set_option maxRecDepth 100000
set_option linter.unusedVariables false

theorem isKind_in (k : Nat) (hk : k ≤ 5) (w : World) : Calls Tryd.prog 8 #[.int .i64 (k : Int)] w fun e w' => e = .returned (.bool true) ∧ w = w' := by
  have h1 : (k : Int) < 6 := by omega
  have h2 : (0 : Int) ≤ (k : Int) := by omega
  go_enter Tryd.func8, Tryd.ntmps8
  go_wp2
  go_ret
  exact ⟨rfl, rfl⟩
theorem isKind_out (k : Int) (hk : k < 0 ∨ 6 ≤ k) (w : World) : Calls Tryd.prog 8 #[.int .i64 k] w fun e w' => e = .returned (.bool false) ∧ w = w' := by
  rcases hk with h | h
  · have h1 : ¬ (0 : Int) ≤ k := by omega
    go_enter Tryd.func8, Tryd.ntmps8
    go_wp2
    go_ret
    exact ⟨rfl, rfl⟩
  · have h1 : (0 : Int) ≤ k := by omega
    have h2 : ¬ k < 6 := by omega
    go_enter Tryd.func8, Tryd.ntmps8
    go_wp2
    go_ret
    exact ⟨rfl, rfl⟩
def KLow : Nat → Nat
  | 3 => 1
  | 4 => 1
  | _ => 0
theorem low_lit (k : Int) (n : Int) (w : World) (h : (k = 0 ∧ n = 0) ∨ (k = 1 ∧ n = 0) ∨ (k = 2 ∧ n = 0) ∨ (k = 3 ∧ n = 1) ∨ (k = 4 ∧ n = 1) ∨ (k = 5 ∧ n = 0)) : Calls Tryd.prog 21 #[.int .i64 k] w fun e w' => e = .returned (.int .i64 n) ∧ w = w' := by
  rcases h with ⟨rfl, rfl⟩ | ⟨rfl, rfl⟩ | ⟨rfl, rfl⟩ | ⟨rfl, rfl⟩ | ⟨rfl, rfl⟩ | ⟨rfl, rfl⟩
  all_goals
    go_enter Tryd.func21, Tryd.ntmps21
    go_wp2
    go_ret
    exact ⟨rfl, rfl⟩
theorem high_lit (k : Int) (n : Int) (w : World) (h : (k = 0 ∧ n = 59) ∨ (k = 1 ∧ n = 59) ∨ (k = 2 ∧ n = 23) ∨ (k = 3 ∧ n = 31) ∨ (k = 4 ∧ n = 12) ∨ (k = 5 ∧ n = 6)) : Calls Tryd.prog 22 #[.int .i64 k] w fun e w' => e = .returned (.int .i64 n) ∧ w = w' := by
  rcases h with ⟨rfl, rfl⟩ | ⟨rfl, rfl⟩ | ⟨rfl, rfl⟩ | ⟨rfl, rfl⟩ | ⟨rfl, rfl⟩ | ⟨rfl, rfl⟩
  all_goals
    go_enter Tryd.func22, Tryd.ntmps22
    go_wp2
    go_ret
    exact ⟨rfl, rfl⟩
theorem low_any (k : Nat) (hk : k ≤ 5) (w : World) : Calls Tryd.prog 21 #[.int .i64 (k : Int)] w fun e w' => e = .returned (.int .i64 ((M.bdOf k).mn : Int)) ∧ w = w' := by
  refine low_lit _ _ w ?_
  rcases k with _ | _ | _ | _ | _ | _ | k
  all_goals first | omega | (simp [M.bdOf]; done) | (simp [M.bdOf]; omega)
theorem high_any (k : Nat) (hk : k ≤ 5) (w : World) : Calls Tryd.prog 22 #[.int .i64 (k : Int)] w fun e w' => e = .returned (.int .i64 ((M.bdOf k).mx : Int)) ∧ w = w' := by
  refine high_lit _ _ w ?_
  rcases k with _ | _ | _ | _ | _ | _ | k
  all_goals first | omega | (simp [M.bdOf]; done) | (simp [M.bdOf]; omega)
namespace M
def sstep (l : Bs) : Nat × Nat := if (snum l).2 = 0 ∨ (snum l).1 = 0 then (0, 0) else if (snum l).1 = 1099511627776 then (0, 2) else snum l
theorem sstep_fine {l : Bs} (h : (sstep l).2 = 1) : digits l = true ∧ num l = some (sstep l).1 ∧ 0 < (sstep l).1 ∧ (sstep l).1 < 1099511627776 := by
  unfold sstep at *
  split at h
  · cases h
  · rename_i h1
    split at h
    · cases h
    · rename_i h2
      rw [if_neg h1, if_neg h2]
      obtain ⟨hd, ho⟩ := snum_fine h
      have e : (snum l).1 = min (val l) huge := by
        unfold snum
        rw [ho]
        simp only [Bool.false_eq_true, if_false]
        rw [hd]
        rfl
      have hlt : val l < 1099511627776 := by
        rw [e] at h2
        unfold huge at h2
        omega
      have e2 : (snum l).1 = val l := by rw [e]; unfold huge; omega
      refine ⟨hd, by rw [num_digits hd (by omega), e2], ?_, by omega⟩
      omega
end M
theorem step_any (s : ByteArray) (w : World) (hs : s.size ≤ 140737488351232) (v : Int) (hv : Hid (((M.sstep (M.bs s)).2 : Int) = v)) (n : Int) (hn : Hid (((M.sstep (M.bs s)).1 : Int) = n)) :
    Calls Tryd.prog 28 #[.string s] w fun e w' => e = .returned (.tuple #[.int .i64 n, .int .i64 v]) ∧ w = w' := by
  obtain ⟨a, ha⟩ : ∃ a : Nat, (M.snum (M.bs s)).1 = a := ⟨_, rfl⟩
  obtain ⟨c, hc⟩ : ∃ c : Nat, (M.snum (M.bs s)).2 = c := ⟨_, rfl⟩
  have HC : ∀ w : World, Calls Tryd.prog 42 #[.string s] w fun e w' => e = .returned (.tuple #[.int .i64 (a : Int), .int .i64 (c : Int)]) ∧ w = w' := fun w =>
    (specNumber_any s w hs).mono fun e w' ⟨he, hw⟩ => ⟨by rw [he, ha, hc], hw.symm⟩
  have HCC := Lib.hid HC
  have HV := Lib.hid hv.out
  have HS : Hid (M.sstep (M.bs s) = if c = 0 ∨ a = 0 then (0, 0) else if a = 1099511627776 then (0, 2) else (a, c)) := Lib.hid (by
    unfold M.sstep
    rw [ha, hc]
    split
    · rfl
    · split
      · rfl
      · rw [← ha, ← hc])
  clear HC ha hc
  by_cases c0 : c = 0
  · have H0 := Lib.hid (show M.sstep (M.bs s) = (0, 0) by rw [HS.out, if_pos (.inl c0)])
    have x0 : ((c : Int) == 0) = true := by rw [beq_iff_eq]; omega
    clear c0
    go_enter Tryd.func28, Tryd.ntmps28
    go_wp2_with (go_at_call 42; (with_reducible refine (HCC.out _).mono ?_); rintro e w1 ⟨rfl, rfl⟩)
    go_ret2
    exact ⟨by rw [← hn.out, ← hv.out, H0.out]; rfl, rfl⟩
  have x0 : ((c : Int) == 0) = false := by rw [beq_eq_false_iff_ne]; omega
  by_cases a0 : a = 0
  · have H0 := Lib.hid (show M.sstep (M.bs s) = (0, 0) by rw [HS.out, if_pos (.inr a0)])
    have y0 : ((a : Int) == 0) = true := by rw [beq_iff_eq]; omega
    clear c0 a0
    go_enter Tryd.func28, Tryd.ntmps28
    go_wp2_with (go_at_call 42; (with_reducible refine (HCC.out _).mono ?_); rintro e w1 ⟨rfl, rfl⟩)
    go_ret2
    exact ⟨by rw [← hn.out, ← hv.out, H0.out]; rfl, rfl⟩
  have y0 : ((a : Int) == 0) = false := by rw [beq_eq_false_iff_ne]; omega
  by_cases a1 : a = 1099511627776
  · have H0 := Lib.hid (show M.sstep (M.bs s) = (0, 2) by rw [HS.out, if_neg (fun h => h.elim c0 a0), if_pos a1])
    have y1 : ((a : Int) == 1099511627776) = true := by rw [beq_iff_eq]; omega
    clear c0 a0 a1
    go_enter Tryd.func28, Tryd.ntmps28
    go_wp2_with (go_at_call 42; (with_reducible refine (HCC.out _).mono ?_); rintro e w1 ⟨rfl, rfl⟩)
    go_ret2
    exact ⟨by rw [← hn.out, ← hv.out, H0.out]; rfl, rfl⟩
  · have H0 := Lib.hid (show M.sstep (M.bs s) = (a, c) by rw [HS.out, if_neg (fun h => h.elim c0 a0), if_neg a1])
    have y1 : ((a : Int) == 1099511627776) = false := by rw [beq_eq_false_iff_ne]; omega
    clear c0 a0 a1
    go_enter Tryd.func28, Tryd.ntmps28
    go_wp2_with (go_at_call 42; (with_reducible refine (HCC.out _).mono ?_); rintro e w1 ⟨rfl, rfl⟩)
    go_ret2
    exact ⟨by rw [← hn.out, ← hv.out, H0.out]; rfl, rfl⟩
end Go.Proofs.YtjipjhpehfbpkaaDoor
