/-
  spec.CompareNumbers.
-/
import Derived.Test.YtopaileliohpdaaDoorSpecCmp
namespace Go.Proofs.YtopaileliohpdaaDoor
open Go.RowKit
set_option maxRecDepth 100000
set_option linter.unusedVariables false

def V.numsFrom (x y : V) : Nat → Int
  | 0 => x.nums3 y
  | 1 => if M.seg x.b y.b ≠ 0 then M.seg x.b y.b else M.seg x.c y.c
  | 2 => M.seg x.c y.c
  | _ => 0
def V.num (x : V) : Nat → Nat
  | 0 => x.a
  | 1 => x.b
  | _ => x.c
theorem numsFrom_step (x y : V) : ∀ k, k < 3 → x.numsFrom y k = if M.seg (x.num k) (y.num k) ≠ 0 then M.seg (x.num k) (y.num k) else x.numsFrom y (k + 1)
  | 0, _ => rfl
  | 1, _ => rfl
  | 2, _ => by
    show M.seg x.c y.c = if M.seg x.c y.c ≠ 0 then M.seg x.c y.c else 0
    by_cases h : M.seg x.c y.c = 0
    · rw [if_neg (by simp [h]), h]
    · rw [if_pos h]

set_option maxHeartbeats 2000000 in
theorem specNumbers_3 (x y : V) (w : World) :
    Calls Tryd.prog 65 #[.agg #[.int .u64 x.a, .int .u64 x.b, .int .u64 x.c, .string x.p, .string x.m], .agg #[.int .u64 y.a, .int .u64 y.b, .int .u64 y.c, .string y.p, .string y.m], .int .i64 3] w fun e w' => e = .returned (.int .i64 (x.nums3 y)) ∧ Below w.heap.size w w' := by
  go_enter Tryd.func65, Tryd.ntmps65
  go_wp2_with fail
  have hX : AtP ((w.alloc (.cells #[.int .u64 x.a, .int .u64 x.b, .int .u64 x.c, .string x.p, .string x.m] 24)).alloc (.cells #[.int .u64 y.a, .int .u64 y.b, .int .u64 y.c, .string y.p, .string y.m] 24)) w.heap.size x := heap_alloc_some (alloc_at _ _ _ rfl)
  have hY : AtP ((w.alloc (.cells #[.int .u64 x.a, .int .u64 x.b, .int .u64 x.c, .string x.p, .string x.m] 24)).alloc (.cells #[.int .u64 y.a, .int .u64 y.b, .int .u64 y.c, .string y.p, .string y.m] 24)) (w.heap.size + 1) y := alloc_at _ _ _ (by simp)
  have hW : Below w.heap.size w ((w.alloc (.cells #[.int .u64 x.a, .int .u64 x.b, .int .u64 x.c, .string x.p, .string x.m] 24)).alloc (.cells #[.int .u64 y.a, .int .u64 y.b, .int .u64 y.c, .string y.p, .string y.m] 24)) := by (repeat (first | exact Below.refl _ _ | apply Below.drew | (apply below_alloc_on (Nat.le_refl _))))
  have hsz : ((w.alloc (.cells #[.int .u64 x.a, .int .u64 x.b, .int .u64 x.c, .string x.p, .string x.m] 24)).alloc (.cells #[.int .u64 y.a, .int .u64 y.b, .int .u64 y.c, .string y.p, .string y.m] 24)).heap.size = w.heap.size + 1 + 1 := by simp
  generalize ((w.alloc (.cells #[.int .u64 x.a, .int .u64 x.b, .int .u64 x.c, .string x.p, .string x.m] 24)).alloc (.cells #[.int .u64 y.a, .int .u64 y.b, .int .u64 y.c, .string y.p, .string y.m] 24)) = W at *
  have HW := Lib.hid hW
  obtain ⟨c0, c1, c2, c3, c4⟩ := hX.cells
  obtain ⟨d0, d1, d2, d3, d4⟩ := hY.cells
  clear hX hY hW
  first
    | (go_region_held3 (fun w' => w'.cell? ⟨w.heap.size, 0, none⟩ = some (.int .u64 x.a) ∧ w'.cell? ⟨w.heap.size, 1, none⟩ = some (.int .u64 x.b) ∧ w'.cell? ⟨w.heap.size, 2, none⟩ = some (.int .u64 x.c) ∧ w'.cell? ⟨w.heap.size, 3, none⟩ = some (.string x.p) ∧ w'.cell? ⟨w.heap.size, 4, none⟩ = some (.string x.m) ∧ w'.cell? ⟨w.heap.size + 1, 0, none⟩ = some (.int .u64 y.a) ∧ w'.cell? ⟨w.heap.size + 1, 1, none⟩ = some (.int .u64 y.b) ∧ w'.cell? ⟨w.heap.size + 1, 2, none⟩ = some (.int .u64 y.c) ∧ w'.cell? ⟨w.heap.size + 1, 3, none⟩ = some (.string y.p) ∧ w'.cell? ⟨w.heap.size + 1, 4, none⟩ = some (.string y.m)) (first | (refine ⟨?_, ?_, ?_, ?_, ?_, ?_, ?_, ?_, ?_, ?_⟩ <;> (repeat (first | with_reducible assumption | with_reducible apply cell_alloc_some | with_reducible apply cell_drew_some | with_reducible refine cell_below (by with_reducible assumption) ?_ | with_reducible refine cell_set_other (by omega) ?_))) | fail) (first | fail))
    | fail
  all_goals have HSZ := Lib.hid hsz
  all_goals clear hsz c0 c1 c2 c3 c4 d0 d1 d2 d3 d4
  all_goals go_wp2_with fail
  all_goals have hsz := HSZ.out
  all_goals first
    | (change Code.wp _ _ _ _ ((W.alloc (.cells #[.int .u64 y.a, .int .u64 y.b, .int .u64 y.c] 51)).alloc (.cells #[.int .u64 x.a, .int .u64 x.b, .int .u64 x.c] 51)).drew
       have hx7 : ((W.alloc (.cells #[.int .u64 y.a, .int .u64 y.b, .int .u64 y.c] 51)).alloc (.cells #[.int .u64 x.a, .int .u64 x.b, .int .u64 x.c] 51)).drew.heap[(w.heap.size + 1 + 1 + 1)]? = some (.cells #[.int .u64 x.a, .int .u64 x.b, .int .u64 x.c] 51 (0, 0)) := heap_drew_some (alloc_at _ _ _ (by simp; omega))
       have hy8 : ((W.alloc (.cells #[.int .u64 y.a, .int .u64 y.b, .int .u64 y.c] 51)).alloc (.cells #[.int .u64 x.a, .int .u64 x.b, .int .u64 x.c] 51)).drew.heap[(w.heap.size + 1 + 1)]? = some (.cells #[.int .u64 y.a, .int .u64 y.b, .int .u64 y.c] 51 (0, 0)) := heap_drew_some (heap_alloc_some (alloc_at _ _ _ (by omega)))
       have hB2 : Below W.heap.size W ((W.alloc (.cells #[.int .u64 y.a, .int .u64 y.b, .int .u64 y.c] 51)).alloc (.cells #[.int .u64 x.a, .int .u64 x.b, .int .u64 x.c] 51)).drew := by (repeat (first | exact Below.refl _ _ | apply Below.drew | (apply below_alloc_on (Nat.le_refl _))))
       generalize ((W.alloc (.cells #[.int .u64 y.a, .int .u64 y.b, .int .u64 y.c] 51)).alloc (.cells #[.int .u64 x.a, .int .u64 x.b, .int .u64 x.c] 51)).drew = W2 at *
       generalize (w.heap.size + 1 + 1 + 1) = n7 at *
       generalize (w.heap.size + 1 + 1) = n8 at *)
    | (change Code.wp _ _ _ _ ((W.alloc (.cells #[.int .u64 x.a, .int .u64 x.b, .int .u64 x.c] 51)).alloc (.cells #[.int .u64 y.a, .int .u64 y.b, .int .u64 y.c] 51)).drew
       have hx7 : ((W.alloc (.cells #[.int .u64 x.a, .int .u64 x.b, .int .u64 x.c] 51)).alloc (.cells #[.int .u64 y.a, .int .u64 y.b, .int .u64 y.c] 51)).drew.heap[(w.heap.size + 1 + 1)]? = some (.cells #[.int .u64 x.a, .int .u64 x.b, .int .u64 x.c] 51 (0, 0)) := heap_drew_some (heap_alloc_some (alloc_at _ _ _ (by omega)))
       have hy8 : ((W.alloc (.cells #[.int .u64 x.a, .int .u64 x.b, .int .u64 x.c] 51)).alloc (.cells #[.int .u64 y.a, .int .u64 y.b, .int .u64 y.c] 51)).drew.heap[(w.heap.size + 1 + 1 + 1)]? = some (.cells #[.int .u64 y.a, .int .u64 y.b, .int .u64 y.c] 51 (0, 0)) := heap_drew_some (alloc_at _ _ _ (by simp; omega))
       have hB2 : Below W.heap.size W ((W.alloc (.cells #[.int .u64 x.a, .int .u64 x.b, .int .u64 x.c] 51)).alloc (.cells #[.int .u64 y.a, .int .u64 y.b, .int .u64 y.c] 51)).drew := by (repeat (first | exact Below.refl _ _ | apply Below.drew | (apply below_alloc_on (Nat.le_refl _))))
       generalize ((W.alloc (.cells #[.int .u64 x.a, .int .u64 x.b, .int .u64 x.c] 51)).alloc (.cells #[.int .u64 y.a, .int .u64 y.b, .int .u64 y.c] 51)).drew = W2 at *
       generalize (w.heap.size + 1 + 1 + 1) = n8 at *
       generalize (w.heap.size + 1 + 1) = n7 at *)
  all_goals
    have P : ∀ k : Nat, k < 3 → W2.cell? ⟨n7, k, none⟩ = some (.int .u64 (x.num k)) := fun k hk => by
      rw [cell_of_row W2 _ _ _ _ _ hx7]
      obtain rfl | rfl | rfl : k = 0 ∨ k = 1 ∨ k = 2 := by omega
      all_goals rfl
    have Q : ∀ k : Nat, k < 3 → W2.cell? ⟨n8, k, none⟩ = some (.int .u64 (y.num k)) := fun k hk => by
      rw [cell_of_row W2 _ _ _ _ _ hy8]
      obtain rfl | rfl | rfl : k = 0 ∨ k = 1 ∨ k = 2 := by omega
      all_goals rfl
    have l7 : n7 < W2.heap.size := Sent.cell_lt (P 0 (by omega))
    have l8 : n8 < W2.heap.size := Sent.cell_lt (Q 0 (by omega))
    have HP := Lib.hid P
    have HQ := Lib.hid Q
    have HB := Lib.hid (Below.up HW.out hB2)
    have L7 := Lib.hid l7
    have L8 := Lib.hid l8
    clear P Q hx7 hy8 hB2 HSZ hsz l7 l8
    go_loopw [9] (fun i wr => ∃ k : Nat, k ≤ 3 ∧ i = .int .i64 k ∧ Hid (x.nums3 y = x.numsFrom y k) ∧ Hid (Below W2.heap.size W2 wr)) (fun i _ => 3 - (intOf i).toNat)
    case atStart => exact ⟨0, Nat.zero_le _, rfl, Lib.hid rfl, Lib.hid (Below.refl _ _)⟩
    case round =>
      obtain ⟨k, hk, rfl, HA, HR⟩ := hrel
      rcases Nat.lt_or_ge k 3 with hlt | hlt
      · have e7 : wr.cell? ⟨n7, k, none⟩ = some (.int .u64 (x.num k)) := (HR.out.cell (p := ⟨n7, k, none⟩) L7.out).trans (HP.out k hlt)
        have e8 : wr.cell? ⟨n8, k, none⟩ = some (.int .u64 (y.num k)) := (HR.out.cell (p := ⟨n8, k, none⟩) L8.out).trans (HQ.out k hlt)
        have hs := numsFrom_step x y k hlt
        obtain ⟨r, hr⟩ : ∃ r, M.seg (x.num k) (y.num k) = r := ⟨_, rfl⟩
        rw [hr] at hs
        have HO := Lib.hid hr
        clear hr
        have HS := Lib.hid hs
        clear hs
        by_cases h0 : r = 0
        · subst h0
          go_wp2_with fail
          first
            | (go_region_held3 (fun w' => w'.cell? ⟨n7, k, none⟩ = some (.int .u64 (x.num k)) ∧ w'.cell? ⟨n8, k, none⟩ = some (.int .u64 (y.num k))) (first | exact ⟨by assumption, by assumption⟩ | exact ⟨cell_drew_some (by assumption), cell_drew_some (by assumption)⟩ | fail) (first
                | (go_at_call 50; (with_reducible refine (order_is _ _ 0 _ HO).mono ?_); rintro e w' ⟨rfl, rfl⟩)
                | fail))
            | fail
          go_wp2
          go_roundw
          case rel => exact ⟨k + 1, hlt, by go_num, Lib.hid (by rw [HA.out, HS.out, if_neg (by simp)]), Lib.hid HR.out.drew⟩
          case measure => simp [intOf]; omega
        · have HQ0 := Lib.hid (show x.nums3 y = r by rw [HA.out, HS.out, if_pos h0])
          go_wp2_with fail
          first
            | (go_region_held3 (fun w' => w'.cell? ⟨n7, k, none⟩ = some (.int .u64 (x.num k)) ∧ w'.cell? ⟨n8, k, none⟩ = some (.int .u64 (y.num k))) (first | exact ⟨by assumption, by assumption⟩ | exact ⟨cell_drew_some (by assumption), cell_drew_some (by assumption)⟩ | fail) (first
                | (go_at_call 50; (with_reducible refine (order_is _ _ r _ HO).mono ?_); rintro e w' ⟨rfl, rfl⟩)
                | fail))
            | fail
          go_wp2
          go_ret
          exact ⟨ret_int HQ0.out.symm, Below.up HB.out HR.out.drew⟩
      · have HK := Lib.hid (show k = 3 by omega)
        go_wp2
        go_ret
        refine ⟨ret_int ?_, Below.up HB.out HR.out⟩
        have h1 := HA.out
        rw [HK.out] at h1
        exact h1.symm
end Go.Proofs.YtopaileliohpdaaDoor
