/-
  spec.CompareNumbers at any number of numbers (at most three).
-/
import Derived.Test.YtopaileliohpdaaDoorSpecVer
namespace Go.Proofs.YtopaileliohpdaaDoor
open Go.RowKit
set_option maxRecDepth 100000
set_option linter.unusedVariables false

/-- the first k numbers compared, with r rounds left -/
def V.nk (x y : V) (k : Nat) : Nat → Int
  | 0 => 0
  | r + 1 => if 2 - r < k then (if M.seg (x.num (2 - r)) (y.num (2 - r)) ≠ 0 then M.seg (x.num (2 - r)) (y.num (2 - r)) else V.nk x y k r) else 0
def V.numsK (x y : V) (k : Nat) : Int := V.nk x y k 3
theorem nk_step (x y : V) (k i : Nat) (hk : k ≤ 3) (h : i < k) : V.nk x y k (3 - i) = if M.seg (x.num i) (y.num i) ≠ 0 then M.seg (x.num i) (y.num i) else V.nk x y k (3 - (i + 1)) := by
  have e : 3 - i = (2 - i) + 1 := by omega
  rw [e, V.nk]
  have e2 : 2 - (2 - i) = i := by omega
  rw [e2, if_pos h, show 3 - (i + 1) = 2 - i by omega]
theorem nk_end (x y : V) (k : Nat) (hk : k ≤ 3) : V.nk x y k (3 - k) = 0 := by
  obtain rfl | rfl | rfl | rfl : k = 0 ∨ k = 1 ∨ k = 2 ∨ k = 3 := by omega
  all_goals simp [V.nk]
theorem numsK_3 (x y : V) : x.numsK y 3 = x.nums3 y := by
  unfold V.numsK V.nums3
  simp only [V.nk, V.num]
  by_cases h1 : M.seg x.a y.a = 0 <;> by_cases h2 : M.seg x.b y.b = 0 <;> by_cases h3 : M.seg x.c y.c = 0 <;> simp [h1, h2, h3]

set_option maxHeartbeats 2000000 in
theorem specNumbers_k (x y : V) (k : Nat) (w : World) (hk3 : k ≤ 3) :
    Calls Tryd.prog 65 #[.agg #[.int .u64 x.a, .int .u64 x.b, .int .u64 x.c, .string x.p, .string x.m], .agg #[.int .u64 y.a, .int .u64 y.b, .int .u64 y.c, .string y.p, .string y.m], .int .i64 k] w fun e w' => e = .returned (.int .i64 (x.numsK y k)) ∧ Below w.heap.size w w' := by
  go_enter Tryd.func65, Tryd.ntmps65
  go_wp2_with fail
  have hX : AtP ((w.alloc (.cells #[.int .u64 x.a, .int .u64 x.b, .int .u64 x.c, .string x.p, .string x.m] 24)).alloc (.cells #[.int .u64 y.a, .int .u64 y.b, .int .u64 y.c, .string y.p, .string y.m] 24)) w.heap.size x := heap_alloc_some (alloc_at _ _ _ rfl)
  have hY : AtP ((w.alloc (.cells #[.int .u64 x.a, .int .u64 x.b, .int .u64 x.c, .string x.p, .string x.m] 24)).alloc (.cells #[.int .u64 y.a, .int .u64 y.b, .int .u64 y.c, .string y.p, .string y.m] 24)) (w.heap.size + 1) y := alloc_at _ _ _ (by simp)
  have hW : Below w.heap.size w ((w.alloc (.cells #[.int .u64 x.a, .int .u64 x.b, .int .u64 x.c, .string x.p, .string x.m] 24)).alloc (.cells #[.int .u64 y.a, .int .u64 y.b, .int .u64 y.c, .string y.p, .string y.m] 24)) := by (repeat (first | exact Below.refl _ _ | apply Below.drew | (apply below_alloc_on (Nat.le_refl _))))
  have hsz : ((w.alloc (.cells #[.int .u64 x.a, .int .u64 x.b, .int .u64 x.c, .string x.p, .string x.m] 24)).alloc (.cells #[.int .u64 y.a, .int .u64 y.b, .int .u64 y.c, .string y.p, .string y.m] 24)).heap.size = w.heap.size + 1 + 1 := by simp
  generalize ((w.alloc (.cells #[.int .u64 x.a, .int .u64 x.b, .int .u64 x.c, .string x.p, .string x.m] 24)).alloc (.cells #[.int .u64 y.a, .int .u64 y.b, .int .u64 y.c, .string y.p, .string y.m] 24)) = W at *
  have HW := Lib.hid hW
  obtain ⟨c0, c1, c2, c3, c4⟩ := hX.cells
  obtain ⟨d0, d1, d2, d3, d4⟩ := hY.cells
  clear hX hY hW
  first
    | (go_region_held3 (fun w' => w'.cell? ⟨w.heap.size, 0, none⟩ = some (.int .u64 x.a) ∧ w'.cell? ⟨w.heap.size, 1, none⟩ = some (.int .u64 x.b) ∧ w'.cell? ⟨w.heap.size, 2, none⟩ = some (.int .u64 x.c) ∧ w'.cell? ⟨w.heap.size, 3, none⟩ = some (.string x.p) ∧ w'.cell? ⟨w.heap.size, 4, none⟩ = some (.string x.m) ∧ w'.cell? ⟨w.heap.size + 1, 0, none⟩ = some (.int .u64 y.a) ∧ w'.cell? ⟨w.heap.size + 1, 1, none⟩ = some (.int .u64 y.b) ∧ w'.cell? ⟨w.heap.size + 1, 2, none⟩ = some (.int .u64 y.c) ∧ w'.cell? ⟨w.heap.size + 1, 3, none⟩ = some (.string y.p) ∧ w'.cell? ⟨w.heap.size + 1, 4, none⟩ = some (.string y.m)) (first | (refine ⟨?_, ?_, ?_, ?_, ?_, ?_, ?_, ?_, ?_, ?_⟩ <;> (repeat (first | with_reducible assumption | with_reducible apply cell_alloc_some | with_reducible apply cell_drew_some | with_reducible refine cell_below (by with_reducible assumption) ?_ | with_reducible refine cell_set_other (by omega) ?_))) | fail) (first | fail))
    | fail
  all_goals have HSZ := Lib.hid hsz
  all_goals clear hsz c0 c1 c2 c3 c4 d0 d1 d2 d3 d4
  all_goals go_wp2_with fail
  all_goals have hsz := HSZ.out
  all_goals first
    | (change Code.wp _ _ _ _ ((W.alloc (.cells #[.int .u64 y.a, .int .u64 y.b, .int .u64 y.c] 51)).alloc (.cells #[.int .u64 x.a, .int .u64 x.b, .int .u64 x.c] 51)).drew
       have hx7 : ((W.alloc (.cells #[.int .u64 y.a, .int .u64 y.b, .int .u64 y.c] 51)).alloc (.cells #[.int .u64 x.a, .int .u64 x.b, .int .u64 x.c] 51)).drew.heap[(w.heap.size + 1 + 1 + 1)]? = some (.cells #[.int .u64 x.a, .int .u64 x.b, .int .u64 x.c] 51 (0, 0)) := heap_drew_some (alloc_at _ _ _ (by simp; omega))
       have hy8 : ((W.alloc (.cells #[.int .u64 y.a, .int .u64 y.b, .int .u64 y.c] 51)).alloc (.cells #[.int .u64 x.a, .int .u64 x.b, .int .u64 x.c] 51)).drew.heap[(w.heap.size + 1 + 1)]? = some (.cells #[.int .u64 y.a, .int .u64 y.b, .int .u64 y.c] 51 (0, 0)) := heap_drew_some (heap_alloc_some (alloc_at _ _ _ (by omega)))
       have hB2 : Below W.heap.size W ((W.alloc (.cells #[.int .u64 y.a, .int .u64 y.b, .int .u64 y.c] 51)).alloc (.cells #[.int .u64 x.a, .int .u64 x.b, .int .u64 x.c] 51)).drew := by (repeat (first | exact Below.refl _ _ | apply Below.drew | (apply below_alloc_on (Nat.le_refl _))))
       generalize ((W.alloc (.cells #[.int .u64 y.a, .int .u64 y.b, .int .u64 y.c] 51)).alloc (.cells #[.int .u64 x.a, .int .u64 x.b, .int .u64 x.c] 51)).drew = W2 at *
       generalize (w.heap.size + 1 + 1 + 1) = n7 at *
       generalize (w.heap.size + 1 + 1) = n8 at *)
    | (change Code.wp _ _ _ _ ((W.alloc (.cells #[.int .u64 x.a, .int .u64 x.b, .int .u64 x.c] 51)).alloc (.cells #[.int .u64 y.a, .int .u64 y.b, .int .u64 y.c] 51)).drew
       have hx7 : ((W.alloc (.cells #[.int .u64 x.a, .int .u64 x.b, .int .u64 x.c] 51)).alloc (.cells #[.int .u64 y.a, .int .u64 y.b, .int .u64 y.c] 51)).drew.heap[(w.heap.size + 1 + 1)]? = some (.cells #[.int .u64 x.a, .int .u64 x.b, .int .u64 x.c] 51 (0, 0)) := heap_drew_some (heap_alloc_some (alloc_at _ _ _ (by omega)))
       have hy8 : ((W.alloc (.cells #[.int .u64 x.a, .int .u64 x.b, .int .u64 x.c] 51)).alloc (.cells #[.int .u64 y.a, .int .u64 y.b, .int .u64 y.c] 51)).drew.heap[(w.heap.size + 1 + 1 + 1)]? = some (.cells #[.int .u64 y.a, .int .u64 y.b, .int .u64 y.c] 51 (0, 0)) := heap_drew_some (alloc_at _ _ _ (by simp; omega))
       have hB2 : Below W.heap.size W ((W.alloc (.cells #[.int .u64 x.a, .int .u64 x.b, .int .u64 x.c] 51)).alloc (.cells #[.int .u64 y.a, .int .u64 y.b, .int .u64 y.c] 51)).drew := by (repeat (first | exact Below.refl _ _ | apply Below.drew | (apply below_alloc_on (Nat.le_refl _))))
       generalize ((W.alloc (.cells #[.int .u64 x.a, .int .u64 x.b, .int .u64 x.c] 51)).alloc (.cells #[.int .u64 y.a, .int .u64 y.b, .int .u64 y.c] 51)).drew = W2 at *
       generalize (w.heap.size + 1 + 1 + 1) = n8 at *
       generalize (w.heap.size + 1 + 1) = n7 at *)
  all_goals
    have P : ∀ k : Nat, k < 3 → W2.cell? ⟨n7, k, none⟩ = some (.int .u64 (x.num k)) := fun k hk => by
      rw [cell_of_row W2 _ _ _ _ _ hx7]
      obtain rfl | rfl | rfl : k = 0 ∨ k = 1 ∨ k = 2 := by omega
      all_goals rfl
    have Q : ∀ k : Nat, k < 3 → W2.cell? ⟨n8, k, none⟩ = some (.int .u64 (y.num k)) := fun k hk => by
      rw [cell_of_row W2 _ _ _ _ _ hy8]
      obtain rfl | rfl | rfl : k = 0 ∨ k = 1 ∨ k = 2 := by omega
      all_goals rfl
    have l7 : n7 < W2.heap.size := Sent.cell_lt (P 0 (by omega))
    have l8 : n8 < W2.heap.size := Sent.cell_lt (Q 0 (by omega))
    have HP := Lib.hid P
    have HQ := Lib.hid Q
    have HB := Lib.hid (Below.up HW.out hB2)
    have L7 := Lib.hid l7
    have L8 := Lib.hid l8
    clear P Q hx7 hy8 hB2 HSZ hsz l7 l8
    go_loopw [9] (fun i wr => ∃ j : Nat, j ≤ k ∧ i = .int .i64 j ∧ Hid (x.numsK y k = V.nk x y k (3 - j)) ∧ Hid (Below W2.heap.size W2 wr)) (fun i _ => k - (intOf i).toNat)
    case atStart => exact ⟨0, Nat.zero_le _, rfl, Lib.hid rfl, Lib.hid (Below.refl _ _)⟩
    case round =>
      obtain ⟨j, hk, rfl, HA, HR⟩ := hrel
      rcases Nat.lt_or_ge j k with hlt | hlt
      · have hl3 : j < 3 := by omega
        have e7 : wr.cell? ⟨n7, j, none⟩ = some (.int .u64 (x.num j)) := (HR.out.cell (p := ⟨n7, j, none⟩) L7.out).trans (HP.out j hl3)
        have e8 : wr.cell? ⟨n8, j, none⟩ = some (.int .u64 (y.num j)) := (HR.out.cell (p := ⟨n8, j, none⟩) L8.out).trans (HQ.out j hl3)
        have hs := nk_step x y k j hk3 hlt
        obtain ⟨r, hr⟩ : ∃ r, M.seg (x.num j) (y.num j) = r := ⟨_, rfl⟩
        rw [hr] at hs
        have HO := Lib.hid hr
        clear hr
        have HS := Lib.hid hs
        clear hs
        by_cases h0 : r = 0
        · subst h0
          go_wp2_with fail
          first
            | (go_region_held3 (fun w' => w'.cell? ⟨n7, j, none⟩ = some (.int .u64 (x.num j)) ∧ w'.cell? ⟨n8, j, none⟩ = some (.int .u64 (y.num j))) (first | exact ⟨by assumption, by assumption⟩ | exact ⟨cell_drew_some (by assumption), cell_drew_some (by assumption)⟩ | fail) (first
                | (go_at_call 50; (with_reducible refine (order_is _ _ 0 _ HO).mono ?_); rintro e w' ⟨rfl, rfl⟩)
                | fail))
            | fail
          go_wp2
          go_roundw
          case rel => exact ⟨j + 1, hlt, by go_num, Lib.hid (by rw [HA.out, HS.out, if_neg (by simp)]), Lib.hid HR.out.drew⟩
          case measure => simp [intOf]; omega
        · have HQ0 := Lib.hid (show x.numsK y k = r by rw [HA.out, HS.out, if_pos h0])
          go_wp2_with fail
          first
            | (go_region_held3 (fun w' => w'.cell? ⟨n7, j, none⟩ = some (.int .u64 (x.num j)) ∧ w'.cell? ⟨n8, j, none⟩ = some (.int .u64 (y.num j))) (first | exact ⟨by assumption, by assumption⟩ | exact ⟨cell_drew_some (by assumption), cell_drew_some (by assumption)⟩ | fail) (first
                | (go_at_call 50; (with_reducible refine (order_is _ _ r _ HO).mono ?_); rintro e w' ⟨rfl, rfl⟩)
                | fail))
            | fail
          go_wp2
          go_ret
          exact ⟨ret_int HQ0.out.symm, Below.up HB.out HR.out.drew⟩
      · have HK := Lib.hid (show j = k by omega)
        go_wp2
        go_ret
        refine ⟨ret_int ?_, Below.up HB.out HR.out⟩
        have h1 := HA.out
        rw [HK.out, nk_end x y k hk3] at h1
        exact h1.symm
theorem specNumbers_kx (x y : V) (k : Int) (j : Nat) (r : Int) (w : World) (hk : k = j) (hj : j ≤ 3) (hr : Hid (x.numsK y j = r)) :
    Calls Tryd.prog 65 #[.agg #[.int .u64 x.a, .int .u64 x.b, .int .u64 x.c, .string x.p, .string x.m], .agg #[.int .u64 y.a, .int .u64 y.b, .int .u64 y.c, .string y.p, .string y.m], .int .i64 k] w fun e w' => e = .returned (.int .i64 r) ∧ Below w.heap.size w w' := by
  subst hk
  have := specNumbers_k x y j w hj
  rw [hr.out] at this
  exact this
end Go.Proofs.YtopaileliohpdaaDoor
