/-
  constraintGreaterThan at terms with numbers missing, ZZAbove, impl.AboveHolds, over releases.
-/
import Derived.Test.YtopaileliohpdaaDoorStTerm
namespace Go.Proofs.YtopaileliohpdaaDoor
open Go.RowKit
set_option maxRecDepth 100000
set_option linter.unusedVariables false

theorem major_x (x : V) (o : ByteArray) (w : World) : Calls Tryd.prog 73 #[.agg #[.int .u64 x.a, .int .u64 x.b, .int .u64 x.c, .string x.p, .string x.m, .string o]] w fun e w' => e = .returned (.int .u64 x.a) ∧ w' = w.alloc (x.cells o) := major_any x o w
theorem minor_x (x : V) (o : ByteArray) (w : World) : Calls Tryd.prog 74 #[.agg #[.int .u64 x.a, .int .u64 x.b, .int .u64 x.c, .string x.p, .string x.m, .string o]] w fun e w' => e = .returned (.int .u64 x.b) ∧ w' = w.alloc (x.cells o) := minor_any x o w

set_option maxHeartbeats 2000000 in
theorem above1_t (x y : V) (o o' s : ByteArray) (N K M' : Nat) (w : World) (hx : AtV w N x o) (hy : AtV w M' y o') (hk : w.heap[K]? = some (.cells #[.pointer (some ⟨M', 0, none⟩), .string ⟨#[]⟩, .string s, .bool true, .bool true, .bool false] 102 (0, 0))) (hp : x.p.toList = []) (h1 : (y.a : Int) < x.a) :
    Calls Tryd.prog 86 #[.pointer (some ⟨N, 0, none⟩), .pointer (some ⟨K, 0, none⟩), .bool false] w fun e w' => (∃ ev, e = .returned (.tuple #[.bool true, ev])) ∧ Below w.heap.size w w' := by
  obtain ⟨c0, c1, c2, c3, c4, c5⟩ := hx.cells
  obtain ⟨d0, d1, d2, d3, d4, d5⟩ := hy.cells
  have k0 : w.cell? ⟨K, 0, none⟩ = some (.pointer (some ⟨M', 0, none⟩)) := by rw [cell_of_row w K _ _ _ _ hk]; rfl
  have k3 : w.cell? ⟨K, 3, none⟩ = some (.bool true) := by rw [cell_of_row w K _ _ _ _ hk]; rfl
  have k4 : w.cell? ⟨K, 4, none⟩ = some (.bool true) := by rw [cell_of_row w K _ _ _ _ hk]; rfl
  have k5 : w.cell? ⟨K, 5, none⟩ = some (.bool false) := by rw [cell_of_row w K _ _ _ _ hk]; rfl
  clear hx hy hk
  go_enter Tryd.func86, Tryd.ntmps86
  go_wp2_with (go_at_call 76; refine (prerelease_any x o _).mono ?_; rintro e w1 ⟨rfl, hw1⟩; have HB1 := Lib.hid (show Below w.heap.size w w1 by subst hw1; exact below_alloc _ _); have f0 := cell_alloc_some (o := x.cells o) c0; have f1 := cell_alloc_some (o := x.cells o) c1; have f2 := cell_alloc_some (o := x.cells o) c2; have f3 := cell_alloc_some (o := x.cells o) c3; have f4 := cell_alloc_some (o := x.cells o) c4; have f5 := cell_alloc_some (o := x.cells o) c5; have g0 := cell_alloc_some (o := x.cells o) d0; have g1 := cell_alloc_some (o := x.cells o) d1; have g2 := cell_alloc_some (o := x.cells o) d2; have g3 := cell_alloc_some (o := x.cells o) d3; have g4 := cell_alloc_some (o := x.cells o) d4; have g5 := cell_alloc_some (o := x.cells o) d5; have m0 := cell_alloc_some (o := x.cells o) k0; have m3 := cell_alloc_some (o := x.cells o) k3; have m4 := cell_alloc_some (o := x.cells o) k4; have m5 := cell_alloc_some (o := x.cells o) k5; rw [← hw1] at f0 f1 f2 f3 f4 f5 g0 g1 g2 g3 g4 g5 m0 m3 m4 m5; clear hw1 c0 c1 c2 c3 c4 c5 d0 d1 d2 d3 d4 d5 k0 k3 k4 k5)
  go_region_held3 (fun w' => w'.cell? ⟨N, 0, none⟩ = some (.int .u64 x.a) ∧ w'.cell? ⟨N, 1, none⟩ = some (.int .u64 x.b) ∧ w'.cell? ⟨N, 2, none⟩ = some (.int .u64 x.c) ∧ w'.cell? ⟨N, 3, none⟩ = some (.string x.p) ∧ w'.cell? ⟨N, 4, none⟩ = some (.string x.m) ∧ w'.cell? ⟨N, 5, none⟩ = some (.string o) ∧ w'.cell? ⟨M', 0, none⟩ = some (.int .u64 y.a) ∧ w'.cell? ⟨M', 1, none⟩ = some (.int .u64 y.b) ∧ w'.cell? ⟨M', 2, none⟩ = some (.int .u64 y.c) ∧ w'.cell? ⟨M', 3, none⟩ = some (.string y.p) ∧ w'.cell? ⟨M', 4, none⟩ = some (.string y.m) ∧ w'.cell? ⟨M', 5, none⟩ = some (.string o') ∧ w'.cell? ⟨K, 0, none⟩ = some (.pointer (some ⟨M', 0, none⟩)) ∧ w'.cell? ⟨K, 3, none⟩ = some (.bool true) ∧ w'.cell? ⟨K, 4, none⟩ = some (.bool true) ∧ w'.cell? ⟨K, 5, none⟩ = some (.bool false)) (first | (refine ⟨?_, ?_, ?_, ?_, ?_, ?_, ?_, ?_, ?_, ?_, ?_, ?_, ?_, ?_, ?_, ?_⟩ <;> (repeat (first | with_reducible assumption | with_reducible apply cell_alloc_some | with_reducible apply cell_drew_some | with_reducible refine cell_below (by with_reducible assumption) ?_ | with_reducible refine cell_set_other (by omega) ?_))) | fail) (first
    | (go_at_call 73; (with_reducible refine (major_x x o _).mono ?_); rintro e w' ⟨rfl, rfl⟩)
    | (go_at_call 73; (with_reducible refine (major_x y o' _).mono ?_); rintro e w' ⟨rfl, rfl⟩)
    | fail)
  go_wp2
  refine bodyPost_ret (results_tmp2 rfl _ _ _) rfl ?_
  exact ⟨⟨_, rfl⟩, Below.up HB1.out (by (repeat (first | exact Below.refl _ _ | apply Below.drew | (apply below_alloc_on (Nat.le_refl _)))))⟩

set_option maxHeartbeats 2000000 in
theorem above1_l (x y : V) (o o' s : ByteArray) (N K M' : Nat) (w : World) (hx : AtV w N x o) (hy : AtV w M' y o') (hk : w.heap[K]? = some (.cells #[.pointer (some ⟨M', 0, none⟩), .string ⟨#[]⟩, .string s, .bool true, .bool true, .bool false] 102 (0, 0))) (hp : x.p.toList = []) (h1 : ¬ (y.a : Int) < x.a) (h2 : (x.a : Int) < y.a) :
    Calls Tryd.prog 86 #[.pointer (some ⟨N, 0, none⟩), .pointer (some ⟨K, 0, none⟩), .bool false] w fun e w' => (∃ ev, e = .returned (.tuple #[.bool false, ev])) ∧ Below w.heap.size w w' := by
  obtain ⟨c0, c1, c2, c3, c4, c5⟩ := hx.cells
  obtain ⟨d0, d1, d2, d3, d4, d5⟩ := hy.cells
  have k0 : w.cell? ⟨K, 0, none⟩ = some (.pointer (some ⟨M', 0, none⟩)) := by rw [cell_of_row w K _ _ _ _ hk]; rfl
  have k3 : w.cell? ⟨K, 3, none⟩ = some (.bool true) := by rw [cell_of_row w K _ _ _ _ hk]; rfl
  have k4 : w.cell? ⟨K, 4, none⟩ = some (.bool true) := by rw [cell_of_row w K _ _ _ _ hk]; rfl
  have k5 : w.cell? ⟨K, 5, none⟩ = some (.bool false) := by rw [cell_of_row w K _ _ _ _ hk]; rfl
  clear hx hy hk
  go_enter Tryd.func86, Tryd.ntmps86
  go_wp2_with (go_at_call 76; refine (prerelease_any x o _).mono ?_; rintro e w1 ⟨rfl, hw1⟩; have HB1 := Lib.hid (show Below w.heap.size w w1 by subst hw1; exact below_alloc _ _); have f0 := cell_alloc_some (o := x.cells o) c0; have f1 := cell_alloc_some (o := x.cells o) c1; have f2 := cell_alloc_some (o := x.cells o) c2; have f3 := cell_alloc_some (o := x.cells o) c3; have f4 := cell_alloc_some (o := x.cells o) c4; have f5 := cell_alloc_some (o := x.cells o) c5; have g0 := cell_alloc_some (o := x.cells o) d0; have g1 := cell_alloc_some (o := x.cells o) d1; have g2 := cell_alloc_some (o := x.cells o) d2; have g3 := cell_alloc_some (o := x.cells o) d3; have g4 := cell_alloc_some (o := x.cells o) d4; have g5 := cell_alloc_some (o := x.cells o) d5; have m0 := cell_alloc_some (o := x.cells o) k0; have m3 := cell_alloc_some (o := x.cells o) k3; have m4 := cell_alloc_some (o := x.cells o) k4; have m5 := cell_alloc_some (o := x.cells o) k5; rw [← hw1] at f0 f1 f2 f3 f4 f5 g0 g1 g2 g3 g4 g5 m0 m3 m4 m5; clear hw1 c0 c1 c2 c3 c4 c5 d0 d1 d2 d3 d4 d5 k0 k3 k4 k5)
  go_region_held3 (fun w' => w'.cell? ⟨N, 0, none⟩ = some (.int .u64 x.a) ∧ w'.cell? ⟨N, 1, none⟩ = some (.int .u64 x.b) ∧ w'.cell? ⟨N, 2, none⟩ = some (.int .u64 x.c) ∧ w'.cell? ⟨N, 3, none⟩ = some (.string x.p) ∧ w'.cell? ⟨N, 4, none⟩ = some (.string x.m) ∧ w'.cell? ⟨N, 5, none⟩ = some (.string o) ∧ w'.cell? ⟨M', 0, none⟩ = some (.int .u64 y.a) ∧ w'.cell? ⟨M', 1, none⟩ = some (.int .u64 y.b) ∧ w'.cell? ⟨M', 2, none⟩ = some (.int .u64 y.c) ∧ w'.cell? ⟨M', 3, none⟩ = some (.string y.p) ∧ w'.cell? ⟨M', 4, none⟩ = some (.string y.m) ∧ w'.cell? ⟨M', 5, none⟩ = some (.string o') ∧ w'.cell? ⟨K, 0, none⟩ = some (.pointer (some ⟨M', 0, none⟩)) ∧ w'.cell? ⟨K, 3, none⟩ = some (.bool true) ∧ w'.cell? ⟨K, 4, none⟩ = some (.bool true) ∧ w'.cell? ⟨K, 5, none⟩ = some (.bool false)) (first | (refine ⟨?_, ?_, ?_, ?_, ?_, ?_, ?_, ?_, ?_, ?_, ?_, ?_, ?_, ?_, ?_, ?_⟩ <;> (repeat (first | with_reducible assumption | with_reducible apply cell_alloc_some | with_reducible apply cell_drew_some | with_reducible refine cell_below (by with_reducible assumption) ?_ | with_reducible refine cell_set_other (by omega) ?_))) | fail) (first
    | (go_at_call 73; (with_reducible refine (major_x x o _).mono ?_); rintro e w' ⟨rfl, rfl⟩)
    | (go_at_call 73; (with_reducible refine (major_x y o' _).mono ?_); rintro e w' ⟨rfl, rfl⟩)
    | fail)
  go_wp2_with fail
  go_region_held3 (fun w' => w'.cell? ⟨N, 0, none⟩ = some (.int .u64 x.a) ∧ w'.cell? ⟨N, 1, none⟩ = some (.int .u64 x.b) ∧ w'.cell? ⟨N, 2, none⟩ = some (.int .u64 x.c) ∧ w'.cell? ⟨N, 3, none⟩ = some (.string x.p) ∧ w'.cell? ⟨N, 4, none⟩ = some (.string x.m) ∧ w'.cell? ⟨N, 5, none⟩ = some (.string o) ∧ w'.cell? ⟨M', 0, none⟩ = some (.int .u64 y.a) ∧ w'.cell? ⟨M', 1, none⟩ = some (.int .u64 y.b) ∧ w'.cell? ⟨M', 2, none⟩ = some (.int .u64 y.c) ∧ w'.cell? ⟨M', 3, none⟩ = some (.string y.p) ∧ w'.cell? ⟨M', 4, none⟩ = some (.string y.m) ∧ w'.cell? ⟨M', 5, none⟩ = some (.string o') ∧ w'.cell? ⟨K, 0, none⟩ = some (.pointer (some ⟨M', 0, none⟩)) ∧ w'.cell? ⟨K, 3, none⟩ = some (.bool true) ∧ w'.cell? ⟨K, 4, none⟩ = some (.bool true) ∧ w'.cell? ⟨K, 5, none⟩ = some (.bool false)) (first | (refine ⟨?_, ?_, ?_, ?_, ?_, ?_, ?_, ?_, ?_, ?_, ?_, ?_, ?_, ?_, ?_, ?_⟩ <;> (repeat (first | with_reducible assumption | with_reducible apply cell_alloc_some | with_reducible apply cell_drew_some | with_reducible refine cell_below (by with_reducible assumption) ?_ | with_reducible refine cell_set_other (by omega) ?_))) | fail) (first
    | (go_at_call 73; (with_reducible refine (major_x x o _).mono ?_); rintro e w' ⟨rfl, rfl⟩)
    | (go_at_call 73; (with_reducible refine (major_x y o' _).mono ?_); rintro e w' ⟨rfl, rfl⟩)
    | fail)
  go_wp2_with (go_at_call 96; refine (errorsNew_any _ _).mono ?_; rintro e w3 ⟨⟨et, ev, rfl⟩, hb⟩; have HB3 := Lib.hid (Below.up (w := w1) (by (repeat (first | exact Below.refl _ _ | apply Below.drew | (apply below_alloc_on (Nat.le_refl _))))) hb); clear hb)
  refine bodyPost_ret (results_tmp2 rfl _ _ _) rfl ?_
  exact ⟨⟨_, rfl⟩, Below.up HB1.out HB3.out⟩

set_option maxHeartbeats 2000000 in
theorem above1_e (x y : V) (o o' s : ByteArray) (N K M' : Nat) (w : World) (hx : AtV w N x o) (hy : AtV w M' y o') (hk : w.heap[K]? = some (.cells #[.pointer (some ⟨M', 0, none⟩), .string ⟨#[]⟩, .string s, .bool true, .bool true, .bool false] 102 (0, 0))) (hp : x.p.toList = []) (h1 : ¬ (y.a : Int) < x.a) (h2 : ¬ (x.a : Int) < y.a) :
    Calls Tryd.prog 86 #[.pointer (some ⟨N, 0, none⟩), .pointer (some ⟨K, 0, none⟩), .bool false] w fun e w' => (∃ ev, e = .returned (.tuple #[.bool false, ev])) ∧ Below w.heap.size w w' := by
  obtain ⟨c0, c1, c2, c3, c4, c5⟩ := hx.cells
  obtain ⟨d0, d1, d2, d3, d4, d5⟩ := hy.cells
  have k0 : w.cell? ⟨K, 0, none⟩ = some (.pointer (some ⟨M', 0, none⟩)) := by rw [cell_of_row w K _ _ _ _ hk]; rfl
  have k3 : w.cell? ⟨K, 3, none⟩ = some (.bool true) := by rw [cell_of_row w K _ _ _ _ hk]; rfl
  have k4 : w.cell? ⟨K, 4, none⟩ = some (.bool true) := by rw [cell_of_row w K _ _ _ _ hk]; rfl
  have k5 : w.cell? ⟨K, 5, none⟩ = some (.bool false) := by rw [cell_of_row w K _ _ _ _ hk]; rfl
  clear hx hy hk
  go_enter Tryd.func86, Tryd.ntmps86
  go_wp2_with (go_at_call 76; refine (prerelease_any x o _).mono ?_; rintro e w1 ⟨rfl, hw1⟩; have HB1 := Lib.hid (show Below w.heap.size w w1 by subst hw1; exact below_alloc _ _); have f0 := cell_alloc_some (o := x.cells o) c0; have f1 := cell_alloc_some (o := x.cells o) c1; have f2 := cell_alloc_some (o := x.cells o) c2; have f3 := cell_alloc_some (o := x.cells o) c3; have f4 := cell_alloc_some (o := x.cells o) c4; have f5 := cell_alloc_some (o := x.cells o) c5; have g0 := cell_alloc_some (o := x.cells o) d0; have g1 := cell_alloc_some (o := x.cells o) d1; have g2 := cell_alloc_some (o := x.cells o) d2; have g3 := cell_alloc_some (o := x.cells o) d3; have g4 := cell_alloc_some (o := x.cells o) d4; have g5 := cell_alloc_some (o := x.cells o) d5; have m0 := cell_alloc_some (o := x.cells o) k0; have m3 := cell_alloc_some (o := x.cells o) k3; have m4 := cell_alloc_some (o := x.cells o) k4; have m5 := cell_alloc_some (o := x.cells o) k5; rw [← hw1] at f0 f1 f2 f3 f4 f5 g0 g1 g2 g3 g4 g5 m0 m3 m4 m5; clear hw1 c0 c1 c2 c3 c4 c5 d0 d1 d2 d3 d4 d5 k0 k3 k4 k5)
  go_region_held3 (fun w' => w'.cell? ⟨N, 0, none⟩ = some (.int .u64 x.a) ∧ w'.cell? ⟨N, 1, none⟩ = some (.int .u64 x.b) ∧ w'.cell? ⟨N, 2, none⟩ = some (.int .u64 x.c) ∧ w'.cell? ⟨N, 3, none⟩ = some (.string x.p) ∧ w'.cell? ⟨N, 4, none⟩ = some (.string x.m) ∧ w'.cell? ⟨N, 5, none⟩ = some (.string o) ∧ w'.cell? ⟨M', 0, none⟩ = some (.int .u64 y.a) ∧ w'.cell? ⟨M', 1, none⟩ = some (.int .u64 y.b) ∧ w'.cell? ⟨M', 2, none⟩ = some (.int .u64 y.c) ∧ w'.cell? ⟨M', 3, none⟩ = some (.string y.p) ∧ w'.cell? ⟨M', 4, none⟩ = some (.string y.m) ∧ w'.cell? ⟨M', 5, none⟩ = some (.string o') ∧ w'.cell? ⟨K, 0, none⟩ = some (.pointer (some ⟨M', 0, none⟩)) ∧ w'.cell? ⟨K, 3, none⟩ = some (.bool true) ∧ w'.cell? ⟨K, 4, none⟩ = some (.bool true) ∧ w'.cell? ⟨K, 5, none⟩ = some (.bool false)) (first | (refine ⟨?_, ?_, ?_, ?_, ?_, ?_, ?_, ?_, ?_, ?_, ?_, ?_, ?_, ?_, ?_, ?_⟩ <;> (repeat (first | with_reducible assumption | with_reducible apply cell_alloc_some | with_reducible apply cell_drew_some | with_reducible refine cell_below (by with_reducible assumption) ?_ | with_reducible refine cell_set_other (by omega) ?_))) | fail) (first
    | (go_at_call 73; (with_reducible refine (major_x x o _).mono ?_); rintro e w' ⟨rfl, rfl⟩)
    | (go_at_call 73; (with_reducible refine (major_x y o' _).mono ?_); rintro e w' ⟨rfl, rfl⟩)
    | fail)
  go_wp2_with fail
  go_region_held3 (fun w' => w'.cell? ⟨N, 0, none⟩ = some (.int .u64 x.a) ∧ w'.cell? ⟨N, 1, none⟩ = some (.int .u64 x.b) ∧ w'.cell? ⟨N, 2, none⟩ = some (.int .u64 x.c) ∧ w'.cell? ⟨N, 3, none⟩ = some (.string x.p) ∧ w'.cell? ⟨N, 4, none⟩ = some (.string x.m) ∧ w'.cell? ⟨N, 5, none⟩ = some (.string o) ∧ w'.cell? ⟨M', 0, none⟩ = some (.int .u64 y.a) ∧ w'.cell? ⟨M', 1, none⟩ = some (.int .u64 y.b) ∧ w'.cell? ⟨M', 2, none⟩ = some (.int .u64 y.c) ∧ w'.cell? ⟨M', 3, none⟩ = some (.string y.p) ∧ w'.cell? ⟨M', 4, none⟩ = some (.string y.m) ∧ w'.cell? ⟨M', 5, none⟩ = some (.string o') ∧ w'.cell? ⟨K, 0, none⟩ = some (.pointer (some ⟨M', 0, none⟩)) ∧ w'.cell? ⟨K, 3, none⟩ = some (.bool true) ∧ w'.cell? ⟨K, 4, none⟩ = some (.bool true) ∧ w'.cell? ⟨K, 5, none⟩ = some (.bool false)) (first | (refine ⟨?_, ?_, ?_, ?_, ?_, ?_, ?_, ?_, ?_, ?_, ?_, ?_, ?_, ?_, ?_, ?_⟩ <;> (repeat (first | with_reducible assumption | with_reducible apply cell_alloc_some | with_reducible apply cell_drew_some | with_reducible refine cell_below (by with_reducible assumption) ?_ | with_reducible refine cell_set_other (by omega) ?_))) | fail) (first
    | (go_at_call 73; (with_reducible refine (major_x x o _).mono ?_); rintro e w' ⟨rfl, rfl⟩)
    | (go_at_call 73; (with_reducible refine (major_x y o' _).mono ?_); rintro e w' ⟨rfl, rfl⟩)
    | fail)
  go_wp2_with (go_at_call 96; refine (errorsNew_any _ _).mono ?_; rintro e w3 ⟨⟨et, ev, rfl⟩, hb⟩; have HB3 := Lib.hid (Below.up (w := w1) (by (repeat (first | exact Below.refl _ _ | apply Below.drew | (apply below_alloc_on (Nat.le_refl _))))) hb); clear hb)
  refine bodyPost_ret (results_tmp2 rfl _ _ _) rfl ?_
  exact ⟨⟨_, rfl⟩, Below.up HB1.out HB3.out⟩

set_option maxHeartbeats 2000000 in
theorem above2_t (x y : V) (o o' s : ByteArray) (N K M' : Nat) (w : World) (hx : AtV w N x o) (hy : AtV w M' y o') (hk : w.heap[K]? = some (.cells #[.pointer (some ⟨M', 0, none⟩), .string ⟨#[]⟩, .string s, .bool false, .bool true, .bool true] 102 (0, 0))) (hp : x.p.toList = []) (h1 : (y.a : Int) < x.a) :
    Calls Tryd.prog 86 #[.pointer (some ⟨N, 0, none⟩), .pointer (some ⟨K, 0, none⟩), .bool false] w fun e w' => (∃ ev, e = .returned (.tuple #[.bool true, ev])) ∧ Below w.heap.size w w' := by
  obtain ⟨c0, c1, c2, c3, c4, c5⟩ := hx.cells
  obtain ⟨d0, d1, d2, d3, d4, d5⟩ := hy.cells
  have k0 : w.cell? ⟨K, 0, none⟩ = some (.pointer (some ⟨M', 0, none⟩)) := by rw [cell_of_row w K _ _ _ _ hk]; rfl
  have k3 : w.cell? ⟨K, 3, none⟩ = some (.bool false) := by rw [cell_of_row w K _ _ _ _ hk]; rfl
  have k4 : w.cell? ⟨K, 4, none⟩ = some (.bool true) := by rw [cell_of_row w K _ _ _ _ hk]; rfl
  have k5 : w.cell? ⟨K, 5, none⟩ = some (.bool true) := by rw [cell_of_row w K _ _ _ _ hk]; rfl
  clear hx hy hk
  go_enter Tryd.func86, Tryd.ntmps86
  go_wp2_with (go_at_call 76; refine (prerelease_any x o _).mono ?_; rintro e w1 ⟨rfl, hw1⟩; have HB1 := Lib.hid (show Below w.heap.size w w1 by subst hw1; exact below_alloc _ _); have f0 := cell_alloc_some (o := x.cells o) c0; have f1 := cell_alloc_some (o := x.cells o) c1; have f2 := cell_alloc_some (o := x.cells o) c2; have f3 := cell_alloc_some (o := x.cells o) c3; have f4 := cell_alloc_some (o := x.cells o) c4; have f5 := cell_alloc_some (o := x.cells o) c5; have g0 := cell_alloc_some (o := x.cells o) d0; have g1 := cell_alloc_some (o := x.cells o) d1; have g2 := cell_alloc_some (o := x.cells o) d2; have g3 := cell_alloc_some (o := x.cells o) d3; have g4 := cell_alloc_some (o := x.cells o) d4; have g5 := cell_alloc_some (o := x.cells o) d5; have m0 := cell_alloc_some (o := x.cells o) k0; have m3 := cell_alloc_some (o := x.cells o) k3; have m4 := cell_alloc_some (o := x.cells o) k4; have m5 := cell_alloc_some (o := x.cells o) k5; rw [← hw1] at f0 f1 f2 f3 f4 f5 g0 g1 g2 g3 g4 g5 m0 m3 m4 m5; clear hw1 c0 c1 c2 c3 c4 c5 d0 d1 d2 d3 d4 d5 k0 k3 k4 k5)
  go_region_held3 (fun w' => w'.cell? ⟨N, 0, none⟩ = some (.int .u64 x.a) ∧ w'.cell? ⟨N, 1, none⟩ = some (.int .u64 x.b) ∧ w'.cell? ⟨N, 2, none⟩ = some (.int .u64 x.c) ∧ w'.cell? ⟨N, 3, none⟩ = some (.string x.p) ∧ w'.cell? ⟨N, 4, none⟩ = some (.string x.m) ∧ w'.cell? ⟨N, 5, none⟩ = some (.string o) ∧ w'.cell? ⟨M', 0, none⟩ = some (.int .u64 y.a) ∧ w'.cell? ⟨M', 1, none⟩ = some (.int .u64 y.b) ∧ w'.cell? ⟨M', 2, none⟩ = some (.int .u64 y.c) ∧ w'.cell? ⟨M', 3, none⟩ = some (.string y.p) ∧ w'.cell? ⟨M', 4, none⟩ = some (.string y.m) ∧ w'.cell? ⟨M', 5, none⟩ = some (.string o') ∧ w'.cell? ⟨K, 0, none⟩ = some (.pointer (some ⟨M', 0, none⟩)) ∧ w'.cell? ⟨K, 3, none⟩ = some (.bool false) ∧ w'.cell? ⟨K, 4, none⟩ = some (.bool true) ∧ w'.cell? ⟨K, 5, none⟩ = some (.bool true)) (first | (refine ⟨?_, ?_, ?_, ?_, ?_, ?_, ?_, ?_, ?_, ?_, ?_, ?_, ?_, ?_, ?_, ?_⟩ <;> (repeat (first | with_reducible assumption | with_reducible apply cell_alloc_some | with_reducible apply cell_drew_some | with_reducible refine cell_below (by with_reducible assumption) ?_ | with_reducible refine cell_set_other (by omega) ?_))) | fail) (first
    | (go_at_call 73; (with_reducible refine (major_x x o _).mono ?_); rintro e w' ⟨rfl, rfl⟩)
    | (go_at_call 73; (with_reducible refine (major_x y o' _).mono ?_); rintro e w' ⟨rfl, rfl⟩)
    | fail)
  go_wp2
  refine bodyPost_ret (results_tmp2 rfl _ _ _) rfl ?_
  exact ⟨⟨_, rfl⟩, Below.up HB1.out (by (repeat (first | exact Below.refl _ _ | apply Below.drew | (apply below_alloc_on (Nat.le_refl _)))))⟩

set_option maxHeartbeats 2000000 in
theorem above2_l (x y : V) (o o' s : ByteArray) (N K M' : Nat) (w : World) (hx : AtV w N x o) (hy : AtV w M' y o') (hk : w.heap[K]? = some (.cells #[.pointer (some ⟨M', 0, none⟩), .string ⟨#[]⟩, .string s, .bool false, .bool true, .bool true] 102 (0, 0))) (hp : x.p.toList = []) (h1 : ¬ (y.a : Int) < x.a) (h2 : (x.a : Int) < y.a) :
    Calls Tryd.prog 86 #[.pointer (some ⟨N, 0, none⟩), .pointer (some ⟨K, 0, none⟩), .bool false] w fun e w' => (∃ ev, e = .returned (.tuple #[.bool false, ev])) ∧ Below w.heap.size w w' := by
  obtain ⟨c0, c1, c2, c3, c4, c5⟩ := hx.cells
  obtain ⟨d0, d1, d2, d3, d4, d5⟩ := hy.cells
  have k0 : w.cell? ⟨K, 0, none⟩ = some (.pointer (some ⟨M', 0, none⟩)) := by rw [cell_of_row w K _ _ _ _ hk]; rfl
  have k3 : w.cell? ⟨K, 3, none⟩ = some (.bool false) := by rw [cell_of_row w K _ _ _ _ hk]; rfl
  have k4 : w.cell? ⟨K, 4, none⟩ = some (.bool true) := by rw [cell_of_row w K _ _ _ _ hk]; rfl
  have k5 : w.cell? ⟨K, 5, none⟩ = some (.bool true) := by rw [cell_of_row w K _ _ _ _ hk]; rfl
  clear hx hy hk
  go_enter Tryd.func86, Tryd.ntmps86
  go_wp2_with (go_at_call 76; refine (prerelease_any x o _).mono ?_; rintro e w1 ⟨rfl, hw1⟩; have HB1 := Lib.hid (show Below w.heap.size w w1 by subst hw1; exact below_alloc _ _); have f0 := cell_alloc_some (o := x.cells o) c0; have f1 := cell_alloc_some (o := x.cells o) c1; have f2 := cell_alloc_some (o := x.cells o) c2; have f3 := cell_alloc_some (o := x.cells o) c3; have f4 := cell_alloc_some (o := x.cells o) c4; have f5 := cell_alloc_some (o := x.cells o) c5; have g0 := cell_alloc_some (o := x.cells o) d0; have g1 := cell_alloc_some (o := x.cells o) d1; have g2 := cell_alloc_some (o := x.cells o) d2; have g3 := cell_alloc_some (o := x.cells o) d3; have g4 := cell_alloc_some (o := x.cells o) d4; have g5 := cell_alloc_some (o := x.cells o) d5; have m0 := cell_alloc_some (o := x.cells o) k0; have m3 := cell_alloc_some (o := x.cells o) k3; have m4 := cell_alloc_some (o := x.cells o) k4; have m5 := cell_alloc_some (o := x.cells o) k5; rw [← hw1] at f0 f1 f2 f3 f4 f5 g0 g1 g2 g3 g4 g5 m0 m3 m4 m5; clear hw1 c0 c1 c2 c3 c4 c5 d0 d1 d2 d3 d4 d5 k0 k3 k4 k5)
  go_region_held3 (fun w' => w'.cell? ⟨N, 0, none⟩ = some (.int .u64 x.a) ∧ w'.cell? ⟨N, 1, none⟩ = some (.int .u64 x.b) ∧ w'.cell? ⟨N, 2, none⟩ = some (.int .u64 x.c) ∧ w'.cell? ⟨N, 3, none⟩ = some (.string x.p) ∧ w'.cell? ⟨N, 4, none⟩ = some (.string x.m) ∧ w'.cell? ⟨N, 5, none⟩ = some (.string o) ∧ w'.cell? ⟨M', 0, none⟩ = some (.int .u64 y.a) ∧ w'.cell? ⟨M', 1, none⟩ = some (.int .u64 y.b) ∧ w'.cell? ⟨M', 2, none⟩ = some (.int .u64 y.c) ∧ w'.cell? ⟨M', 3, none⟩ = some (.string y.p) ∧ w'.cell? ⟨M', 4, none⟩ = some (.string y.m) ∧ w'.cell? ⟨M', 5, none⟩ = some (.string o') ∧ w'.cell? ⟨K, 0, none⟩ = some (.pointer (some ⟨M', 0, none⟩)) ∧ w'.cell? ⟨K, 3, none⟩ = some (.bool false) ∧ w'.cell? ⟨K, 4, none⟩ = some (.bool true) ∧ w'.cell? ⟨K, 5, none⟩ = some (.bool true)) (first | (refine ⟨?_, ?_, ?_, ?_, ?_, ?_, ?_, ?_, ?_, ?_, ?_, ?_, ?_, ?_, ?_, ?_⟩ <;> (repeat (first | with_reducible assumption | with_reducible apply cell_alloc_some | with_reducible apply cell_drew_some | with_reducible refine cell_below (by with_reducible assumption) ?_ | with_reducible refine cell_set_other (by omega) ?_))) | fail) (first
    | (go_at_call 73; (with_reducible refine (major_x x o _).mono ?_); rintro e w' ⟨rfl, rfl⟩)
    | (go_at_call 73; (with_reducible refine (major_x y o' _).mono ?_); rintro e w' ⟨rfl, rfl⟩)
    | fail)
  go_wp2_with fail
  go_region_held3 (fun w' => w'.cell? ⟨N, 0, none⟩ = some (.int .u64 x.a) ∧ w'.cell? ⟨N, 1, none⟩ = some (.int .u64 x.b) ∧ w'.cell? ⟨N, 2, none⟩ = some (.int .u64 x.c) ∧ w'.cell? ⟨N, 3, none⟩ = some (.string x.p) ∧ w'.cell? ⟨N, 4, none⟩ = some (.string x.m) ∧ w'.cell? ⟨N, 5, none⟩ = some (.string o) ∧ w'.cell? ⟨M', 0, none⟩ = some (.int .u64 y.a) ∧ w'.cell? ⟨M', 1, none⟩ = some (.int .u64 y.b) ∧ w'.cell? ⟨M', 2, none⟩ = some (.int .u64 y.c) ∧ w'.cell? ⟨M', 3, none⟩ = some (.string y.p) ∧ w'.cell? ⟨M', 4, none⟩ = some (.string y.m) ∧ w'.cell? ⟨M', 5, none⟩ = some (.string o') ∧ w'.cell? ⟨K, 0, none⟩ = some (.pointer (some ⟨M', 0, none⟩)) ∧ w'.cell? ⟨K, 3, none⟩ = some (.bool false) ∧ w'.cell? ⟨K, 4, none⟩ = some (.bool true) ∧ w'.cell? ⟨K, 5, none⟩ = some (.bool true)) (first | (refine ⟨?_, ?_, ?_, ?_, ?_, ?_, ?_, ?_, ?_, ?_, ?_, ?_, ?_, ?_, ?_, ?_⟩ <;> (repeat (first | with_reducible assumption | with_reducible apply cell_alloc_some | with_reducible apply cell_drew_some | with_reducible refine cell_below (by with_reducible assumption) ?_ | with_reducible refine cell_set_other (by omega) ?_))) | fail) (first
    | (go_at_call 73; (with_reducible refine (major_x x o _).mono ?_); rintro e w' ⟨rfl, rfl⟩)
    | (go_at_call 73; (with_reducible refine (major_x y o' _).mono ?_); rintro e w' ⟨rfl, rfl⟩)
    | fail)
  go_wp2_with (go_at_call 96; refine (errorsNew_any _ _).mono ?_; rintro e w3 ⟨⟨et, ev, rfl⟩, hb⟩; have HB3 := Lib.hid (Below.up (w := w1) (by (repeat (first | exact Below.refl _ _ | apply Below.drew | (apply below_alloc_on (Nat.le_refl _))))) hb); clear hb)
  refine bodyPost_ret (results_tmp2 rfl _ _ _) rfl ?_
  exact ⟨⟨_, rfl⟩, Below.up HB1.out HB3.out⟩

set_option maxHeartbeats 2000000 in
theorem above2_et (x y : V) (o o' s : ByteArray) (N K M' : Nat) (w : World) (hx : AtV w N x o) (hy : AtV w M' y o') (hk : w.heap[K]? = some (.cells #[.pointer (some ⟨M', 0, none⟩), .string ⟨#[]⟩, .string s, .bool false, .bool true, .bool true] 102 (0, 0))) (hp : x.p.toList = []) (h1 : ¬ (y.a : Int) < x.a) (h2 : ¬ (x.a : Int) < y.a) (h3 : (y.b : Int) < x.b) :
    Calls Tryd.prog 86 #[.pointer (some ⟨N, 0, none⟩), .pointer (some ⟨K, 0, none⟩), .bool false] w fun e w' => (∃ ev, e = .returned (.tuple #[.bool true, ev])) ∧ Below w.heap.size w w' := by
  obtain ⟨c0, c1, c2, c3, c4, c5⟩ := hx.cells
  obtain ⟨d0, d1, d2, d3, d4, d5⟩ := hy.cells
  have k0 : w.cell? ⟨K, 0, none⟩ = some (.pointer (some ⟨M', 0, none⟩)) := by rw [cell_of_row w K _ _ _ _ hk]; rfl
  have k3 : w.cell? ⟨K, 3, none⟩ = some (.bool false) := by rw [cell_of_row w K _ _ _ _ hk]; rfl
  have k4 : w.cell? ⟨K, 4, none⟩ = some (.bool true) := by rw [cell_of_row w K _ _ _ _ hk]; rfl
  have k5 : w.cell? ⟨K, 5, none⟩ = some (.bool true) := by rw [cell_of_row w K _ _ _ _ hk]; rfl
  clear hx hy hk
  go_enter Tryd.func86, Tryd.ntmps86
  go_wp2_with (go_at_call 76; refine (prerelease_any x o _).mono ?_; rintro e w1 ⟨rfl, hw1⟩; have HB1 := Lib.hid (show Below w.heap.size w w1 by subst hw1; exact below_alloc _ _); have f0 := cell_alloc_some (o := x.cells o) c0; have f1 := cell_alloc_some (o := x.cells o) c1; have f2 := cell_alloc_some (o := x.cells o) c2; have f3 := cell_alloc_some (o := x.cells o) c3; have f4 := cell_alloc_some (o := x.cells o) c4; have f5 := cell_alloc_some (o := x.cells o) c5; have g0 := cell_alloc_some (o := x.cells o) d0; have g1 := cell_alloc_some (o := x.cells o) d1; have g2 := cell_alloc_some (o := x.cells o) d2; have g3 := cell_alloc_some (o := x.cells o) d3; have g4 := cell_alloc_some (o := x.cells o) d4; have g5 := cell_alloc_some (o := x.cells o) d5; have m0 := cell_alloc_some (o := x.cells o) k0; have m3 := cell_alloc_some (o := x.cells o) k3; have m4 := cell_alloc_some (o := x.cells o) k4; have m5 := cell_alloc_some (o := x.cells o) k5; rw [← hw1] at f0 f1 f2 f3 f4 f5 g0 g1 g2 g3 g4 g5 m0 m3 m4 m5; clear hw1 c0 c1 c2 c3 c4 c5 d0 d1 d2 d3 d4 d5 k0 k3 k4 k5)
  go_region_held3 (fun w' => w'.cell? ⟨N, 0, none⟩ = some (.int .u64 x.a) ∧ w'.cell? ⟨N, 1, none⟩ = some (.int .u64 x.b) ∧ w'.cell? ⟨N, 2, none⟩ = some (.int .u64 x.c) ∧ w'.cell? ⟨N, 3, none⟩ = some (.string x.p) ∧ w'.cell? ⟨N, 4, none⟩ = some (.string x.m) ∧ w'.cell? ⟨N, 5, none⟩ = some (.string o) ∧ w'.cell? ⟨M', 0, none⟩ = some (.int .u64 y.a) ∧ w'.cell? ⟨M', 1, none⟩ = some (.int .u64 y.b) ∧ w'.cell? ⟨M', 2, none⟩ = some (.int .u64 y.c) ∧ w'.cell? ⟨M', 3, none⟩ = some (.string y.p) ∧ w'.cell? ⟨M', 4, none⟩ = some (.string y.m) ∧ w'.cell? ⟨M', 5, none⟩ = some (.string o') ∧ w'.cell? ⟨K, 0, none⟩ = some (.pointer (some ⟨M', 0, none⟩)) ∧ w'.cell? ⟨K, 3, none⟩ = some (.bool false) ∧ w'.cell? ⟨K, 4, none⟩ = some (.bool true) ∧ w'.cell? ⟨K, 5, none⟩ = some (.bool true)) (first | (refine ⟨?_, ?_, ?_, ?_, ?_, ?_, ?_, ?_, ?_, ?_, ?_, ?_, ?_, ?_, ?_, ?_⟩ <;> (repeat (first | with_reducible assumption | with_reducible apply cell_alloc_some | with_reducible apply cell_drew_some | with_reducible refine cell_below (by with_reducible assumption) ?_ | with_reducible refine cell_set_other (by omega) ?_))) | fail) (first
    | (go_at_call 73; (with_reducible refine (major_x x o _).mono ?_); rintro e w' ⟨rfl, rfl⟩)
    | (go_at_call 73; (with_reducible refine (major_x y o' _).mono ?_); rintro e w' ⟨rfl, rfl⟩)
    | fail)
  go_wp2_with fail
  go_region_held3 (fun w' => w'.cell? ⟨N, 0, none⟩ = some (.int .u64 x.a) ∧ w'.cell? ⟨N, 1, none⟩ = some (.int .u64 x.b) ∧ w'.cell? ⟨N, 2, none⟩ = some (.int .u64 x.c) ∧ w'.cell? ⟨N, 3, none⟩ = some (.string x.p) ∧ w'.cell? ⟨N, 4, none⟩ = some (.string x.m) ∧ w'.cell? ⟨N, 5, none⟩ = some (.string o) ∧ w'.cell? ⟨M', 0, none⟩ = some (.int .u64 y.a) ∧ w'.cell? ⟨M', 1, none⟩ = some (.int .u64 y.b) ∧ w'.cell? ⟨M', 2, none⟩ = some (.int .u64 y.c) ∧ w'.cell? ⟨M', 3, none⟩ = some (.string y.p) ∧ w'.cell? ⟨M', 4, none⟩ = some (.string y.m) ∧ w'.cell? ⟨M', 5, none⟩ = some (.string o') ∧ w'.cell? ⟨K, 0, none⟩ = some (.pointer (some ⟨M', 0, none⟩)) ∧ w'.cell? ⟨K, 3, none⟩ = some (.bool false) ∧ w'.cell? ⟨K, 4, none⟩ = some (.bool true) ∧ w'.cell? ⟨K, 5, none⟩ = some (.bool true)) (first | (refine ⟨?_, ?_, ?_, ?_, ?_, ?_, ?_, ?_, ?_, ?_, ?_, ?_, ?_, ?_, ?_, ?_⟩ <;> (repeat (first | with_reducible assumption | with_reducible apply cell_alloc_some | with_reducible apply cell_drew_some | with_reducible refine cell_below (by with_reducible assumption) ?_ | with_reducible refine cell_set_other (by omega) ?_))) | fail) (first
    | (go_at_call 73; (with_reducible refine (major_x x o _).mono ?_); rintro e w' ⟨rfl, rfl⟩)
    | (go_at_call 73; (with_reducible refine (major_x y o' _).mono ?_); rintro e w' ⟨rfl, rfl⟩)
    | fail)
  go_wp2_with fail
  go_region_held3 (fun w' => w'.cell? ⟨N, 0, none⟩ = some (.int .u64 x.a) ∧ w'.cell? ⟨N, 1, none⟩ = some (.int .u64 x.b) ∧ w'.cell? ⟨N, 2, none⟩ = some (.int .u64 x.c) ∧ w'.cell? ⟨N, 3, none⟩ = some (.string x.p) ∧ w'.cell? ⟨N, 4, none⟩ = some (.string x.m) ∧ w'.cell? ⟨N, 5, none⟩ = some (.string o) ∧ w'.cell? ⟨M', 0, none⟩ = some (.int .u64 y.a) ∧ w'.cell? ⟨M', 1, none⟩ = some (.int .u64 y.b) ∧ w'.cell? ⟨M', 2, none⟩ = some (.int .u64 y.c) ∧ w'.cell? ⟨M', 3, none⟩ = some (.string y.p) ∧ w'.cell? ⟨M', 4, none⟩ = some (.string y.m) ∧ w'.cell? ⟨M', 5, none⟩ = some (.string o') ∧ w'.cell? ⟨K, 0, none⟩ = some (.pointer (some ⟨M', 0, none⟩)) ∧ w'.cell? ⟨K, 3, none⟩ = some (.bool false) ∧ w'.cell? ⟨K, 4, none⟩ = some (.bool true) ∧ w'.cell? ⟨K, 5, none⟩ = some (.bool true)) (first | (refine ⟨?_, ?_, ?_, ?_, ?_, ?_, ?_, ?_, ?_, ?_, ?_, ?_, ?_, ?_, ?_, ?_⟩ <;> (repeat (first | with_reducible assumption | with_reducible apply cell_alloc_some | with_reducible apply cell_drew_some | with_reducible refine cell_below (by with_reducible assumption) ?_ | with_reducible refine cell_set_other (by omega) ?_))) | fail) (first
    | (go_at_call 74; (with_reducible refine (minor_x x o _).mono ?_); rintro e w' ⟨rfl, rfl⟩)
    | (go_at_call 74; (with_reducible refine (minor_x y o' _).mono ?_); rintro e w' ⟨rfl, rfl⟩)
    | fail)
  go_wp2
  refine bodyPost_ret (results_tmp2 rfl _ _ _) rfl ?_
  exact ⟨⟨_, rfl⟩, Below.up HB1.out (by (repeat (first | exact Below.refl _ _ | apply Below.drew | (apply below_alloc_on (Nat.le_refl _)))))⟩

set_option maxHeartbeats 2000000 in
theorem above2_ef (x y : V) (o o' s : ByteArray) (N K M' : Nat) (w : World) (hx : AtV w N x o) (hy : AtV w M' y o') (hk : w.heap[K]? = some (.cells #[.pointer (some ⟨M', 0, none⟩), .string ⟨#[]⟩, .string s, .bool false, .bool true, .bool true] 102 (0, 0))) (hp : x.p.toList = []) (h1 : ¬ (y.a : Int) < x.a) (h2 : ¬ (x.a : Int) < y.a) (h3 : ¬ (y.b : Int) < x.b) :
    Calls Tryd.prog 86 #[.pointer (some ⟨N, 0, none⟩), .pointer (some ⟨K, 0, none⟩), .bool false] w fun e w' => (∃ ev, e = .returned (.tuple #[.bool false, ev])) ∧ Below w.heap.size w w' := by
  obtain ⟨c0, c1, c2, c3, c4, c5⟩ := hx.cells
  obtain ⟨d0, d1, d2, d3, d4, d5⟩ := hy.cells
  have k0 : w.cell? ⟨K, 0, none⟩ = some (.pointer (some ⟨M', 0, none⟩)) := by rw [cell_of_row w K _ _ _ _ hk]; rfl
  have k3 : w.cell? ⟨K, 3, none⟩ = some (.bool false) := by rw [cell_of_row w K _ _ _ _ hk]; rfl
  have k4 : w.cell? ⟨K, 4, none⟩ = some (.bool true) := by rw [cell_of_row w K _ _ _ _ hk]; rfl
  have k5 : w.cell? ⟨K, 5, none⟩ = some (.bool true) := by rw [cell_of_row w K _ _ _ _ hk]; rfl
  clear hx hy hk
  go_enter Tryd.func86, Tryd.ntmps86
  go_wp2_with (go_at_call 76; refine (prerelease_any x o _).mono ?_; rintro e w1 ⟨rfl, hw1⟩; have HB1 := Lib.hid (show Below w.heap.size w w1 by subst hw1; exact below_alloc _ _); have f0 := cell_alloc_some (o := x.cells o) c0; have f1 := cell_alloc_some (o := x.cells o) c1; have f2 := cell_alloc_some (o := x.cells o) c2; have f3 := cell_alloc_some (o := x.cells o) c3; have f4 := cell_alloc_some (o := x.cells o) c4; have f5 := cell_alloc_some (o := x.cells o) c5; have g0 := cell_alloc_some (o := x.cells o) d0; have g1 := cell_alloc_some (o := x.cells o) d1; have g2 := cell_alloc_some (o := x.cells o) d2; have g3 := cell_alloc_some (o := x.cells o) d3; have g4 := cell_alloc_some (o := x.cells o) d4; have g5 := cell_alloc_some (o := x.cells o) d5; have m0 := cell_alloc_some (o := x.cells o) k0; have m3 := cell_alloc_some (o := x.cells o) k3; have m4 := cell_alloc_some (o := x.cells o) k4; have m5 := cell_alloc_some (o := x.cells o) k5; rw [← hw1] at f0 f1 f2 f3 f4 f5 g0 g1 g2 g3 g4 g5 m0 m3 m4 m5; clear hw1 c0 c1 c2 c3 c4 c5 d0 d1 d2 d3 d4 d5 k0 k3 k4 k5)
  go_region_held3 (fun w' => w'.cell? ⟨N, 0, none⟩ = some (.int .u64 x.a) ∧ w'.cell? ⟨N, 1, none⟩ = some (.int .u64 x.b) ∧ w'.cell? ⟨N, 2, none⟩ = some (.int .u64 x.c) ∧ w'.cell? ⟨N, 3, none⟩ = some (.string x.p) ∧ w'.cell? ⟨N, 4, none⟩ = some (.string x.m) ∧ w'.cell? ⟨N, 5, none⟩ = some (.string o) ∧ w'.cell? ⟨M', 0, none⟩ = some (.int .u64 y.a) ∧ w'.cell? ⟨M', 1, none⟩ = some (.int .u64 y.b) ∧ w'.cell? ⟨M', 2, none⟩ = some (.int .u64 y.c) ∧ w'.cell? ⟨M', 3, none⟩ = some (.string y.p) ∧ w'.cell? ⟨M', 4, none⟩ = some (.string y.m) ∧ w'.cell? ⟨M', 5, none⟩ = some (.string o') ∧ w'.cell? ⟨K, 0, none⟩ = some (.pointer (some ⟨M', 0, none⟩)) ∧ w'.cell? ⟨K, 3, none⟩ = some (.bool false) ∧ w'.cell? ⟨K, 4, none⟩ = some (.bool true) ∧ w'.cell? ⟨K, 5, none⟩ = some (.bool true)) (first | (refine ⟨?_, ?_, ?_, ?_, ?_, ?_, ?_, ?_, ?_, ?_, ?_, ?_, ?_, ?_, ?_, ?_⟩ <;> (repeat (first | with_reducible assumption | with_reducible apply cell_alloc_some | with_reducible apply cell_drew_some | with_reducible refine cell_below (by with_reducible assumption) ?_ | with_reducible refine cell_set_other (by omega) ?_))) | fail) (first
    | (go_at_call 73; (with_reducible refine (major_x x o _).mono ?_); rintro e w' ⟨rfl, rfl⟩)
    | (go_at_call 73; (with_reducible refine (major_x y o' _).mono ?_); rintro e w' ⟨rfl, rfl⟩)
    | fail)
  go_wp2_with fail
  go_region_held3 (fun w' => w'.cell? ⟨N, 0, none⟩ = some (.int .u64 x.a) ∧ w'.cell? ⟨N, 1, none⟩ = some (.int .u64 x.b) ∧ w'.cell? ⟨N, 2, none⟩ = some (.int .u64 x.c) ∧ w'.cell? ⟨N, 3, none⟩ = some (.string x.p) ∧ w'.cell? ⟨N, 4, none⟩ = some (.string x.m) ∧ w'.cell? ⟨N, 5, none⟩ = some (.string o) ∧ w'.cell? ⟨M', 0, none⟩ = some (.int .u64 y.a) ∧ w'.cell? ⟨M', 1, none⟩ = some (.int .u64 y.b) ∧ w'.cell? ⟨M', 2, none⟩ = some (.int .u64 y.c) ∧ w'.cell? ⟨M', 3, none⟩ = some (.string y.p) ∧ w'.cell? ⟨M', 4, none⟩ = some (.string y.m) ∧ w'.cell? ⟨M', 5, none⟩ = some (.string o') ∧ w'.cell? ⟨K, 0, none⟩ = some (.pointer (some ⟨M', 0, none⟩)) ∧ w'.cell? ⟨K, 3, none⟩ = some (.bool false) ∧ w'.cell? ⟨K, 4, none⟩ = some (.bool true) ∧ w'.cell? ⟨K, 5, none⟩ = some (.bool true)) (first | (refine ⟨?_, ?_, ?_, ?_, ?_, ?_, ?_, ?_, ?_, ?_, ?_, ?_, ?_, ?_, ?_, ?_⟩ <;> (repeat (first | with_reducible assumption | with_reducible apply cell_alloc_some | with_reducible apply cell_drew_some | with_reducible refine cell_below (by with_reducible assumption) ?_ | with_reducible refine cell_set_other (by omega) ?_))) | fail) (first
    | (go_at_call 73; (with_reducible refine (major_x x o _).mono ?_); rintro e w' ⟨rfl, rfl⟩)
    | (go_at_call 73; (with_reducible refine (major_x y o' _).mono ?_); rintro e w' ⟨rfl, rfl⟩)
    | fail)
  go_wp2_with fail
  go_region_held3 (fun w' => w'.cell? ⟨N, 0, none⟩ = some (.int .u64 x.a) ∧ w'.cell? ⟨N, 1, none⟩ = some (.int .u64 x.b) ∧ w'.cell? ⟨N, 2, none⟩ = some (.int .u64 x.c) ∧ w'.cell? ⟨N, 3, none⟩ = some (.string x.p) ∧ w'.cell? ⟨N, 4, none⟩ = some (.string x.m) ∧ w'.cell? ⟨N, 5, none⟩ = some (.string o) ∧ w'.cell? ⟨M', 0, none⟩ = some (.int .u64 y.a) ∧ w'.cell? ⟨M', 1, none⟩ = some (.int .u64 y.b) ∧ w'.cell? ⟨M', 2, none⟩ = some (.int .u64 y.c) ∧ w'.cell? ⟨M', 3, none⟩ = some (.string y.p) ∧ w'.cell? ⟨M', 4, none⟩ = some (.string y.m) ∧ w'.cell? ⟨M', 5, none⟩ = some (.string o') ∧ w'.cell? ⟨K, 0, none⟩ = some (.pointer (some ⟨M', 0, none⟩)) ∧ w'.cell? ⟨K, 3, none⟩ = some (.bool false) ∧ w'.cell? ⟨K, 4, none⟩ = some (.bool true) ∧ w'.cell? ⟨K, 5, none⟩ = some (.bool true)) (first | (refine ⟨?_, ?_, ?_, ?_, ?_, ?_, ?_, ?_, ?_, ?_, ?_, ?_, ?_, ?_, ?_, ?_⟩ <;> (repeat (first | with_reducible assumption | with_reducible apply cell_alloc_some | with_reducible apply cell_drew_some | with_reducible refine cell_below (by with_reducible assumption) ?_ | with_reducible refine cell_set_other (by omega) ?_))) | fail) (first
    | (go_at_call 74; (with_reducible refine (minor_x x o _).mono ?_); rintro e w' ⟨rfl, rfl⟩)
    | (go_at_call 74; (with_reducible refine (minor_x y o' _).mono ?_); rintro e w' ⟨rfl, rfl⟩)
    | fail)
  go_wp2_with (go_at_call 96; refine (errorsNew_any _ _).mono ?_; rintro e w3 ⟨⟨et, ev, rfl⟩, hb⟩; have HB3 := Lib.hid (Below.up (w := w1) (by (repeat (first | exact Below.refl _ _ | apply Below.drew | (apply below_alloc_on (Nat.le_refl _))))) hb); clear hb)
  refine bodyPost_ret (results_tmp2 rfl _ _ _) rfl ?_
  exact ⟨⟨_, rfl⟩, Below.up HB1.out HB3.out⟩
end Go.Proofs.YtopaileliohpdaaDoor
