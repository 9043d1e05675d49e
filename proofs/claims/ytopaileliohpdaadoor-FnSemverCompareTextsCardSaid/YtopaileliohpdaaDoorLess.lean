/-
  LessThan and its kin; the same over plain versions.
-/
import Derived.Test.YtopaileliohpdaaDoorOrd
namespace Go.Proofs.YtopaileliohpdaaDoor
open Go.RowKit
set_option maxRecDepth 100000
set_option linter.unusedVariables false

theorem cell_below {w w' : World} {a : Addr} {v : Value} (hb : Below w.heap.size w w') (h : w.cell? a = some v) : w'.cell? a = some v := (hb.cell (Sent.cell_lt h)).trans h
theorem ret_b {a b : Bool} (h : a = b) : Ending.returned (.bool a) = .returned (.bool b) := by rw [h]
theorem version_exact (x : V) (w : World) : Calls Tryd.prog 41 #[x.v] w fun e w' => e = .returned (.pointer (some ⟨w.heap.size + 1, 0, none⟩)) ∧ w' = (w.alloc x.pc).alloc (x.cells ⟨#[]⟩) := by
  obtain ⟨a, b, c, p, m⟩ := x
  unfold V.v
  simp only
  go_enter Tryd.func41, Tryd.ntmps41
  go_wp2_with (go_at_call 67; go_in)
  go_ret
  exact ⟨rfl, rfl⟩
theorem version_x (x : V) (w : World) : Calls Tryd.prog 41 #[.agg #[.int .u64 x.a, .int .u64 x.b, .int .u64 x.c, .string x.p, .string x.m]] w fun e w' => e = .returned (.pointer (some ⟨w.heap.size + 1, 0, none⟩)) ∧ w' = (w.alloc x.pc).alloc (x.cells ⟨#[]⟩) := version_exact x w
theorem lessPtr_any (x y : V) (o o' : ByteArray) (N K : Nat) (w : World) (hx : AtV w N x o) (hy : AtV w K y o') (gx : x.pGood) (gy : y.pGood) (hn : NumErrs w) (zx : x.p.size ≤ 2147483647) (zy : y.p.size ≤ 2147483647) :
    Calls Tryd.prog 53 #[.pointer (some ⟨N, 0, none⟩), .pointer (some ⟨K, 0, none⟩)] w fun e w' => e = .returned (.bool (decide (x.cmp y < 0))) ∧ Below w.heap.size w w' := by
  go_enter Tryd.func53, Tryd.ntmps53
  go_wp2_with (go_at_call 48; refine (compare_any x y o o' N K _ hx hy gx gy hn zx zy).mono ?_; rintro e w1 ⟨rfl, hb⟩; have HB := Lib.hid hb; clear hb)
  go_ret
  exact ⟨ret_b (by simp), HB.out⟩
theorem lessEqPtr_any (x y : V) (o o' : ByteArray) (N K : Nat) (w : World) (hx : AtV w N x o) (hy : AtV w K y o') (gx : x.pGood) (gy : y.pGood) (hn : NumErrs w) (zx : x.p.size ≤ 2147483647) (zy : y.p.size ≤ 2147483647) :
    Calls Tryd.prog 54 #[.pointer (some ⟨N, 0, none⟩), .pointer (some ⟨K, 0, none⟩)] w fun e w' => e = .returned (.bool (decide (x.cmp y ≤ 0))) ∧ Below w.heap.size w w' := by
  go_enter Tryd.func54, Tryd.ntmps54
  go_wp2_with (go_at_call 48; refine (compare_any x y o o' N K _ hx hy gx gy hn zx zy).mono ?_; rintro e w1 ⟨rfl, hb⟩; have HB := Lib.hid hb; clear hb)
  go_ret
  exact ⟨ret_b (by simp), HB.out⟩
theorem greaterEqPtr_any (x y : V) (o o' : ByteArray) (N K : Nat) (w : World) (hx : AtV w N x o) (hy : AtV w K y o') (gx : x.pGood) (gy : y.pGood) (hn : NumErrs w) (zx : x.p.size ≤ 2147483647) (zy : y.p.size ≤ 2147483647) :
    Calls Tryd.prog 62 #[.pointer (some ⟨N, 0, none⟩), .pointer (some ⟨K, 0, none⟩)] w fun e w' => e = .returned (.bool (decide (x.cmp y ≥ 0))) ∧ Below w.heap.size w w' := by
  go_enter Tryd.func62, Tryd.ntmps62
  go_wp2_with (go_at_call 48; refine (compare_any x y o o' N K _ hx hy gx gy hn zx zy).mono ?_; rintro e w1 ⟨rfl, hb⟩; have HB := Lib.hid hb; clear hb)
  go_ret
  exact ⟨ret_b (by simp), HB.out⟩

set_option maxHeartbeats 1000000 in
theorem vCompare_any (x y : V) (w : World) (gx : x.pGood) (gy : y.pGood) (hn : NumErrs w) (zx : x.p.size ≤ 2147483647) (zy : y.p.size ≤ 2147483647) :
    Calls Tryd.prog 19 #[x.v, y.v] w fun e w' => e = .returned (.int .i64 (x.cmp y)) ∧ Below w.heap.size w w' := by
  have hv1 : x.v = .agg #[.int .u64 x.a, .int .u64 x.b, .int .u64 x.c, .string x.p, .string x.m] := rfl
  have hv2 : y.v = .agg #[.int .u64 y.a, .int .u64 y.b, .int .u64 y.c, .string y.p, .string y.m] := rfl
  rw [hv1, hv2]
  clear hv1 hv2
  have HN := Lib.hid hn
  have GX := Lib.hid gx
  have GY := Lib.hid gy
  clear hn gx gy
  go_enter Tryd.func19, Tryd.ntmps19
  go_wp2_with fail
  have hX : AtP ((w.alloc x.pc).alloc y.pc) w.heap.size x := heap_alloc_some (alloc_at _ _ _ rfl)
  have hY : AtP ((w.alloc x.pc).alloc y.pc) (w.heap.size + 1) y := alloc_at _ _ _ (by simp)
  have hW : Below w.heap.size w ((w.alloc x.pc).alloc y.pc) := by (repeat (first | exact Below.refl _ _ | apply Below.drew | (apply below_alloc_on (Nat.le_refl _))))
  unfold V.pc at hX hY hW
  generalize ((w.alloc (.cells #[.int .u64 x.a, .int .u64 x.b, .int .u64 x.c, .string x.p, .string x.m] 24)).alloc (.cells #[.int .u64 y.a, .int .u64 y.b, .int .u64 y.c, .string y.p, .string y.m] 24)) = W at *
  have HW := Lib.hid hW
  obtain ⟨c0, c1, c2, c3, c4⟩ := hX.cells
  obtain ⟨d0, d1, d2, d3, d4⟩ := hY.cells
  clear hX hY hW
  go_region_held3 (fun w' => w'.cell? ⟨w.heap.size, 0, none⟩ = some (.int .u64 x.a) ∧ w'.cell? ⟨w.heap.size, 1, none⟩ = some (.int .u64 x.b) ∧ w'.cell? ⟨w.heap.size, 2, none⟩ = some (.int .u64 x.c) ∧ w'.cell? ⟨w.heap.size, 3, none⟩ = some (.string x.p) ∧ w'.cell? ⟨w.heap.size, 4, none⟩ = some (.string x.m) ∧
    w'.cell? ⟨w.heap.size + 1, 0, none⟩ = some (.int .u64 y.a) ∧ w'.cell? ⟨w.heap.size + 1, 1, none⟩ = some (.int .u64 y.b) ∧ w'.cell? ⟨w.heap.size + 1, 2, none⟩ = some (.int .u64 y.c) ∧ w'.cell? ⟨w.heap.size + 1, 3, none⟩ = some (.string y.p) ∧ w'.cell? ⟨w.heap.size + 1, 4, none⟩ = some (.string y.m)) (first | (refine ⟨?_, ?_, ?_, ?_, ?_, ?_, ?_, ?_, ?_, ?_⟩ <;> (repeat (first | with_reducible assumption | with_reducible apply cell_alloc_some | with_reducible apply cell_drew_some | with_reducible refine cell_below (by with_reducible assumption) ?_ | with_reducible refine cell_set_other (by omega) ?_))) | fail) (first
    | (go_at_call 41; (with_reducible refine (version_x x _).mono ?_); rintro e w1 ⟨rfl, rfl⟩)
    | (go_at_call 41; (with_reducible refine (version_x y _).mono ?_); rintro e w2 ⟨rfl, rfl⟩)
    | (go_at_call 48; (with_reducible refine (compare_any x y ⟨#[]⟩ ⟨#[]⟩ _ _ _ (by unfold AtV; repeat (first | exact alloc_at _ _ _ (by simp) | apply heap_alloc_some | apply heap_drew_some)) (by unfold AtV; repeat (first | exact alloc_at _ _ _ (by simp) | apply heap_alloc_some | apply heap_drew_some)) GX.out GY.out (HN.out.below (Below.up HW.out (by (repeat (first | exact Below.refl _ _ | apply Below.drew | (apply below_alloc_on (Nat.le_refl _))))))) zx zy).mono ?_); rintro e w3 ⟨rfl, hb3⟩; have HB3 := Lib.hid (Below.up (w := W) (by (repeat (first | exact Below.refl _ _ | apply Below.drew | (apply below_alloc_on (Nat.le_refl _))))) hb3))
    | fail)
  go_wp2
  go_ret
  exact ⟨rfl, Below.up HW.out HB3.out⟩

set_option maxHeartbeats 1000000 in
theorem vLess_any (x y : V) (w : World) (gx : x.pGood) (gy : y.pGood) (hn : NumErrs w) (zx : x.p.size ≤ 2147483647) (zy : y.p.size ≤ 2147483647) :
    Calls Tryd.prog 23 #[x.v, y.v] w fun e w' => e = .returned (.bool (decide (x.cmp y < 0))) ∧ Below w.heap.size w w' := by
  have hv1 : x.v = .agg #[.int .u64 x.a, .int .u64 x.b, .int .u64 x.c, .string x.p, .string x.m] := rfl
  have hv2 : y.v = .agg #[.int .u64 y.a, .int .u64 y.b, .int .u64 y.c, .string y.p, .string y.m] := rfl
  rw [hv1, hv2]
  clear hv1 hv2
  have HN := Lib.hid hn
  have GX := Lib.hid gx
  have GY := Lib.hid gy
  clear hn gx gy
  go_enter Tryd.func23, Tryd.ntmps23
  go_wp2_with fail
  have hX : AtP ((w.alloc x.pc).alloc y.pc) w.heap.size x := heap_alloc_some (alloc_at _ _ _ rfl)
  have hY : AtP ((w.alloc x.pc).alloc y.pc) (w.heap.size + 1) y := alloc_at _ _ _ (by simp)
  have hW : Below w.heap.size w ((w.alloc x.pc).alloc y.pc) := by (repeat (first | exact Below.refl _ _ | apply Below.drew | (apply below_alloc_on (Nat.le_refl _))))
  unfold V.pc at hX hY hW
  generalize ((w.alloc (.cells #[.int .u64 x.a, .int .u64 x.b, .int .u64 x.c, .string x.p, .string x.m] 24)).alloc (.cells #[.int .u64 y.a, .int .u64 y.b, .int .u64 y.c, .string y.p, .string y.m] 24)) = W at *
  have HW := Lib.hid hW
  obtain ⟨c0, c1, c2, c3, c4⟩ := hX.cells
  obtain ⟨d0, d1, d2, d3, d4⟩ := hY.cells
  clear hX hY hW
  go_region_held3 (fun w' => w'.cell? ⟨w.heap.size, 0, none⟩ = some (.int .u64 x.a) ∧ w'.cell? ⟨w.heap.size, 1, none⟩ = some (.int .u64 x.b) ∧ w'.cell? ⟨w.heap.size, 2, none⟩ = some (.int .u64 x.c) ∧ w'.cell? ⟨w.heap.size, 3, none⟩ = some (.string x.p) ∧ w'.cell? ⟨w.heap.size, 4, none⟩ = some (.string x.m) ∧
    w'.cell? ⟨w.heap.size + 1, 0, none⟩ = some (.int .u64 y.a) ∧ w'.cell? ⟨w.heap.size + 1, 1, none⟩ = some (.int .u64 y.b) ∧ w'.cell? ⟨w.heap.size + 1, 2, none⟩ = some (.int .u64 y.c) ∧ w'.cell? ⟨w.heap.size + 1, 3, none⟩ = some (.string y.p) ∧ w'.cell? ⟨w.heap.size + 1, 4, none⟩ = some (.string y.m)) (first | (refine ⟨?_, ?_, ?_, ?_, ?_, ?_, ?_, ?_, ?_, ?_⟩ <;> (repeat (first | with_reducible assumption | with_reducible apply cell_alloc_some | with_reducible apply cell_drew_some | with_reducible refine cell_below (by with_reducible assumption) ?_ | with_reducible refine cell_set_other (by omega) ?_))) | fail) (first
    | (go_at_call 41; (with_reducible refine (version_x x _).mono ?_); rintro e w1 ⟨rfl, rfl⟩)
    | (go_at_call 41; (with_reducible refine (version_x y _).mono ?_); rintro e w2 ⟨rfl, rfl⟩)
    | (go_at_call 53; (with_reducible refine (lessPtr_any x y ⟨#[]⟩ ⟨#[]⟩ _ _ _ (by unfold AtV; repeat (first | exact alloc_at _ _ _ (by simp) | apply heap_alloc_some | apply heap_drew_some)) (by unfold AtV; repeat (first | exact alloc_at _ _ _ (by simp) | apply heap_alloc_some | apply heap_drew_some)) GX.out GY.out (HN.out.below (Below.up HW.out (by (repeat (first | exact Below.refl _ _ | apply Below.drew | (apply below_alloc_on (Nat.le_refl _))))))) zx zy).mono ?_); rintro e w3 ⟨rfl, hb3⟩; have HB3 := Lib.hid (Below.up (w := W) (by (repeat (first | exact Below.refl _ _ | apply Below.drew | (apply below_alloc_on (Nat.le_refl _))))) hb3))
    | fail)
  go_wp2
  go_ret
  exact ⟨rfl, Below.up HW.out HB3.out⟩

set_option maxHeartbeats 1000000 in
theorem vLessEqual_any (x y : V) (w : World) (gx : x.pGood) (gy : y.pGood) (hn : NumErrs w) (zx : x.p.size ≤ 2147483647) (zy : y.p.size ≤ 2147483647) :
    Calls Tryd.prog 24 #[x.v, y.v] w fun e w' => e = .returned (.bool (decide (x.cmp y ≤ 0))) ∧ Below w.heap.size w w' := by
  have hv1 : x.v = .agg #[.int .u64 x.a, .int .u64 x.b, .int .u64 x.c, .string x.p, .string x.m] := rfl
  have hv2 : y.v = .agg #[.int .u64 y.a, .int .u64 y.b, .int .u64 y.c, .string y.p, .string y.m] := rfl
  rw [hv1, hv2]
  clear hv1 hv2
  have HN := Lib.hid hn
  have GX := Lib.hid gx
  have GY := Lib.hid gy
  clear hn gx gy
  go_enter Tryd.func24, Tryd.ntmps24
  go_wp2_with fail
  have hX : AtP ((w.alloc x.pc).alloc y.pc) w.heap.size x := heap_alloc_some (alloc_at _ _ _ rfl)
  have hY : AtP ((w.alloc x.pc).alloc y.pc) (w.heap.size + 1) y := alloc_at _ _ _ (by simp)
  have hW : Below w.heap.size w ((w.alloc x.pc).alloc y.pc) := by (repeat (first | exact Below.refl _ _ | apply Below.drew | (apply below_alloc_on (Nat.le_refl _))))
  unfold V.pc at hX hY hW
  generalize ((w.alloc (.cells #[.int .u64 x.a, .int .u64 x.b, .int .u64 x.c, .string x.p, .string x.m] 24)).alloc (.cells #[.int .u64 y.a, .int .u64 y.b, .int .u64 y.c, .string y.p, .string y.m] 24)) = W at *
  have HW := Lib.hid hW
  obtain ⟨c0, c1, c2, c3, c4⟩ := hX.cells
  obtain ⟨d0, d1, d2, d3, d4⟩ := hY.cells
  clear hX hY hW
  go_region_held3 (fun w' => w'.cell? ⟨w.heap.size, 0, none⟩ = some (.int .u64 x.a) ∧ w'.cell? ⟨w.heap.size, 1, none⟩ = some (.int .u64 x.b) ∧ w'.cell? ⟨w.heap.size, 2, none⟩ = some (.int .u64 x.c) ∧ w'.cell? ⟨w.heap.size, 3, none⟩ = some (.string x.p) ∧ w'.cell? ⟨w.heap.size, 4, none⟩ = some (.string x.m) ∧
    w'.cell? ⟨w.heap.size + 1, 0, none⟩ = some (.int .u64 y.a) ∧ w'.cell? ⟨w.heap.size + 1, 1, none⟩ = some (.int .u64 y.b) ∧ w'.cell? ⟨w.heap.size + 1, 2, none⟩ = some (.int .u64 y.c) ∧ w'.cell? ⟨w.heap.size + 1, 3, none⟩ = some (.string y.p) ∧ w'.cell? ⟨w.heap.size + 1, 4, none⟩ = some (.string y.m)) (first | (refine ⟨?_, ?_, ?_, ?_, ?_, ?_, ?_, ?_, ?_, ?_⟩ <;> (repeat (first | with_reducible assumption | with_reducible apply cell_alloc_some | with_reducible apply cell_drew_some | with_reducible refine cell_below (by with_reducible assumption) ?_ | with_reducible refine cell_set_other (by omega) ?_))) | fail) (first
    | (go_at_call 41; (with_reducible refine (version_x x _).mono ?_); rintro e w1 ⟨rfl, rfl⟩)
    | (go_at_call 41; (with_reducible refine (version_x y _).mono ?_); rintro e w2 ⟨rfl, rfl⟩)
    | (go_at_call 54; (with_reducible refine (lessEqPtr_any x y ⟨#[]⟩ ⟨#[]⟩ _ _ _ (by unfold AtV; repeat (first | exact alloc_at _ _ _ (by simp) | apply heap_alloc_some | apply heap_drew_some)) (by unfold AtV; repeat (first | exact alloc_at _ _ _ (by simp) | apply heap_alloc_some | apply heap_drew_some)) GX.out GY.out (HN.out.below (Below.up HW.out (by (repeat (first | exact Below.refl _ _ | apply Below.drew | (apply below_alloc_on (Nat.le_refl _))))))) zx zy).mono ?_); rintro e w3 ⟨rfl, hb3⟩; have HB3 := Lib.hid (Below.up (w := W) (by (repeat (first | exact Below.refl _ _ | apply Below.drew | (apply below_alloc_on (Nat.le_refl _))))) hb3))
    | fail)
  go_wp2
  go_ret
  exact ⟨rfl, Below.up HW.out HB3.out⟩

set_option maxHeartbeats 1000000 in
theorem vGreaterEqual_any (x y : V) (w : World) (gx : x.pGood) (gy : y.pGood) (hn : NumErrs w) (zx : x.p.size ≤ 2147483647) (zy : y.p.size ≤ 2147483647) :
    Calls Tryd.prog 34 #[x.v, y.v] w fun e w' => e = .returned (.bool (decide (x.cmp y ≥ 0))) ∧ Below w.heap.size w w' := by
  have hv1 : x.v = .agg #[.int .u64 x.a, .int .u64 x.b, .int .u64 x.c, .string x.p, .string x.m] := rfl
  have hv2 : y.v = .agg #[.int .u64 y.a, .int .u64 y.b, .int .u64 y.c, .string y.p, .string y.m] := rfl
  rw [hv1, hv2]
  clear hv1 hv2
  have HN := Lib.hid hn
  have GX := Lib.hid gx
  have GY := Lib.hid gy
  clear hn gx gy
  go_enter Tryd.func34, Tryd.ntmps34
  go_wp2_with fail
  have hX : AtP ((w.alloc x.pc).alloc y.pc) w.heap.size x := heap_alloc_some (alloc_at _ _ _ rfl)
  have hY : AtP ((w.alloc x.pc).alloc y.pc) (w.heap.size + 1) y := alloc_at _ _ _ (by simp)
  have hW : Below w.heap.size w ((w.alloc x.pc).alloc y.pc) := by (repeat (first | exact Below.refl _ _ | apply Below.drew | (apply below_alloc_on (Nat.le_refl _))))
  unfold V.pc at hX hY hW
  generalize ((w.alloc (.cells #[.int .u64 x.a, .int .u64 x.b, .int .u64 x.c, .string x.p, .string x.m] 24)).alloc (.cells #[.int .u64 y.a, .int .u64 y.b, .int .u64 y.c, .string y.p, .string y.m] 24)) = W at *
  have HW := Lib.hid hW
  obtain ⟨c0, c1, c2, c3, c4⟩ := hX.cells
  obtain ⟨d0, d1, d2, d3, d4⟩ := hY.cells
  clear hX hY hW
  go_region_held3 (fun w' => w'.cell? ⟨w.heap.size, 0, none⟩ = some (.int .u64 x.a) ∧ w'.cell? ⟨w.heap.size, 1, none⟩ = some (.int .u64 x.b) ∧ w'.cell? ⟨w.heap.size, 2, none⟩ = some (.int .u64 x.c) ∧ w'.cell? ⟨w.heap.size, 3, none⟩ = some (.string x.p) ∧ w'.cell? ⟨w.heap.size, 4, none⟩ = some (.string x.m) ∧
    w'.cell? ⟨w.heap.size + 1, 0, none⟩ = some (.int .u64 y.a) ∧ w'.cell? ⟨w.heap.size + 1, 1, none⟩ = some (.int .u64 y.b) ∧ w'.cell? ⟨w.heap.size + 1, 2, none⟩ = some (.int .u64 y.c) ∧ w'.cell? ⟨w.heap.size + 1, 3, none⟩ = some (.string y.p) ∧ w'.cell? ⟨w.heap.size + 1, 4, none⟩ = some (.string y.m)) (first | (refine ⟨?_, ?_, ?_, ?_, ?_, ?_, ?_, ?_, ?_, ?_⟩ <;> (repeat (first | with_reducible assumption | with_reducible apply cell_alloc_some | with_reducible apply cell_drew_some | with_reducible refine cell_below (by with_reducible assumption) ?_ | with_reducible refine cell_set_other (by omega) ?_))) | fail) (first
    | (go_at_call 41; (with_reducible refine (version_x x _).mono ?_); rintro e w1 ⟨rfl, rfl⟩)
    | (go_at_call 41; (with_reducible refine (version_x y _).mono ?_); rintro e w2 ⟨rfl, rfl⟩)
    | (go_at_call 62; (with_reducible refine (greaterEqPtr_any x y ⟨#[]⟩ ⟨#[]⟩ _ _ _ (by unfold AtV; repeat (first | exact alloc_at _ _ _ (by simp) | apply heap_alloc_some | apply heap_drew_some)) (by unfold AtV; repeat (first | exact alloc_at _ _ _ (by simp) | apply heap_alloc_some | apply heap_drew_some)) GX.out GY.out (HN.out.below (Below.up HW.out (by (repeat (first | exact Below.refl _ _ | apply Below.drew | (apply below_alloc_on (Nat.le_refl _))))))) zx zy).mono ?_); rintro e w3 ⟨rfl, hb3⟩; have HB3 := Lib.hid (Below.up (w := W) (by (repeat (first | exact Below.refl _ _ | apply Below.drew | (apply below_alloc_on (Nat.le_refl _))))) hb3))
    | fail)
  go_wp2
  go_ret
  exact ⟨rfl, Below.up HW.out HB3.out⟩
end Go.Proofs.YtopaileliohpdaaDoor
