/-
  laws.stBare.
-/
import Derived.Test.YtopaileliohpdaaDoorAboveH
import Derived.Test.YtopaileliohpdaaDoorIncLaw
namespace Go.Proofs.YtopaileliohpdaaDoor
open Go.RowKit
set_option maxRecDepth 100000
set_option linter.unusedVariables false

def V.strip (x : V) : V := ⟨x.a, x.b, x.c, ⟨#[]⟩, ⟨#[]⟩⟩
theorem results_ver2 {fn : Func} {p q u : Tmp} (h : fn.results = #[.cell p 24, .cell q 24, .tmp u]) (tmps : Array Value) (w : World) (N K : Nat) (x y : V) (v : Value)
    (hp : tmps.getD p undef = .pointer (some ⟨N, 0, none⟩)) (hq : tmps.getD q undef = .pointer (some ⟨K, 0, none⟩)) (hu : tmps.getD u undef = v) (h1 : AtP w N x) (h2 : AtP w K y) : (results fn tmps).run Tryd.prog w = .ok (.tuple #[x.v, y.v, v]) w := by
  unfold AtP V.pc at h1 h2
  have hp' : tmps[p]?.getD undef = .pointer (some ⟨N, 0, none⟩) := by simpa using hp
  have hq' : tmps[q]?.getD undef = .pointer (some ⟨K, 0, none⟩) := by simpa using hq
  have hu' : tmps[u]?.getD undef = v := by simpa using hu
  simp [results, h, hp', hq', hu', asAddr, Sem.run_bind, Result.andThen, run_loadVar_row w N _ _ _ _ _ h1 Tryd.underlying24 rfl (by kernel_rfl), run_loadVar_row w K _ _ _ _ _ h2 Tryd.underlying24 rfl (by kernel_rfl), V.v]

theorem post_ver2 {fn : Func} {p q u : Tmp} (h : fn.results = #[.cell p 24, .cell q 24, .tmp u]) {R : Ending → World → Prop} {a : Act} {w : World} (N K : Nat) (x y : V) (v : Value) (hd : a.defers = [])
    (hp : a.tmps.getD p undef = .pointer (some ⟨N, 0, none⟩)) (hq : a.tmps.getD q undef = .pointer (some ⟨K, 0, none⟩)) (hu : a.tmps.getD u undef = v) (h1 : AtP w N x) (h2 : AtP w K y) (hR : R (.returned (.tuple #[x.v, y.v, v])) w) : bodyPost Tryd.prog fn R .ret a w :=
  bodyPost_ret (results_ver2 h _ _ N K x y v hp hq hu h1 h2) hd hR
theorem AtP.aside {w : World} {N M : Nat} {x : V} (h : AtP w N x) (hn : N ≠ M) (v0 v1 v2 v3 v4 : Value) :
    AtP (((((w.setCell ⟨M, 0, none⟩ v0).setCell ⟨M, 1, none⟩ v1).setCell ⟨M, 2, none⟩ v2).setCell ⟨M, 3, none⟩ v3).setCell ⟨M, 4, none⟩ v4) N x := AtP.other5 h hn v0 v1 v2 v3 v4

set_option maxHeartbeats 4000000 in
theorem stBare_is (x y : V) (k : Int) (r : Bool) (w : World) (hr : (k < 1 ∧ r = false) ∨ ((¬ k < 1 ∧ 3 < k) ∧ r = false) ∨ ((¬ k < 1 ∧ ¬ 3 < k) ∧ r = true)) :
    Calls Tryd.prog 31 #[.agg #[.int .u64 x.a, .int .u64 x.b, .int .u64 x.c, .string x.p, .string x.m], .agg #[.int .u64 y.a, .int .u64 y.b, .int .u64 y.c, .string y.p, .string y.m], .int .i64 k] w fun e w' => e = .returned (.tuple #[V.v x.strip, V.v y.strip, .bool r]) ∧ Below w.heap.size w w' := by
  go_enter Tryd.func31, Tryd.ntmps31
  go_wp2_with fail
  have hX : AtP ((((w.alloc (.cells #[.int .u64 x.a, .int .u64 x.b, .int .u64 x.c, .string x.p, .string x.m] 24)).alloc (.cells #[.int .u64 y.a, .int .u64 y.b, .int .u64 y.c, .string y.p, .string y.m] 24)).alloc (.cells #[.int .u64 0, .int .u64 0, .int .u64 0, .string ⟨#[]⟩, .string ⟨#[]⟩] 24)).alloc (.cells #[.int .u64 0, .int .u64 0, .int .u64 0, .string ⟨#[]⟩, .string ⟨#[]⟩] 24)) w.heap.size x := heap_alloc_some (heap_alloc_some (heap_alloc_some (alloc_at _ _ _ rfl)))
  have hY : AtP ((((w.alloc (.cells #[.int .u64 x.a, .int .u64 x.b, .int .u64 x.c, .string x.p, .string x.m] 24)).alloc (.cells #[.int .u64 y.a, .int .u64 y.b, .int .u64 y.c, .string y.p, .string y.m] 24)).alloc (.cells #[.int .u64 0, .int .u64 0, .int .u64 0, .string ⟨#[]⟩, .string ⟨#[]⟩] 24)).alloc (.cells #[.int .u64 0, .int .u64 0, .int .u64 0, .string ⟨#[]⟩, .string ⟨#[]⟩] 24)) (w.heap.size + 1) y := heap_alloc_some (heap_alloc_some (alloc_at _ _ _ (by simp)))
  have hZ1 : AtP ((((w.alloc (.cells #[.int .u64 x.a, .int .u64 x.b, .int .u64 x.c, .string x.p, .string x.m] 24)).alloc (.cells #[.int .u64 y.a, .int .u64 y.b, .int .u64 y.c, .string y.p, .string y.m] 24)).alloc (.cells #[.int .u64 0, .int .u64 0, .int .u64 0, .string ⟨#[]⟩, .string ⟨#[]⟩] 24)).alloc (.cells #[.int .u64 0, .int .u64 0, .int .u64 0, .string ⟨#[]⟩, .string ⟨#[]⟩] 24)) (w.heap.size + 1 + 1) V.zero := heap_alloc_some (alloc_at _ _ _ (by simp))
  have hZ2 : AtP ((((w.alloc (.cells #[.int .u64 x.a, .int .u64 x.b, .int .u64 x.c, .string x.p, .string x.m] 24)).alloc (.cells #[.int .u64 y.a, .int .u64 y.b, .int .u64 y.c, .string y.p, .string y.m] 24)).alloc (.cells #[.int .u64 0, .int .u64 0, .int .u64 0, .string ⟨#[]⟩, .string ⟨#[]⟩] 24)).alloc (.cells #[.int .u64 0, .int .u64 0, .int .u64 0, .string ⟨#[]⟩, .string ⟨#[]⟩] 24)) (w.heap.size + 1 + 1 + 1) V.zero := alloc_at _ _ _ (by simp)
  have hW : Below w.heap.size w ((((w.alloc (.cells #[.int .u64 x.a, .int .u64 x.b, .int .u64 x.c, .string x.p, .string x.m] 24)).alloc (.cells #[.int .u64 y.a, .int .u64 y.b, .int .u64 y.c, .string y.p, .string y.m] 24)).alloc (.cells #[.int .u64 0, .int .u64 0, .int .u64 0, .string ⟨#[]⟩, .string ⟨#[]⟩] 24)).alloc (.cells #[.int .u64 0, .int .u64 0, .int .u64 0, .string ⟨#[]⟩, .string ⟨#[]⟩] 24)) := by (repeat (first | exact Below.refl _ _ | apply Below.drew | (apply below_alloc_on (Nat.le_refl _))))
  generalize ((((w.alloc (.cells #[.int .u64 x.a, .int .u64 x.b, .int .u64 x.c, .string x.p, .string x.m] 24)).alloc (.cells #[.int .u64 y.a, .int .u64 y.b, .int .u64 y.c, .string y.p, .string y.m] 24)).alloc (.cells #[.int .u64 0, .int .u64 0, .int .u64 0, .string ⟨#[]⟩, .string ⟨#[]⟩] 24)).alloc (.cells #[.int .u64 0, .int .u64 0, .int .u64 0, .string ⟨#[]⟩, .string ⟨#[]⟩] 24)) = W at *
  have HW := Lib.hid hW
  have HY := Lib.hid hY
  have HZ1 := Lib.hid hZ1
  have HZ2 := Lib.hid hZ2
  obtain ⟨c0, c1, c2, c3, c4⟩ := hX.cells
  obtain ⟨d0, d1, d2, d3, d4⟩ := hY.cells
  clear hX hY hW hZ1 hZ2
  rcases hr with ⟨j1, rfl⟩ | ⟨⟨j1, j2⟩, rfl⟩ | ⟨⟨j1, j2⟩, rfl⟩
  · have i1 : decide (1 ≤ k) = false := decide_eq_false (by omega)
    clear j1
    first
      | (go_region_with (first
        | (go_at_call 30; (with_reducible refine (bare_any x _).mono ?_); rintro e w1 ⟨rfl, hb1⟩; have HB1 := Lib.hid (Below.up (w := W) (by (repeat (first | exact Below.refl _ _ | apply Below.drew | (apply below_alloc_on (Nat.le_refl _))))) hb1); obtain ⟨e0, e1, e2, e3, e4⟩ := (AtP.below HY.out HB1.out).cells; clear hb1)
        | (go_at_call 30; (with_reducible refine (bare_any y _).mono ?_); rintro e w2 ⟨rfl, hb2⟩; have HB2 := Lib.hid (Below.up HB1.out (Below.up (w := w1) (by (repeat (first | exact Below.refl _ _ | apply Below.drew | (apply below_alloc_on (Nat.le_refl _))))) hb2)); have y1 : AtP w2 (w.heap.size + 1 + 1) V.zero := AtP.below HZ1.out HB2.out; have y2 : AtP w2 (w.heap.size + 1 + 1 + 1) V.zero := AtP.below HZ2.out HB2.out; obtain ⟨g0, g1, g2, g3, g4⟩ := y1.cells; obtain ⟨q0, q1, q2, q3, q4⟩ := y2.cells; have l0 := y1.loose 0; have l1 := y1.loose 1; have l2 := y1.loose 2; have l3 := y1.loose 3; have l4 := y1.loose 4; have n0 := y2.loose 0; have n1 := y2.loose 1; have n2 := y2.loose 2; have n3 := y2.loose 3; have n4 := y2.loose 4; have Y1 := Lib.hid y1; have Y2 := Lib.hid y2; clear y1 y2 hb2)
        | fail))
      | fail
    all_goals go_wp2
    all_goals
      refine post_ver2 rfl (w.heap.size + 1 + 1) (w.heap.size + 1 + 1 + 1) x.strip y.strip (.bool false) rfl rfl rfl rfl ?_ ?_ ⟨rfl, ?_⟩
      · first
          | exact AtP.aside (AtP.store5 Y1.out x.strip) (by omega) _ _ _ _ _
          | exact AtP.store5 (AtP.aside Y1.out (by omega) _ _ _ _ _) x.strip
      · first
          | exact AtP.store5 (AtP.aside Y2.out (by omega) _ _ _ _ _) y.strip
          | exact AtP.aside (AtP.store5 Y2.out y.strip) (by omega) _ _ _ _ _
      · exact up_store5 (up_store5 (Below.up HW.out HB2.out) (by omega) _ _ _ _ _) (by omega) _ _ _ _ _
  · have i1 : decide (1 ≤ k) = true := decide_eq_true (by omega)
    have i2 : decide (k ≤ 3) = false := decide_eq_false (by omega)
    clear j1 j2
    first
      | (go_region_held3 (fun w' => w'.cell? ⟨w.heap.size, 0, none⟩ = some (.int .u64 x.a) ∧ w'.cell? ⟨w.heap.size, 1, none⟩ = some (.int .u64 x.b) ∧ w'.cell? ⟨w.heap.size, 2, none⟩ = some (.int .u64 x.c) ∧ w'.cell? ⟨w.heap.size, 3, none⟩ = some (.string x.p) ∧ w'.cell? ⟨w.heap.size, 4, none⟩ = some (.string x.m) ∧ w'.cell? ⟨w.heap.size + 1, 0, none⟩ = some (.int .u64 y.a) ∧ w'.cell? ⟨w.heap.size + 1, 1, none⟩ = some (.int .u64 y.b) ∧ w'.cell? ⟨w.heap.size + 1, 2, none⟩ = some (.int .u64 y.c) ∧ w'.cell? ⟨w.heap.size + 1, 3, none⟩ = some (.string y.p) ∧ w'.cell? ⟨w.heap.size + 1, 4, none⟩ = some (.string y.m)) (first | (refine ⟨?_, ?_, ?_, ?_, ?_, ?_, ?_, ?_, ?_, ?_⟩ <;> (repeat (first | with_reducible assumption | with_reducible apply cell_alloc_some | with_reducible apply cell_drew_some | with_reducible refine cell_below (by with_reducible assumption) ?_ | with_reducible refine cell_set_other (by omega) ?_))) | fail) (first
          | (go_at_call 30; (with_reducible refine (bare_any x _).mono ?_); rintro e w1 ⟨rfl, hb1⟩; have HB1 := Lib.hid (Below.up (w := W) (by (repeat (first | exact Below.refl _ _ | apply Below.drew | (apply below_alloc_on (Nat.le_refl _))))) hb1))
          | (go_at_call 30; (with_reducible refine (bare_any y _).mono ?_); rintro e w2 ⟨rfl, hb2⟩; have HB2 := Lib.hid (Below.up HB1.out (Below.up (w := w1) (by (repeat (first | exact Below.refl _ _ | apply Below.drew | (apply below_alloc_on (Nat.le_refl _))))) hb2)); have y1 : AtP w2 (w.heap.size + 1 + 1) V.zero := AtP.below HZ1.out HB2.out; have y2 : AtP w2 (w.heap.size + 1 + 1 + 1) V.zero := AtP.below HZ2.out HB2.out; obtain ⟨g0, g1, g2, g3, g4⟩ := y1.cells; obtain ⟨q0, q1, q2, q3, q4⟩ := y2.cells; have l0 := y1.loose 0; have l1 := y1.loose 1; have l2 := y1.loose 2; have l3 := y1.loose 3; have l4 := y1.loose 4; have n0 := y2.loose 0; have n1 := y2.loose 1; have n2 := y2.loose 2; have n3 := y2.loose 3; have n4 := y2.loose 4; have Y1 := Lib.hid y1; have Y2 := Lib.hid y2; clear y1 y2)
          | fail))
      | fail
    all_goals go_wp2
    all_goals
      refine post_ver2 rfl (w.heap.size + 1 + 1) (w.heap.size + 1 + 1 + 1) x.strip y.strip (.bool false) rfl rfl rfl rfl ?_ ?_ ⟨rfl, ?_⟩
      · first
          | exact AtP.aside (AtP.store5 Y1.out x.strip) (by omega) _ _ _ _ _
          | exact AtP.store5 (AtP.aside Y1.out (by omega) _ _ _ _ _) x.strip
      · first
          | exact AtP.store5 (AtP.aside Y2.out (by omega) _ _ _ _ _) y.strip
          | exact AtP.aside (AtP.store5 Y2.out y.strip) (by omega) _ _ _ _ _
      · exact up_store5 (up_store5 (Below.up HW.out HB2.out) (by omega) _ _ _ _ _) (by omega) _ _ _ _ _
  · have i1 : decide (1 ≤ k) = true := decide_eq_true (by omega)
    have i2 : decide (k ≤ 3) = true := decide_eq_true (by omega)
    clear j1 j2
    first
      | (go_region_held3 (fun w' => w'.cell? ⟨w.heap.size, 0, none⟩ = some (.int .u64 x.a) ∧ w'.cell? ⟨w.heap.size, 1, none⟩ = some (.int .u64 x.b) ∧ w'.cell? ⟨w.heap.size, 2, none⟩ = some (.int .u64 x.c) ∧ w'.cell? ⟨w.heap.size, 3, none⟩ = some (.string x.p) ∧ w'.cell? ⟨w.heap.size, 4, none⟩ = some (.string x.m) ∧ w'.cell? ⟨w.heap.size + 1, 0, none⟩ = some (.int .u64 y.a) ∧ w'.cell? ⟨w.heap.size + 1, 1, none⟩ = some (.int .u64 y.b) ∧ w'.cell? ⟨w.heap.size + 1, 2, none⟩ = some (.int .u64 y.c) ∧ w'.cell? ⟨w.heap.size + 1, 3, none⟩ = some (.string y.p) ∧ w'.cell? ⟨w.heap.size + 1, 4, none⟩ = some (.string y.m)) (first | (refine ⟨?_, ?_, ?_, ?_, ?_, ?_, ?_, ?_, ?_, ?_⟩ <;> (repeat (first | with_reducible assumption | with_reducible apply cell_alloc_some | with_reducible apply cell_drew_some | with_reducible refine cell_below (by with_reducible assumption) ?_ | with_reducible refine cell_set_other (by omega) ?_))) | fail) (first
          | (go_at_call 30; (with_reducible refine (bare_any x _).mono ?_); rintro e w1 ⟨rfl, hb1⟩; have HB1 := Lib.hid (Below.up (w := W) (by (repeat (first | exact Below.refl _ _ | apply Below.drew | (apply below_alloc_on (Nat.le_refl _))))) hb1))
          | (go_at_call 30; (with_reducible refine (bare_any y _).mono ?_); rintro e w2 ⟨rfl, hb2⟩; have HB2 := Lib.hid (Below.up HB1.out (Below.up (w := w1) (by (repeat (first | exact Below.refl _ _ | apply Below.drew | (apply below_alloc_on (Nat.le_refl _))))) hb2)); have y1 : AtP w2 (w.heap.size + 1 + 1) V.zero := AtP.below HZ1.out HB2.out; have y2 : AtP w2 (w.heap.size + 1 + 1 + 1) V.zero := AtP.below HZ2.out HB2.out; obtain ⟨g0, g1, g2, g3, g4⟩ := y1.cells; obtain ⟨q0, q1, q2, q3, q4⟩ := y2.cells; have l0 := y1.loose 0; have l1 := y1.loose 1; have l2 := y1.loose 2; have l3 := y1.loose 3; have l4 := y1.loose 4; have n0 := y2.loose 0; have n1 := y2.loose 1; have n2 := y2.loose 2; have n3 := y2.loose 3; have n4 := y2.loose 4; have Y1 := Lib.hid y1; have Y2 := Lib.hid y2; clear y1 y2)
          | fail))
      | fail
    all_goals go_wp2
    all_goals
      refine post_ver2 rfl (w.heap.size + 1 + 1) (w.heap.size + 1 + 1 + 1) x.strip y.strip (.bool true) rfl rfl rfl rfl ?_ ?_ ⟨rfl, ?_⟩
      · first
          | exact AtP.aside (AtP.store5 Y1.out x.strip) (by omega) _ _ _ _ _
          | exact AtP.store5 (AtP.aside Y1.out (by omega) _ _ _ _ _) x.strip
      · first
          | exact AtP.store5 (AtP.aside Y2.out (by omega) _ _ _ _ _) y.strip
          | exact AtP.aside (AtP.store5 Y2.out y.strip) (by omega) _ _ _ _ _
      · exact up_store5 (up_store5 (Below.up HW.out HB2.out) (by omega) _ _ _ _ _) (by omega) _ _ _ _ _
end Go.Proofs.YtopaileliohpdaaDoor
