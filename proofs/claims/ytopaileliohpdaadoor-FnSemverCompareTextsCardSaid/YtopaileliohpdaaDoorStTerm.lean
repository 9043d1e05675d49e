/-
  laws.stTerm, spec.Bare; laws.svGood of two.
-/
import Derived.Test.YtopaileliohpdaaDoorBelow
import Derived.Test.YtopaileliohpdaaDoorMetaSet
namespace Go.Proofs.YtopaileliohpdaaDoor
open Go.RowKit
set_option maxRecDepth 100000
set_option linter.unusedVariables false

def T.val (t : T) : Value := .agg #[.int .i64 t.op, .int .i64 t.g, .int .u64 t.a, .int .u64 t.b, .int .u64 t.c, .string t.p]
/-- the term that stTerm makes of a version's first numbers -/
def V.term (x : V) (op : Int) (k : Nat) : T := ⟨op, k, x.a, if k > 1 then x.b else 0, if k > 2 then x.c else 0, if k > 2 then x.p else ⟨#[]⟩⟩
def AtT (w : World) (N : Nat) (t : T) : Prop := w.heap[N]? = some (.cells #[.int .i64 t.op, .int .i64 t.g, .int .u64 t.a, .int .u64 t.b, .int .u64 t.c, .string t.p] 39 (0, 0))
theorem post_term {fn : Func} {p : Tmp} (h : fn.results = #[.cell p 39]) {R : Ending → World → Prop} {a : Act} {w : World} (N : Nat) (t : T) (hd : a.defers = [])
    (hp : a.tmps.getD p undef = .pointer (some ⟨N, 0, none⟩)) (hat : AtT w N t) (hR : R (.returned t.val) w) : bodyPost Tryd.prog fn R .ret a w :=
  bodyPost_ret (results_cell_row h _ _ N _ _ (0, 0) _ hp hat Tryd.underlying39 rfl (by kernel_rfl)) hd hR

set_option maxHeartbeats 1000000 in
theorem stTerm_3 (op : Int) (x : V) (w : World) : Calls Tryd.prog 29 #[.int .i64 op, .agg #[.int .u64 x.a, .int .u64 x.b, .int .u64 x.c, .string x.p, .string x.m], .int .i64 3] w fun e w' => e = .returned (T.val ⟨op, 3, x.a, x.b, x.c, x.p⟩) ∧ Below w.heap.size w w' := by
  go_enter Tryd.func29, Tryd.ntmps29
  go_wp2
  go_region_with (first | fail)
  all_goals go_wp2
  all_goals
    refine post_term rfl (w.heap.size + 1) ⟨op, 3, x.a, x.b, x.c, x.p⟩ rfl rfl (heap_drew_some (heap_alloc_some (alloc_at _ _ _ (by simp)))) ⟨rfl, ?_⟩
    (repeat (first | exact Below.refl _ _ | apply Below.drew | (apply below_alloc_on (Nat.le_refl _))))
theorem stTerm_1 (op : Int) (x : V) (w : World) : Calls Tryd.prog 29 #[.int .i64 op, .agg #[.int .u64 x.a, .int .u64 x.b, .int .u64 x.c, .string x.p, .string x.m], .int .i64 1] w fun e w' => e = .returned (T.val ⟨op, 1, x.a, 0, 0, ⟨#[]⟩⟩) ∧ Below w.heap.size w w' := by
  go_enter Tryd.func29, Tryd.ntmps29
  go_wp2
  refine post_term rfl (w.heap.size + 1) ⟨op, 1, x.a, 0, 0, ⟨#[]⟩⟩ rfl rfl (heap_alloc_some (alloc_at _ _ _ (by simp))) ⟨rfl, ?_⟩
  (repeat (first | exact Below.refl _ _ | apply Below.drew | (apply below_alloc_on (Nat.le_refl _))))
theorem stTerm_2 (op : Int) (x : V) (w : World) : Calls Tryd.prog 29 #[.int .i64 op, .agg #[.int .u64 x.a, .int .u64 x.b, .int .u64 x.c, .string x.p, .string x.m], .int .i64 2] w fun e w' => e = .returned (T.val ⟨op, 2, x.a, x.b, 0, ⟨#[]⟩⟩) ∧ Below w.heap.size w w' := by
  go_enter Tryd.func29, Tryd.ntmps29
  go_wp2
  refine post_term rfl (w.heap.size + 1) ⟨op, 2, x.a, x.b, 0, ⟨#[]⟩⟩ rfl rfl (heap_alloc_some (alloc_at _ _ _ (by simp))) ⟨rfl, ?_⟩
  (repeat (first | exact Below.refl _ _ | apply Below.drew | (apply below_alloc_on (Nat.le_refl _))))
theorem bare_any (x : V) (w : World) : Calls Tryd.prog 30 #[.agg #[.int .u64 x.a, .int .u64 x.b, .int .u64 x.c, .string x.p, .string x.m]] w fun e w' => e = .returned (.agg #[.int .u64 x.a, .int .u64 x.b, .int .u64 x.c, .string ⟨#[]⟩, .string ⟨#[]⟩]) ∧ Below w.heap.size w w' := by
  go_enter Tryd.func30, Tryd.ntmps30
  go_wp2
  refine post_ver1 rfl (w.heap.size + 1) ⟨x.a, x.b, x.c, ⟨#[]⟩, ⟨#[]⟩⟩ rfl rfl ?_ ⟨rfl, ?_⟩
  · exact alloc_at _ _ _ (by simp)
  · (repeat (first | exact Below.refl _ _ | apply Below.drew | (apply below_alloc_on (Nat.le_refl _))))
theorem ReadV.two (w : World) (t : TypeId) (x y : V) : ReadV (w.alloc (.cells #[.int .u64 x.a, .int .u64 x.b, .int .u64 x.c, .string x.p, .string x.m, .int .u64 y.a, .int .u64 y.b, .int .u64 y.c, .string y.p, .string y.m] t)) (.slice (some ⟨w.heap.size, 0, none⟩) 2 2) [x, y] := by
  refine ⟨some ⟨w.heap.size, 0, none⟩, 2, rfl, fun i hi => ⟨w.heap.size, 0, rfl, by simp, ?_⟩⟩
  have hi3 : i < 2 := hi
  obtain rfl | rfl : i = 0 ∨ i = 1 := by omega
  all_goals refine ⟨?_, ?_, ?_, ?_, ?_⟩ <;> go_simp
theorem svGood_two_at (n : Nat) (w : World) (t : TypeId) (x y : V) (r : Bool) (hn : n = w.heap.size) (hz : Hid (x.p.size ≤ 2147483647 ∧ x.m.size ≤ 2147483647)) (hz2 : Hid (y.p.size ≤ 2147483647 ∧ y.m.size ≤ 2147483647)) (hr : Hid ((x.law && y.law) = r)) :
    Calls Tryd.prog 12 #[.slice (some ⟨n, 0, none⟩) 2 2] (w.alloc (.cells #[.int .u64 x.a, .int .u64 x.b, .int .u64 x.c, .string x.p, .string x.m, .int .u64 y.a, .int .u64 y.b, .int .u64 y.c, .string y.p, .string y.m] t)) fun e w' => e = .returned (.bool r) ∧ Below w.heap.size w w' := by
  subst hn
  have := svGood_any _ [x, y] _ (ReadV.two w t x y) (by simp) (by simpa using ⟨hz.out, hz2.out⟩)
  simp only [List.all_cons, List.all_nil, Bool.and_true, hr.out] at this
  exact this.mono fun e w' h => ⟨h.1, Below.up (below_alloc _ _) h.2⟩
end Go.Proofs.YtopaileliohpdaaDoor
