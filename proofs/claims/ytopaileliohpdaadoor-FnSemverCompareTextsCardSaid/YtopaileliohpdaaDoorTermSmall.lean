/-
  Small functions over terms: laws.zzFits13, laws.snAs, spec.Least; laws.svPre.
-/
import Derived.Test.YtopaileliohpdaaDoorStTerm
namespace Go.Proofs.YtopaileliohpdaaDoor
open Go.RowKit
set_option maxRecDepth 100000
set_option linter.unusedVariables false

theorem svPre_any (x : V) (s : ByteArray) (w : World) :
    Calls Tryd.prog 18 #[.agg #[.int .u64 x.a, .int .u64 x.b, .int .u64 x.c, .string x.p, .string x.m], .string s] w fun e w' => e = .returned (.agg #[.int .u64 x.a, .int .u64 x.b, .int .u64 x.c, .string s, .string x.m]) ∧ w' = (w.alloc (V.pc { x with p := s })).alloc (V.pc { x with p := s }) := by
  obtain ⟨a, b, c, p, m⟩ := x
  unfold V.pc
  simp only
  go_enter Tryd.func18, Tryd.ntmps18
  go_wp2
  refine post_ver1 rfl (w.heap.size + 1) ⟨a, b, c, s, m⟩ rfl rfl ?_ ⟨rfl, rfl⟩
  exact alloc_at _ _ _ (by simp)
theorem zzFits13_is (t : T) (r : Bool) (w : World) (h1 : t.p.size ≤ 140737488351232) (hr : Hid (decide (t.p.size ≤ 2147483647) = r)) :
    Calls Tryd.prog 25 #[.agg #[.int .i64 t.op, .int .i64 t.g, .int .u64 t.a, .int .u64 t.b, .int .u64 t.c, .string t.p]] w fun e w' => e = .returned (.bool r) ∧ Below w.heap.size w w' := by
  by_cases hp : t.p.size ≤ 2147483647
  · have HQ := Lib.hid (show r = true by rw [← hr.out, decide_eq_true hp])
    go_enter Tryd.func25, Tryd.ntmps25
    go_wp2
    go_ret
    exact ⟨ret_bool HQ.out.symm, below_alloc _ _⟩
  · have HQ := Lib.hid (show r = false by rw [← hr.out, decide_eq_false hp])
    go_enter Tryd.func25, Tryd.ntmps25
    go_wp2
    go_ret
    exact ⟨ret_bool HQ.out.symm, below_alloc _ _⟩
theorem snAs_any (t : T) (op : Int) (w : World) :
    Calls Tryd.prog 55 #[.agg #[.int .i64 t.op, .int .i64 t.g, .int .u64 t.a, .int .u64 t.b, .int .u64 t.c, .string t.p], .int .i64 op] w fun e w' => e = .returned (.agg #[.int .i64 op, .int .i64 t.g, .int .u64 t.a, .int .u64 t.b, .int .u64 t.c, .string t.p]) ∧ Below w.heap.size w w' := by
  go_enter Tryd.func55, Tryd.ntmps55
  go_wp2
  refine post_term rfl (w.heap.size + 1) { t with op := op } rfl rfl (alloc_at _ _ _ (by simp)) ⟨rfl, ?_⟩
  (repeat (first | exact Below.refl _ _ | apply Below.drew | (apply below_alloc_on (Nat.le_refl _))))
theorem least_any (t : T) (w : World) :
    Calls Tryd.prog 83 #[.agg #[.int .i64 t.op, .int .i64 t.g, .int .u64 t.a, .int .u64 t.b, .int .u64 t.c, .string t.p]] w fun e w' => e = .returned (.agg #[.int .u64 t.a, .int .u64 t.b, .int .u64 t.c, .string t.p, .string ⟨#[]⟩]) ∧ Below w.heap.size w w' := by
  go_enter Tryd.func83, Tryd.ntmps83
  go_wp2
  refine post_ver1 rfl (w.heap.size + 1) t.ver rfl rfl ?_ ⟨rfl, ?_⟩
  · exact alloc_at _ _ _ (by simp)
  · (repeat (first | exact Below.refl _ _ | apply Below.drew | (apply below_alloc_on (Nat.le_refl _))))
end Go.Proofs.YtopaileliohpdaaDoor
