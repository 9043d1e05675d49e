/-
  spec.ComparePre, spec.Compare.
-/
import Derived.Test.YtopaileliohpdaaDoorSpecPre
namespace Go.Proofs.YtopaileliohpdaaDoor
open Go.RowKit
set_option maxRecDepth 100000
set_option linter.unusedVariables false

theorem specPre_any (s o : ByteArray) (w : World) (hs : s.size ≤ 2147483647) (ho : o.size ≤ 2147483647) :
    Calls Tryd.prog 66 #[.string s, .string o] w fun e w' => e = .returned (.int .i64 (M.preCmp (M.bs s) (M.bs o))) ∧ Below w.heap.size w w' := by
  obtain ⟨q, hq⟩ : ∃ q, M.preCmp (M.bs s) (M.bs o) = q := ⟨_, rfl⟩
  rw [hq]
  unfold M.preCmp at hq
  by_cases e : M.bs s = M.bs o
  · have he := bs_inj e
    subst he
    have HQ := Lib.hid (show q = 0 by
      rw [← hq]
      by_cases h : M.bs s = []
      · rw [if_pos h, if_pos h]
      · rw [if_neg h, if_neg h]; exact (M.cmpPre_cmp.iff _ _).2 rfl)
    clear hq e
    go_enter Tryd.func66, Tryd.ntmps66
    go_wp2
    go_ret
    exact ⟨ret_int HQ.out.symm, Below.refl _ _⟩
  have e1 := ne_toList e
  by_cases es : M.bs s = []
  · have eo : ¬ M.bs o = [] := fun h => e (es.trans h.symm)
    have h1 : s.toList = [] := empty_toList es
    have h2 : o.toList.isEmpty = false := nonempty_toList eo
    have HQ := Lib.hid (show q = 1 by rw [← hq, if_pos es, if_neg eo])
    clear hq e es eo
    go_enter Tryd.func66, Tryd.ntmps66
    go_wp2
    go_ret
    exact ⟨ret_int HQ.out.symm, Below.refl _ _⟩
  by_cases eo : M.bs o = []
  · have h1 : o.toList = [] := empty_toList eo
    have h2 : s.toList.isEmpty = false := nonempty_toList es
    have HQ := Lib.hid (show q = -1 by rw [← hq, if_neg es, if_pos eo])
    clear hq e es eo
    go_enter Tryd.func66, Tryd.ntmps66
    go_wp2
    go_ret
    exact ⟨ret_int HQ.out.symm, Below.refl _ _⟩
  rw [if_neg es, if_neg eo] at hq
  rw [← hq]
  exact specPre_ne s o w hs ho e1 (nonempty_toList es) (nonempty_toList eo)

theorem specNumbers_is (x y : V) (r : Int) (w : World) (hr : Hid (x.nums3 y = r)) :
    Calls Tryd.prog 65 #[.agg #[.int .u64 x.a, .int .u64 x.b, .int .u64 x.c, .string x.p, .string x.m], .agg #[.int .u64 y.a, .int .u64 y.b, .int .u64 y.c, .string y.p, .string y.m], .int .i64 3] w fun e w' => e = .returned (.int .i64 r) ∧ Below w.heap.size w w' := by
  have := specNumbers_3 x y w
  rw [hr.out] at this
  exact this
theorem specPre_is (s o : ByteArray) (r : Int) (w : World) (hs : s.size ≤ 2147483647) (ho : o.size ≤ 2147483647) (hr : Hid (M.preCmp (M.bs s) (M.bs o) = r)) :
    Calls Tryd.prog 66 #[.string s, .string o] w fun e w' => e = .returned (.int .i64 r) ∧ Below w.heap.size w w' := by
  have := specPre_any s o w hs ho
  rw [hr.out] at this
  exact this

set_option maxHeartbeats 1000000 in
theorem specCompare_any (x y : V) (w : World) (zx : x.p.size ≤ 2147483647) (zy : y.p.size ≤ 2147483647) :
    Calls Tryd.prog 40 #[.agg #[.int .u64 x.a, .int .u64 x.b, .int .u64 x.c, .string x.p, .string x.m], .agg #[.int .u64 y.a, .int .u64 y.b, .int .u64 y.c, .string y.p, .string y.m]] w fun e w' => e = .returned (.int .i64 (x.cmp y)) ∧ Below w.heap.size w w' := by
  obtain ⟨q, hq⟩ : ∃ q, x.cmp y = q := ⟨_, rfl⟩
  rw [hq]
  unfold V.cmp at hq
  obtain ⟨r, hr⟩ : ∃ r, x.nums3 y = r := ⟨_, rfl⟩
  rw [hr] at hq
  have HR := Lib.hid hr
  clear hr
  by_cases h0 : r = 0
  · subst h0
    have HP : Hid (M.preCmp (M.bs x.p) (M.bs y.p) = q) := Lib.hid (by rw [← hq, if_neg (by simp)])
    clear hq
    go_enter Tryd.func40, Tryd.ntmps40
    go_wp2_with (first
      | (go_at_call 65; (with_reducible refine (specNumbers_is x y 0 _ HR).mono ?_); rintro e w1 ⟨rfl, hb⟩; have hx : AtP w1 w.heap.size x := AtP.below (heap_alloc_some (alloc_at _ _ _ rfl)) hb; have hy : AtP w1 (w.heap.size + 1) y := AtP.below (alloc_at _ _ _ (by simp)) hb; obtain ⟨a0, a1, a2, a3, a4⟩ := hx.cells; obtain ⟨b0, b1, b2, b3, b4⟩ := hy.cells; have HB1 := Lib.hid (Below.up (w := w) (by (repeat (first | exact Below.refl _ _ | apply Below.drew | (apply below_alloc_on (Nat.le_refl _))))) hb); clear hx hy hb)
      | (go_at_call 66; (with_reducible refine (specPre_is x.p y.p q _ zx zy HP).mono ?_); rintro e w2 ⟨rfl, hb⟩; have HB2 := Lib.hid (Below.up HB1.out hb); clear hb))
    go_ret
    exact ⟨rfl, HB2.out⟩
  · have HQ := Lib.hid (show q = r by rw [← hq, if_pos h0])
    clear hq
    go_enter Tryd.func40, Tryd.ntmps40
    go_wp2_with (go_at_call 65; (with_reducible refine (specNumbers_is x y r _ HR).mono ?_); rintro e w1 ⟨rfl, hb⟩; have HB1 := Lib.hid (Below.up (w := w) (by (repeat (first | exact Below.refl _ _ | apply Below.drew | (apply below_alloc_on (Nat.le_refl _))))) hb); clear hb)
    go_ret
    exact ⟨ret_int HQ.out.symm, HB1.out⟩
end Go.Proofs.YtopaileliohpdaaDoor
