/-
  What laws.FnSemverBelowHolds calls: laws.snAsked, laws.snWant, spec.Compares at the operator <.
-/
import Derived.Test.YtopaileliohpdaaDoorGoodTerm
import Derived.Test.YtopaileliohpdaaDoorBelowLaw
import Derived.Test.YtopaileliohpdaaDoorMetaSet
namespace Go.Proofs.YtopaileliohpdaaDoor
open Go.RowKit
set_option maxRecDepth 100000
set_option linter.unusedVariables false

def T.as (t : T) (op : Int) : T := { t with op := op }
theorem AtT.below {w w' : World} {N : Nat} {t : T} (h : AtT w N t) (b : Below w.heap.size w w') : AtT w' N t := blk_below b h
theorem specNumbers_1 (x y : V) (w : World) :
    Calls Tryd.prog 65 #[.agg #[.int .u64 x.a, .int .u64 x.b, .int .u64 x.c, .string x.p, .string x.m], .agg #[.int .u64 y.a, .int .u64 y.b, .int .u64 y.c, .string y.p, .string y.m], .int .i64 1] w fun e w' => e = .returned (.int .i64 (x.numsK y 1)) ∧ Below w.heap.size w w' := specNumbers_k x y 1 w (by decide)
theorem specNumbers_2 (x y : V) (w : World) :
    Calls Tryd.prog 65 #[.agg #[.int .u64 x.a, .int .u64 x.b, .int .u64 x.c, .string x.p, .string x.m], .agg #[.int .u64 y.a, .int .u64 y.b, .int .u64 y.c, .string y.p, .string y.m], .int .i64 2] w fun e w' => e = .returned (.int .i64 (x.numsK y 2)) ∧ Below w.heap.size w w' := specNumbers_k x y 2 w (by decide)
theorem specCompare_is (x y : V) (r : Int) (w : World) (zx : x.p.size ≤ 2147483647) (zy : y.p.size ≤ 2147483647) (hr : Hid (x.cmp y = r)) :
    Calls Tryd.prog 40 #[.agg #[.int .u64 x.a, .int .u64 x.b, .int .u64 x.c, .string x.p, .string x.m], .agg #[.int .u64 y.a, .int .u64 y.b, .int .u64 y.c, .string y.p, .string y.m]] w fun e w' => e = .returned (.int .i64 r) ∧ Below w.heap.size w w' := by
  have := specCompare_any x y w zx zy
  rw [hr.out] at this
  exact this
set_option maxHeartbeats 1000000 in
theorem spoken_3 (t : T) (x : V) (w : World) :
    Calls Tryd.prog 57 #[.agg #[.int .i64 3, .int .i64 t.g, .int .u64 t.a, .int .u64 t.b, .int .u64 t.c, .string t.p], .agg #[.int .u64 x.a, .int .u64 x.b, .int .u64 x.c, .string x.p, .string x.m]] w fun e w' => e = .returned (.bool true) ∧ Below w.heap.size w w' := by
  go_enter Tryd.func57, Tryd.ntmps57
  go_wp2
  all_goals
    go_ret
    refine ⟨rfl, ?_⟩
    (repeat (first | exact Below.refl _ _ | apply Below.drew | (apply below_alloc_on (Nat.le_refl _))))
set_option maxHeartbeats 2000000 in
theorem compares_3_1 (a b c : Nat) (p : ByteArray) (x : V) (r : Bool) (w : World) (zx : x.p.size ≤ 2147483647) (zt : p.size ≤ 2147483647) (hr : Hid (decide (x.cmp ⟨a, b, c, p, ⟨#[]⟩⟩ < 0) = r)) :
    Calls Tryd.prog 60 #[.agg #[.int .i64 3, .int .i64 1, .int .u64 a, .int .u64 b, .int .u64 c, .string p], .agg #[.int .u64 x.a, .int .u64 x.b, .int .u64 x.c, .string x.p, .string x.m]] w fun e w' => e = .returned (.bool r) ∧ Below w.heap.size w w' := by
  obtain ⟨q, hq⟩ : ∃ q, x.cmp ⟨a, b, c, p, ⟨#[]⟩⟩ = q := ⟨_, rfl⟩
  have HQ := Lib.hid hq
  have HR : Hid (decide (q < 0) = r) := Lib.hid (by rw [← hq]; exact hr.out)
  clear hq hr
  go_enter Tryd.func60, Tryd.ntmps60
  go_upto_region 2 with (go_at_call 83; (with_reducible refine (least_any ⟨3, 1, a, b, c, p⟩ _).mono ?_); rintro e w1 ⟨rfl, hb⟩; have HT := Lib.hid (AtT.below (t := ⟨3, 1, a, b, c, p⟩) (N := w.heap.size) (heap_alloc_some (alloc_at _ _ _ rfl)) hb); have HX := Lib.hid (AtP.below (x := x) (N := w.heap.size + 1) (alloc_at _ _ _ (by simp)) hb); have HB1 := Lib.hid (Below.up (w := w) (by (repeat (first | exact Below.refl _ _ | apply Below.drew | (apply below_alloc_on (Nat.le_refl _))))) hb); clear hb)
  change Code.wp _ _ _ _ (w1.alloc (V.pc ⟨a, b, c, p, ⟨#[]⟩⟩))
  have XL : Hid (AtP (w1.alloc (V.pc ⟨a, b, c, p, ⟨#[]⟩⟩)) w1.heap.size ⟨a, b, c, p, ⟨#[]⟩⟩) := Lib.hid (alloc_at _ _ _ rfl)
  have XX : Hid (AtP (w1.alloc (V.pc ⟨a, b, c, p, ⟨#[]⟩⟩)) (w.heap.size + 1) x) := Lib.hid (HX.out.below (below_alloc _ _))
  have XT : Hid (AtT (w1.alloc (V.pc ⟨a, b, c, p, ⟨#[]⟩⟩)) w.heap.size ⟨3, 1, a, b, c, p⟩) := Lib.hid (HT.out.below (below_alloc _ _))
  have HW := Lib.hid (Below.up HB1.out (below_alloc _ (V.pc ⟨a, b, c, p, ⟨#[]⟩⟩)))
  generalize (w1.alloc (V.pc ⟨a, b, c, p, ⟨#[]⟩⟩)) = W at *
  obtain ⟨x0, x1, x2, x3, x4⟩ := XX.out.cells
  obtain ⟨l0, l1, l2, l3, l4⟩ := XL.out.cells
  obtain ⟨t0, t1, t2, t3, t4, t5⟩ := XT.out.cells
  go_wp2_with (first
    | (go_at_call 65; (with_reducible refine (specNumbers_1 x ⟨a, b, c, p, ⟨#[]⟩⟩ _).mono ?_); rintro e w2 ⟨rfl, hb⟩; clear x0 x1 x2 x3 x4 l0 l1 l2 l3 l4 t0 t1 t2 t3 t4 t5; have X2 := Lib.hid (XX.out.below hb); have L2 := Lib.hid (XL.out.below hb); have T2 := Lib.hid (XT.out.below hb); have HB2 := Lib.hid (Below.up HW.out hb); clear hb; obtain ⟨x0, x1, x2, x3, x4⟩ := X2.out.cells; obtain ⟨l0, l1, l2, l3, l4⟩ := L2.out.cells; obtain ⟨t0, t1, t2, t3, t4, t5⟩ := T2.out.cells)
    | (go_at_call 40; (with_reducible refine (specCompare_is x ⟨a, b, c, p, ⟨#[]⟩⟩ q w2 zx zt HQ).mono ?_); rintro e w4 ⟨rfl, hb⟩; have HB4 := Lib.hid (Below.up HB2.out hb); clear hb))
  go_ret
  exact ⟨ret_bool HR.out, HB4.out⟩
set_option maxHeartbeats 2000000 in
theorem compares_3_2 (a b c : Nat) (p : ByteArray) (x : V) (r : Bool) (w : World) (zx : x.p.size ≤ 2147483647) (zt : p.size ≤ 2147483647) (hr : Hid (decide (x.cmp ⟨a, b, c, p, ⟨#[]⟩⟩ < 0) = r)) :
    Calls Tryd.prog 60 #[.agg #[.int .i64 3, .int .i64 2, .int .u64 a, .int .u64 b, .int .u64 c, .string p], .agg #[.int .u64 x.a, .int .u64 x.b, .int .u64 x.c, .string x.p, .string x.m]] w fun e w' => e = .returned (.bool r) ∧ Below w.heap.size w w' := by
  obtain ⟨q, hq⟩ : ∃ q, x.cmp ⟨a, b, c, p, ⟨#[]⟩⟩ = q := ⟨_, rfl⟩
  have HQ := Lib.hid hq
  have HR : Hid (decide (q < 0) = r) := Lib.hid (by rw [← hq]; exact hr.out)
  clear hq hr
  go_enter Tryd.func60, Tryd.ntmps60
  go_upto_region 2 with (go_at_call 83; (with_reducible refine (least_any ⟨3, 2, a, b, c, p⟩ _).mono ?_); rintro e w1 ⟨rfl, hb⟩; have HT := Lib.hid (AtT.below (t := ⟨3, 2, a, b, c, p⟩) (N := w.heap.size) (heap_alloc_some (alloc_at _ _ _ rfl)) hb); have HX := Lib.hid (AtP.below (x := x) (N := w.heap.size + 1) (alloc_at _ _ _ (by simp)) hb); have HB1 := Lib.hid (Below.up (w := w) (by (repeat (first | exact Below.refl _ _ | apply Below.drew | (apply below_alloc_on (Nat.le_refl _))))) hb); clear hb)
  change Code.wp _ _ _ _ (w1.alloc (V.pc ⟨a, b, c, p, ⟨#[]⟩⟩))
  have XL : Hid (AtP (w1.alloc (V.pc ⟨a, b, c, p, ⟨#[]⟩⟩)) w1.heap.size ⟨a, b, c, p, ⟨#[]⟩⟩) := Lib.hid (alloc_at _ _ _ rfl)
  have XX : Hid (AtP (w1.alloc (V.pc ⟨a, b, c, p, ⟨#[]⟩⟩)) (w.heap.size + 1) x) := Lib.hid (HX.out.below (below_alloc _ _))
  have XT : Hid (AtT (w1.alloc (V.pc ⟨a, b, c, p, ⟨#[]⟩⟩)) w.heap.size ⟨3, 2, a, b, c, p⟩) := Lib.hid (HT.out.below (below_alloc _ _))
  have HW := Lib.hid (Below.up HB1.out (below_alloc _ (V.pc ⟨a, b, c, p, ⟨#[]⟩⟩)))
  generalize (w1.alloc (V.pc ⟨a, b, c, p, ⟨#[]⟩⟩)) = W at *
  obtain ⟨x0, x1, x2, x3, x4⟩ := XX.out.cells
  obtain ⟨l0, l1, l2, l3, l4⟩ := XL.out.cells
  obtain ⟨t0, t1, t2, t3, t4, t5⟩ := XT.out.cells
  go_wp2_with (first
    | (go_at_call 65; (with_reducible refine (specNumbers_2 x ⟨a, b, c, p, ⟨#[]⟩⟩ _).mono ?_); rintro e w2 ⟨rfl, hb⟩; clear x0 x1 x2 x3 x4 l0 l1 l2 l3 l4 t0 t1 t2 t3 t4 t5; have X2 := Lib.hid (XX.out.below hb); have L2 := Lib.hid (XL.out.below hb); have T2 := Lib.hid (XT.out.below hb); have HB2 := Lib.hid (Below.up HW.out hb); clear hb; obtain ⟨x0, x1, x2, x3, x4⟩ := X2.out.cells; obtain ⟨l0, l1, l2, l3, l4⟩ := L2.out.cells; obtain ⟨t0, t1, t2, t3, t4, t5⟩ := T2.out.cells)
    | (go_at_call 40; (with_reducible refine (specCompare_is x ⟨a, b, c, p, ⟨#[]⟩⟩ q w2 zx zt HQ).mono ?_); rintro e w4 ⟨rfl, hb⟩; have HB4 := Lib.hid (Below.up HB2.out hb); clear hb))
  go_ret
  exact ⟨ret_bool HR.out, HB4.out⟩
set_option maxHeartbeats 2000000 in
theorem compares_3_3 (a b c : Nat) (p : ByteArray) (x : V) (r : Bool) (w : World) (zx : x.p.size ≤ 2147483647) (zt : p.size ≤ 2147483647) (hr : Hid (decide (x.cmp ⟨a, b, c, p, ⟨#[]⟩⟩ < 0) = r)) :
    Calls Tryd.prog 60 #[.agg #[.int .i64 3, .int .i64 3, .int .u64 a, .int .u64 b, .int .u64 c, .string p], .agg #[.int .u64 x.a, .int .u64 x.b, .int .u64 x.c, .string x.p, .string x.m]] w fun e w' => e = .returned (.bool r) ∧ Below w.heap.size w w' := by
  obtain ⟨q, hq⟩ : ∃ q, x.cmp ⟨a, b, c, p, ⟨#[]⟩⟩ = q := ⟨_, rfl⟩
  have HQ := Lib.hid hq
  have HR : Hid (decide (q < 0) = r) := Lib.hid (by rw [← hq]; exact hr.out)
  clear hq hr
  go_enter Tryd.func60, Tryd.ntmps60
  go_upto_region 2 with (go_at_call 83; (with_reducible refine (least_any ⟨3, 3, a, b, c, p⟩ _).mono ?_); rintro e w1 ⟨rfl, hb⟩; have HT := Lib.hid (AtT.below (t := ⟨3, 3, a, b, c, p⟩) (N := w.heap.size) (heap_alloc_some (alloc_at _ _ _ rfl)) hb); have HX := Lib.hid (AtP.below (x := x) (N := w.heap.size + 1) (alloc_at _ _ _ (by simp)) hb); have HB1 := Lib.hid (Below.up (w := w) (by (repeat (first | exact Below.refl _ _ | apply Below.drew | (apply below_alloc_on (Nat.le_refl _))))) hb); clear hb)
  change Code.wp _ _ _ _ (w1.alloc (V.pc ⟨a, b, c, p, ⟨#[]⟩⟩))
  have XL : Hid (AtP (w1.alloc (V.pc ⟨a, b, c, p, ⟨#[]⟩⟩)) w1.heap.size ⟨a, b, c, p, ⟨#[]⟩⟩) := Lib.hid (alloc_at _ _ _ rfl)
  have XX : Hid (AtP (w1.alloc (V.pc ⟨a, b, c, p, ⟨#[]⟩⟩)) (w.heap.size + 1) x) := Lib.hid (HX.out.below (below_alloc _ _))
  have XT : Hid (AtT (w1.alloc (V.pc ⟨a, b, c, p, ⟨#[]⟩⟩)) w.heap.size ⟨3, 3, a, b, c, p⟩) := Lib.hid (HT.out.below (below_alloc _ _))
  have HW := Lib.hid (Below.up HB1.out (below_alloc _ (V.pc ⟨a, b, c, p, ⟨#[]⟩⟩)))
  generalize (w1.alloc (V.pc ⟨a, b, c, p, ⟨#[]⟩⟩)) = W at *
  obtain ⟨x0, x1, x2, x3, x4⟩ := XX.out.cells
  obtain ⟨l0, l1, l2, l3, l4⟩ := XL.out.cells
  obtain ⟨t0, t1, t2, t3, t4, t5⟩ := XT.out.cells
  go_wp2_with (first
    | (go_at_call 65; (with_reducible refine (specNumbers_3 x ⟨a, b, c, p, ⟨#[]⟩⟩ _).mono ?_); rintro e w2 ⟨rfl, hb⟩; clear x0 x1 x2 x3 x4 l0 l1 l2 l3 l4 t0 t1 t2 t3 t4 t5; have X2 := Lib.hid (XX.out.below hb); have L2 := Lib.hid (XL.out.below hb); have T2 := Lib.hid (XT.out.below hb); have HB2 := Lib.hid (Below.up HW.out hb); clear hb; obtain ⟨x0, x1, x2, x3, x4⟩ := X2.out.cells; obtain ⟨l0, l1, l2, l3, l4⟩ := L2.out.cells; obtain ⟨t0, t1, t2, t3, t4, t5⟩ := T2.out.cells)
    | (go_at_call 40; (with_reducible refine (specCompare_is x ⟨a, b, c, p, ⟨#[]⟩⟩ q w2 zx zt HQ).mono ?_); rintro e w3 ⟨rfl, hb⟩; clear x0 x1 x2 x3 x4 l0 l1 l2 l3 l4 t0 t1 t2 t3 t4 t5; have X3 := Lib.hid (X2.out.below hb); have L3 := Lib.hid (L2.out.below hb); have T3 := Lib.hid (T2.out.below hb); have HB3 := Lib.hid (Below.up HB2.out hb); clear hb; obtain ⟨x0, x1, x2, x3, x4⟩ := X3.out.cells; obtain ⟨l0, l1, l2, l3, l4⟩ := L3.out.cells; obtain ⟨t0, t1, t2, t3, t4, t5⟩ := T3.out.cells)
    | (go_at_call 40; (with_reducible refine (specCompare_is x ⟨a, b, c, p, ⟨#[]⟩⟩ q w3 zx zt HQ).mono ?_); rintro e w4 ⟨rfl, hb⟩; have HB4 := Lib.hid (Below.up HB3.out hb); clear hb))
  go_ret
  exact ⟨ret_bool HR.out, HB4.out⟩
theorem AtT.loose {w : World} {N : Nat} {t : T} (h : AtT w N t) (j : Nat) : w.frozen? ⟨N, j, none⟩ = false := by
  unfold AtT at h
  simp [World.frozen?, h]
theorem AtT.store6 {w : World} {N : Nat} {x : T} (h : AtT w N x) (y : T) :
    AtT ((((((w.setCell ⟨N, 0, none⟩ (.int .i64 y.op)).setCell ⟨N, 1, none⟩ (.int .i64 y.g)).setCell ⟨N, 2, none⟩ (.int .u64 y.a)).setCell ⟨N, 3, none⟩ (.int .u64 y.b)).setCell ⟨N, 4, none⟩ (.int .u64 y.c)).setCell ⟨N, 5, none⟩ (.string y.p)) N y := by
  unfold AtT at *
  have h0 := heap_setCell_same w N 0 _ _ (.int .i64 y.op) h
  have h1 := heap_setCell_same _ N 1 _ _ (.int .i64 y.g) h0
  have h2 := heap_setCell_same _ N 2 _ _ (.int .u64 y.a) h1
  have h3 := heap_setCell_same _ N 3 _ _ (.int .u64 y.b) h2
  have h4 := heap_setCell_same _ N 4 _ _ (.int .u64 y.c) h3
  have h5 := heap_setCell_same _ N 5 _ _ (.string y.p) h4
  simpa using h5
theorem AtP.other6 {w : World} {N M : Nat} {x : V} (h : AtP w N x) (hn : N ≠ M) (v0 v1 v2 v3 v4 v5 : Value) :
    AtP ((((((w.setCell ⟨M, 0, none⟩ v0).setCell ⟨M, 1, none⟩ v1).setCell ⟨M, 2, none⟩ v2).setCell ⟨M, 3, none⟩ v3).setCell ⟨M, 4, none⟩ v4).setCell ⟨M, 5, none⟩ v5) N x := by
  unfold AtP at *
  rw [heap_setCell_other _ _ N _ hn, heap_setCell_other _ _ N _ hn, heap_setCell_other _ _ N _ hn, heap_setCell_other _ _ N _ hn, heap_setCell_other _ _ N _ hn, heap_setCell_other _ _ N _ hn]
  exact h
theorem up_storeT {B N : Nat} {a w : World} (h : Below B a w) (hB : B ≤ N) (v0 v1 v2 v3 v4 v5 : Value) :
    Below B a ((((((w.setCell ⟨N, 0, none⟩ v0).setCell ⟨N, 1, none⟩ v1).setCell ⟨N, 2, none⟩ v2).setCell ⟨N, 3, none⟩ v3).setCell ⟨N, 4, none⟩ v4).setCell ⟨N, 5, none⟩ v5) :=
  (up_store5 h hB v0 v1 v2 v3 v4).setCell hB _
set_option maxHeartbeats 2000000 in
theorem snAsked_3 (op g : Int) (a b c : Nat) (p : ByteArray) (x : V) (r : Bool) (w : World) (zx : Hid (x.p.size ≤ 2147483647 ∧ x.m.size ≤ 2147483647)) (zt : p.size ≤ 2147483647) (hr : Hid ((T.goodB ⟨3, g, a, b, c, p⟩ && x.law) = r)) :
    Calls Tryd.prog 26 #[.agg #[.int .i64 op, .int .i64 g, .int .u64 a, .int .u64 b, .int .u64 c, .string p], .int .i64 3, .agg #[.int .u64 x.a, .int .u64 x.b, .int .u64 x.c, .string x.p, .string x.m]] w fun e w' => e = .returned (.bool r) ∧ Below w.heap.size w w' := by
  go_enter Tryd.func26, Tryd.ntmps26
  go_upto_region 2 with (go_at_call 55; (with_reducible refine (snAs_any ⟨op, g, a, b, c, p⟩ 3 _).mono ?_); rintro e w1 ⟨rfl, hb⟩; have hT := AtT.below (t := ⟨op, g, a, b, c, p⟩) (N := w.heap.size) (heap_alloc_some (alloc_at _ _ _ rfl)) hb; have HT := Lib.hid hT; have HX := Lib.hid (AtP.below (x := x) (N := w.heap.size + 1) (alloc_at _ _ _ (by simp)) hb); have HB1 := Lib.hid (Below.up (w := w) (by (repeat (first | exact Below.refl _ _ | apply Below.drew | (apply below_alloc_on (Nat.le_refl _))))) hb); obtain ⟨t0, t1, t2, t3, t4, t5⟩ := hT.cells; have l0 := hT.loose 0; have l1 := hT.loose 1; have l2 := hT.loose 2; have l3 := hT.loose 3; have l4 := hT.loose 4; have l5 := hT.loose 5; clear hb hT)
  change Code.wp _ _ _ _ ((((((w1.setCell ⟨w.heap.size, 0, none⟩ (.int .i64 3)).setCell ⟨w.heap.size, 1, none⟩ (.int .i64 g)).setCell ⟨w.heap.size, 2, none⟩ (.int .u64 a)).setCell ⟨w.heap.size, 3, none⟩ (.int .u64 b)).setCell ⟨w.heap.size, 4, none⟩ (.int .u64 c)).setCell ⟨w.heap.size, 5, none⟩ (.string p))
  have XT := Lib.hid (AtT.store6 HT.out ⟨3, g, a, b, c, p⟩)
  have XX := Lib.hid (HX.out.other6 (M := w.heap.size) (by omega) (.int .i64 3) (.int .i64 g) (.int .u64 a) (.int .u64 b) (.int .u64 c) (.string p))
  have HW := Lib.hid (up_storeT HB1.out (Nat.le_refl w.heap.size) (.int .i64 3) (.int .i64 g) (.int .u64 a) (.int .u64 b) (.int .u64 c) (.string p))
  simp only at XT
  clear t0 t1 t2 t3 t4 t5 l0 l1 l2 l3 l4 l5
  generalize ((((((w1.setCell ⟨w.heap.size, 0, none⟩ (.int .i64 3)).setCell ⟨w.heap.size, 1, none⟩ (.int .i64 g)).setCell ⟨w.heap.size, 2, none⟩ (.int .u64 a)).setCell ⟨w.heap.size, 3, none⟩ (.int .u64 b)).setCell ⟨w.heap.size, 4, none⟩ (.int .u64 c)).setCell ⟨w.heap.size, 5, none⟩ (.string p)) = W at *
  obtain ⟨x0, x1, x2, x3, x4⟩ := XX.out.cells
  obtain ⟨t0, t1, t2, t3, t4, t5⟩ := XT.out.cells
  go_wp2_with (first
    | (go_at_call 56; (with_reducible refine (goodTerm_is ⟨3, g, a, b, c, p⟩ (T.goodB ⟨3, g, a, b, c, p⟩) _ zt (Lib.hid rfl)).mono ?_); rintro e w2 ⟨rfl, hb⟩; clear x0 x1 x2 x3 x4 t0 t1 t2 t3 t4 t5; have X2 := Lib.hid (XX.out.below hb); have T2 := Lib.hid (XT.out.below hb); have HB2 := Lib.hid (Below.up HW.out hb); clear hb; obtain ⟨x0, x1, x2, x3, x4⟩ := X2.out.cells; rcases hf : T.goodB ⟨3, g, a, b, c, p⟩ with _ | _; all_goals (have HG := Lib.hid hf; clear hf))
    | (go_at_call 12; (with_reducible refine (svGood_one_at _ _ _ x x.law rfl zx (Lib.hid rfl)).mono ?_); rintro e w3 ⟨rfl, hb⟩; clear x0 x1 x2 x3 x4; have X3 := Lib.hid (X2.out.below hb); have T3 := Lib.hid (T2.out.below hb); have HB3 := Lib.hid (Below.up HB2.out hb); clear hb; obtain ⟨x0, x1, x2, x3, x4⟩ := X3.out.cells; obtain ⟨t0, t1, t2, t3, t4, t5⟩ := T3.out.cells; rcases hf : x.law with _ | _; all_goals (have HL := Lib.hid hf; clear hf))
    | (go_at_call 57; (with_reducible refine (spoken_3 ⟨3, g, a, b, c, p⟩ x _).mono ?_); rintro e w4 ⟨rfl, hb⟩; have HB4 := Lib.hid (Below.up HB3.out hb); clear hb))
  all_goals go_ret
  all_goals first
    | exact ⟨ret_bool (by rw [← hr.out, HG.out, HL.out]; rfl), HB4.out⟩
    | exact ⟨ret_bool (by rw [← hr.out, HG.out, HL.out]; rfl), HB3.out⟩
    | exact ⟨ret_bool (by rw [← hr.out, HG.out]; rfl), HB2.out⟩
theorem compares_3 (g : Int) (a b c : Nat) (p : ByteArray) (x : V) (r : Bool) (w : World) (hg : g = 1 ∨ g = 2 ∨ g = 3) (zx : x.p.size ≤ 2147483647) (zt : p.size ≤ 2147483647) (hr : Hid (decide (x.cmp ⟨a, b, c, p, ⟨#[]⟩⟩ < 0) = r)) :
    Calls Tryd.prog 60 #[.agg #[.int .i64 3, .int .i64 g, .int .u64 a, .int .u64 b, .int .u64 c, .string p], .agg #[.int .u64 x.a, .int .u64 x.b, .int .u64 x.c, .string x.p, .string x.m]] w fun e w' => e = .returned (.bool r) ∧ Below w.heap.size w w' := by
  rcases hg with rfl | rfl | rfl
  · exact compares_3_1 a b c p x r w zx zt hr
  · exact compares_3_2 a b c p x r w zx zt hr
  · exact compares_3_3 a b c p x r w zx zt hr
set_option maxHeartbeats 2000000 in
theorem snWant_3 (op g : Int) (a b c : Nat) (p : ByteArray) (x : V) (pre r : Bool) (w : World) (hg : g = 1 ∨ g = 2 ∨ g = 3) (zx : x.p.size ≤ 2147483647) (zt : p.size ≤ 2147483647) (hr : Hid ((x.inl pre && decide (x.cmp ⟨a, b, c, p, ⟨#[]⟩⟩ < 0)) = r)) :
    Calls Tryd.prog 28 #[.agg #[.int .i64 op, .int .i64 g, .int .u64 a, .int .u64 b, .int .u64 c, .string p], .int .i64 3, .agg #[.int .u64 x.a, .int .u64 x.b, .int .u64 x.c, .string x.p, .string x.m], .bool pre] w fun e w' => e = .returned (.bool r) ∧ Below w.heap.size w w' := by
  have HG := Lib.hid hg
  clear hg
  go_enter Tryd.func28, Tryd.ntmps28
  go_upto_region 1 with fail
  have XT : Hid (AtT ((w.alloc (.cells #[.int .i64 op, .int .i64 g, .int .u64 a, .int .u64 b, .int .u64 c, .string p] 39)).alloc (.cells #[.int .u64 x.a, .int .u64 x.b, .int .u64 x.c, .string x.p, .string x.m] 24)) w.heap.size ⟨op, g, a, b, c, p⟩) := Lib.hid (heap_alloc_some (alloc_at _ _ _ rfl))
  have XX : Hid (AtP ((w.alloc (.cells #[.int .i64 op, .int .i64 g, .int .u64 a, .int .u64 b, .int .u64 c, .string p] 39)).alloc (.cells #[.int .u64 x.a, .int .u64 x.b, .int .u64 x.c, .string x.p, .string x.m] 24)) (w.heap.size + 1) x) := Lib.hid (alloc_at _ _ _ (by simp))
  have HW : Hid (Below w.heap.size w ((w.alloc (.cells #[.int .i64 op, .int .i64 g, .int .u64 a, .int .u64 b, .int .u64 c, .string p] 39)).alloc (.cells #[.int .u64 x.a, .int .u64 x.b, .int .u64 x.c, .string x.p, .string x.m] 24))) := Lib.hid (by (repeat (first | exact Below.refl _ _ | apply Below.drew | (apply below_alloc_on (Nat.le_refl _)))))
  generalize ((w.alloc (.cells #[.int .i64 op, .int .i64 g, .int .u64 a, .int .u64 b, .int .u64 c, .string p] 39)).alloc (.cells #[.int .u64 x.a, .int .u64 x.b, .int .u64 x.c, .string x.p, .string x.m] 24)) = W at *
  obtain ⟨x0, x1, x2, x3, x4⟩ := XX.out.cells
  obtain ⟨t0, t1, t2, t3, t4, t5⟩ := XT.out.cells
  simp only at t0 t1 t2 t3 t4 t5
  rcases hi : x.inl pre with _ | _
  · have HQ := Lib.hid (show r = false by rw [← hr.out, hi, Bool.false_and])
    have hpre : pre = false := by cases pre with | false => rfl | true => simp [V.inl] at hi
    subst hpre
    have hp : x.p.toList.isEmpty = false := bs_isEmpty (by simpa [V.inl] using hi)
    clear hi
    first
      | (go_region_with fail)
      | fail
    all_goals go_wp2
    all_goals go_ret
    all_goals exact ⟨ret_bool HQ.out.symm, by first | exact HW.out | exact Below.up HW.out (by (repeat (first | exact Below.refl _ _ | apply Below.drew | (apply below_alloc_on (Nat.le_refl _)))))⟩
  · have HC := Lib.hid (show decide (x.cmp ⟨a, b, c, p, ⟨#[]⟩⟩ < 0) = r by rw [← hr.out, hi, Bool.true_and])
    cases pre with
    | true =>
      clear hi
      first
        | (go_region_with (first
          | (go_at_call 55; (with_reducible refine (snAs_any ⟨op, g, a, b, c, p⟩ 3 _).mono ?_); rintro e w1 ⟨rfl, hb⟩; have H1 := Lib.hid (Below.up (w := W) (by (repeat (first | exact Below.refl _ _ | apply Below.drew | (apply below_alloc_on (Nat.le_refl _))))) hb); have HB1 := Lib.hid (Below.up HW.out H1.out); have X1 := Lib.hid (XX.out.below H1.out); clear hb; obtain ⟨y0, y1, y2, y3, y4⟩ := X1.out.cells)
          | (go_at_call 60; (with_reducible refine (compares_3 g a b c p x r _ HG.out zx zt HC).mono ?_); rintro e w2 ⟨rfl, hb⟩; have HB2 := Lib.hid (Below.up HB1.out (Below.up (w := w1) (by (repeat (first | exact Below.refl _ _ | apply Below.drew | (apply below_alloc_on (Nat.le_refl _))))) hb)); clear hb)))
        | fail
      all_goals go_wp2
      all_goals go_ret
      all_goals exact ⟨rfl, HB2.out⟩
    | false =>
      have hp : x.p.toList = [] := empty_toList (by simpa [V.inl] using hi)
      clear hi
      first
        | (go_region_with (first
          | (go_at_call 55; (with_reducible refine (snAs_any ⟨op, g, a, b, c, p⟩ 3 _).mono ?_); rintro e w1 ⟨rfl, hb⟩; have H1 := Lib.hid (Below.up (w := W) (by (repeat (first | exact Below.refl _ _ | apply Below.drew | (apply below_alloc_on (Nat.le_refl _))))) hb); have HB1 := Lib.hid (Below.up HW.out H1.out); have X1 := Lib.hid (XX.out.below H1.out); clear hb; obtain ⟨y0, y1, y2, y3, y4⟩ := X1.out.cells)
          | (go_at_call 60; (with_reducible refine (compares_3 g a b c p x r _ HG.out zx zt HC).mono ?_); rintro e w2 ⟨rfl, hb⟩; have HB2 := Lib.hid (Below.up HB1.out (Below.up (w := w1) (by (repeat (first | exact Below.refl _ _ | apply Below.drew | (apply below_alloc_on (Nat.le_refl _))))) hb)); clear hb)))
        | fail
      all_goals go_wp2
      all_goals go_ret
      all_goals exact ⟨rfl, HB2.out⟩
end Go.Proofs.YtopaileliohpdaaDoor
