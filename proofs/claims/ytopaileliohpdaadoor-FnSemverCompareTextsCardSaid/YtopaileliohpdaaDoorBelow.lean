/-
  constraintLessThan, ZZBelow, impl.BelowHolds.
-/
import Derived.Test.YtopaileliohpdaaDoorTerm
namespace Go.Proofs.YtopaileliohpdaaDoor
open Go.RowKit
set_option maxRecDepth 100000
set_option linter.unusedVariables false

/-- a constraint's record -/
def T.cc (t : T) (s : ByteArray) (N : Nat) : Obj := .cells #[.pointer (some ⟨N, 0, none⟩), .string ⟨#[]⟩, .string s, .bool t.minor, .bool t.dirty, .bool t.patch] 102
/-- prereleases are let in, or there is none -/
def V.inl (x : V) (pre : Bool) : Bool := pre || (M.bs x.p).isEmpty
theorem bs_isEmpty {s : ByteArray} {b : Bool} (h : (M.bs s).isEmpty = b) : s.toList.isEmpty = b := by rw [toList_bs]; exact h

set_option maxHeartbeats 1000000 in
theorem lessThanC_any (x y : V) (o o' s : ByteArray) (t : T) (N K M' : Nat) (pre : Bool) (w : World) (hx : AtV w N x o) (hy : AtV w M' y o') (hk : w.heap[K]? = some (t.cc s M')) (gx : x.pGood) (gy : y.pGood) (hn : NumErrs w) (zx : x.p.size ≤ 2147483647) (zy : y.p.size ≤ 2147483647) :
    Calls Tryd.prog 80 #[.pointer (some ⟨N, 0, none⟩), .pointer (some ⟨K, 0, none⟩), .bool pre] w fun e w' => (∃ ev, e = .returned (.tuple #[.bool (x.inl pre && decide (x.cmp y < 0)), ev])) ∧ Below w.heap.size w w' := by
  have HX := Lib.hid hx
  have HY := Lib.hid hy
  have HK := Lib.hid hk
  have HN := Lib.hid hn
  have GX := Lib.hid gx
  have GY := Lib.hid gy
  obtain ⟨c0, c1, c2, c3, c4, c5⟩ := hx.cells
  have k0 : w.cell? ⟨K, 0, none⟩ = some (.pointer (some ⟨M', 0, none⟩)) := by rw [cell_of_row w K _ _ _ _ hk]; rfl
  clear hx hy hk hn gx gy
  cases he : (M.bs x.p).isEmpty with
  | true =>
    have hs : x.p.toList = [] := empty_toList (by simpa using he)
    have HV : Hid (x.inl pre = true) := Lib.hid (by rw [V.inl, he, Bool.or_true])
    clear he
    by_cases hc : x.cmp y < 0
    · have HC := Lib.hid hc
      go_enter Tryd.func80, Tryd.ntmps80
      go_wp2_with (first
        | (go_at_call 76; refine (prerelease_any x o _).mono ?_; rintro e w1 ⟨rfl, hw1⟩; have HB1 := Lib.hid (show Below w.heap.size w w1 by subst hw1; exact below_alloc _ _); have k1 : w1.cell? ⟨K, 0, none⟩ = some (.pointer (some ⟨M', 0, none⟩)) := (by subst hw1; exact cell_alloc_some k0); clear hw1)
        | (go_at_call 48; (with_reducible refine (compare_any x y o o' _ _ _ (HX.out.below HB1.out) (HY.out.below HB1.out) GX.out GY.out (HN.out.below HB1.out) zx zy).mono ?_); rintro e w2 ⟨rfl, hb⟩; have HB2 := Lib.hid (Below.up HB1.out hb); clear hb))
      refine bodyPost_ret (results_tmp2 rfl _ _ _) rfl ?_
      exact ⟨⟨_, by rw [HV.out, decide_eq_true HC.out]; rfl⟩, HB2.out⟩
    · have HC := Lib.hid hc
      go_enter Tryd.func80, Tryd.ntmps80
      go_wp2_with (first
        | (go_at_call 76; refine (prerelease_any x o _).mono ?_; rintro e w1 ⟨rfl, hw1⟩; have HB1 := Lib.hid (show Below w.heap.size w w1 by subst hw1; exact below_alloc _ _); have k1 : w1.cell? ⟨K, 0, none⟩ = some (.pointer (some ⟨M', 0, none⟩)) := (by subst hw1; exact cell_alloc_some k0); clear hw1)
        | (go_at_call 48; (with_reducible refine (compare_any x y o o' _ _ _ (HX.out.below HB1.out) (HY.out.below HB1.out) GX.out GY.out (HN.out.below HB1.out) zx zy).mono ?_); rintro e w2 ⟨rfl, hb⟩; have HB2 := Lib.hid (Below.up HB1.out hb); clear hb)
        | (go_at_call 96; refine (errorsNew_any _ _).mono ?_; rintro e w3 ⟨⟨et, ev, rfl⟩, hb⟩; have HB3 := Lib.hid (Below.up HB2.out hb); clear hb))
      refine bodyPost_ret (results_tmp2 rfl _ _ _) rfl ?_
      exact ⟨⟨_, by rw [HV.out, decide_eq_false (show ¬ x.cmp y < 0 by have := HC.out; omega)]; rfl⟩, HB3.out⟩
  | false =>
    have hs : x.p.toList.isEmpty = false := bs_isEmpty he
    cases pre with
    | false =>
      have HV : Hid (x.inl false = false) := Lib.hid (by rw [V.inl, he]; rfl)
      clear he
      go_enter Tryd.func80, Tryd.ntmps80
      go_wp2_with (first
        | (go_at_call 76; refine (prerelease_any x o _).mono ?_; rintro e w1 ⟨rfl, hw1⟩; have HB1 := Lib.hid (show Below w.heap.size w w1 by subst hw1; exact below_alloc _ _); clear hw1)
        | (go_at_call 96; refine (errorsNew_any _ _).mono ?_; rintro e w3 ⟨⟨et, ev, rfl⟩, hb⟩; have HB3 := Lib.hid (Below.up HB1.out hb); clear hb))
      refine bodyPost_ret (results_tmp2 rfl _ _ _) rfl ?_
      exact ⟨⟨_, by rw [HV.out]; rfl⟩, HB3.out⟩
    | true =>
      have HV : Hid (x.inl true = true) := Lib.hid (by rw [V.inl, Bool.true_or])
      clear he
      by_cases hc : x.cmp y < 0
      · have HC := Lib.hid hc
        go_enter Tryd.func80, Tryd.ntmps80
        go_wp2_with (first
          | (go_at_call 76; refine (prerelease_any x o _).mono ?_; rintro e w1 ⟨rfl, hw1⟩; have HB1 := Lib.hid (show Below w.heap.size w w1 by subst hw1; exact below_alloc _ _); have k1 : w1.cell? ⟨K, 0, none⟩ = some (.pointer (some ⟨M', 0, none⟩)) := (by subst hw1; exact cell_alloc_some k0); clear hw1)
          | (go_at_call 48; (with_reducible refine (compare_any x y o o' _ _ _ (HX.out.below HB1.out) (HY.out.below HB1.out) GX.out GY.out (HN.out.below HB1.out) zx zy).mono ?_); rintro e w2 ⟨rfl, hb⟩; have HB2 := Lib.hid (Below.up HB1.out hb); clear hb))
        refine bodyPost_ret (results_tmp2 rfl _ _ _) rfl ?_
        exact ⟨⟨_, by rw [HV.out, decide_eq_true HC.out]; rfl⟩, HB2.out⟩
      · have HC := Lib.hid hc
        go_enter Tryd.func80, Tryd.ntmps80
        go_wp2_with (first
          | (go_at_call 76; refine (prerelease_any x o _).mono ?_; rintro e w1 ⟨rfl, hw1⟩; have HB1 := Lib.hid (show Below w.heap.size w w1 by subst hw1; exact below_alloc _ _); have k1 : w1.cell? ⟨K, 0, none⟩ = some (.pointer (some ⟨M', 0, none⟩)) := (by subst hw1; exact cell_alloc_some k0); clear hw1)
          | (go_at_call 48; (with_reducible refine (compare_any x y o o' _ _ _ (HX.out.below HB1.out) (HY.out.below HB1.out) GX.out GY.out (HN.out.below HB1.out) zx zy).mono ?_); rintro e w2 ⟨rfl, hb⟩; have HB2 := Lib.hid (Below.up HB1.out hb); clear hb)
          | (go_at_call 96; refine (errorsNew_any _ _).mono ?_; rintro e w3 ⟨⟨et, ev, rfl⟩, hb⟩; have HB3 := Lib.hid (Below.up HB2.out hb); clear hb))
        refine bodyPost_ret (results_tmp2 rfl _ _ _) rfl ?_
        exact ⟨⟨_, by rw [HV.out, decide_eq_false (show ¬ x.cmp y < 0 by have := HC.out; omega)]; rfl⟩, HB3.out⟩

theorem version_below (x : V) (w : World) : Calls Tryd.prog 41 #[.agg #[.int .u64 x.a, .int .u64 x.b, .int .u64 x.c, .string x.p, .string x.m]] w (PtrV w x ⟨#[]⟩) := version_any x w
theorem zzBelow_any (x : V) (o s : ByteArray) (t : T) (N M' : Nat) (pre : Bool) (w : World) (hx : AtV w N x o) (hy : AtV w M' t.ver ⟨#[]⟩) (gx : x.pGood) (gy : t.ver.pGood) (hn : NumErrs w) (zx : x.p.size ≤ 2147483647) (zy : t.ver.p.size ≤ 2147483647) :
    Calls Tryd.prog 58 #[.agg #[.string s, .pointer (some ⟨M', 0, none⟩), .bool t.dirty, .bool t.minor, .bool t.patch], .pointer (some ⟨N, 0, none⟩), .bool pre] w fun e w' => (∃ ev, e = .returned (.tuple #[.bool (x.inl pre && decide (x.cmp t.ver < 0)), ev])) ∧ Below w.heap.size w w' := by
  have HX := Lib.hid hx
  have HY := Lib.hid hy
  have HN := Lib.hid hn
  have GX := Lib.hid gx
  have GY := Lib.hid gy
  clear hx hy hn gx gy
  go_enter Tryd.func58, Tryd.ntmps58
  go_wp2_with (first
    | (go_at_call 81; (with_reducible refine (inner_exact s (some ⟨M', 0, none⟩) t.dirty t.minor t.patch _).mono ?_); rintro e w1 ⟨rfl, hw1⟩; have HB1 := Lib.hid (show Below w.heap.size w w1 by subst hw1; (repeat (first | exact Below.refl _ _ | apply Below.drew | (apply below_alloc_on (Nat.le_refl _))))); have HK1 := Lib.hid (show w1.heap[w.heap.size + 1 + 1]? = some (t.cc s M') by subst hw1; exact alloc_at _ _ _ (by simp)); clear hw1)
    | (go_at_call 80; (with_reducible refine (lessThanC_any x t.ver o ⟨#[]⟩ s t N _ M' pre _ (HX.out.below HB1.out) (HY.out.below HB1.out) (by first | exact HK1.out | simpa using HK1.out) GX.out GY.out (HN.out.below HB1.out) zx zy).mono ?_); rintro e w2 ⟨⟨ev, rfl⟩, hb⟩; have HB2 := Lib.hid (Below.up HB1.out hb); clear hb))
  refine bodyPost_ret (results_tmp2 rfl _ _ _) rfl ?_
  exact ⟨⟨_, rfl⟩, HB2.out⟩

set_option maxHeartbeats 2000000 in
theorem belowHolds_any (t : T) (x : V) (pre : Bool) (w : World) (hg : t.g = 0 ∨ t.g = 1 ∨ t.g = 2 ∨ t.g = 3) (gx : x.pGood) (gy : t.ver.pGood) (hn : NumErrs w) (zx : x.p.size ≤ 2147483647) (zy : t.ver.p.size ≤ 2147483647) :
    Calls Tryd.prog 27 #[.agg #[.int .i64 t.op, .int .i64 t.g, .int .u64 t.a, .int .u64 t.b, .int .u64 t.c, .string t.p], .agg #[.int .u64 x.a, .int .u64 x.b, .int .u64 x.c, .string x.p, .string x.m], .bool pre] w fun e w' => e = .returned (.bool (x.inl pre && decide (x.cmp t.ver < 0))) ∧ Below w.heap.size w w' := by
  have HN := Lib.hid hn
  have GX := Lib.hid gx
  have GY := Lib.hid gy
  have HGG := Lib.hid hg
  clear hn gx gy hg
  generalize hr : (x.inl pre && decide (x.cmp t.ver < 0)) = r
  have HR := Lib.hid hr
  clear hr
  go_enter Tryd.func27, Tryd.ntmps27
  go_wp2_with fail
  have hX : ((w.alloc (.cells #[.int .i64 t.op, .int .i64 t.g, .int .u64 t.a, .int .u64 t.b, .int .u64 t.c, .string t.p] 39)).alloc (.cells #[.int .u64 x.a, .int .u64 x.b, .int .u64 x.c, .string x.p, .string x.m] 24)).heap[w.heap.size]? = some (.cells #[.int .i64 t.op, .int .i64 t.g, .int .u64 t.a, .int .u64 t.b, .int .u64 t.c, .string t.p] 39 (0, 0)) := heap_alloc_some (alloc_at _ _ _ rfl)
  have hY : AtP ((w.alloc (.cells #[.int .i64 t.op, .int .i64 t.g, .int .u64 t.a, .int .u64 t.b, .int .u64 t.c, .string t.p] 39)).alloc (.cells #[.int .u64 x.a, .int .u64 x.b, .int .u64 x.c, .string x.p, .string x.m] 24)) (w.heap.size + 1) x := alloc_at _ _ _ (by simp)
  have hW : Below w.heap.size w ((w.alloc (.cells #[.int .i64 t.op, .int .i64 t.g, .int .u64 t.a, .int .u64 t.b, .int .u64 t.c, .string t.p] 39)).alloc (.cells #[.int .u64 x.a, .int .u64 x.b, .int .u64 x.c, .string x.p, .string x.m] 24)) := by (repeat (first | exact Below.refl _ _ | apply Below.drew | (apply below_alloc_on (Nat.le_refl _))))
  generalize ((w.alloc (.cells #[.int .i64 t.op, .int .i64 t.g, .int .u64 t.a, .int .u64 t.b, .int .u64 t.c, .string t.p] 39)).alloc (.cells #[.int .u64 x.a, .int .u64 x.b, .int .u64 x.c, .string x.p, .string x.m] 24)) = W at *
  have HW := Lib.hid hW
  have c0 : W.cell? ⟨w.heap.size, 0, none⟩ = some (.int .i64 t.op) := by rw [cell_of_row W _ _ _ _ _ hX]; rfl
  have c1 : W.cell? ⟨w.heap.size, 1, none⟩ = some (.int .i64 t.g) := by rw [cell_of_row W _ _ _ _ _ hX]; rfl
  have c2 : W.cell? ⟨w.heap.size, 2, none⟩ = some (.int .u64 t.a) := by rw [cell_of_row W _ _ _ _ _ hX]; rfl
  have c3 : W.cell? ⟨w.heap.size, 3, none⟩ = some (.int .u64 t.b) := by rw [cell_of_row W _ _ _ _ _ hX]; rfl
  have c4 : W.cell? ⟨w.heap.size, 4, none⟩ = some (.int .u64 t.c) := by rw [cell_of_row W _ _ _ _ _ hX]; rfl
  have c5 : W.cell? ⟨w.heap.size, 5, none⟩ = some (.string t.p) := by rw [cell_of_row W _ _ _ _ _ hX]; rfl
  obtain ⟨d0, d1, d2, d3, d4⟩ := hY.cells
  clear hX hY hW
  go_region_held3 (fun w' => w'.cell? ⟨w.heap.size, 0, none⟩ = some (.int .i64 t.op) ∧ w'.cell? ⟨w.heap.size, 1, none⟩ = some (.int .i64 t.g) ∧ w'.cell? ⟨w.heap.size, 2, none⟩ = some (.int .u64 t.a) ∧ w'.cell? ⟨w.heap.size, 3, none⟩ = some (.int .u64 t.b) ∧ w'.cell? ⟨w.heap.size, 4, none⟩ = some (.int .u64 t.c) ∧ w'.cell? ⟨w.heap.size, 5, none⟩ = some (.string t.p) ∧ w'.cell? ⟨w.heap.size + 1, 0, none⟩ = some (.int .u64 x.a) ∧ w'.cell? ⟨w.heap.size + 1, 1, none⟩ = some (.int .u64 x.b) ∧ w'.cell? ⟨w.heap.size + 1, 2, none⟩ = some (.int .u64 x.c) ∧ w'.cell? ⟨w.heap.size + 1, 3, none⟩ = some (.string x.p) ∧ w'.cell? ⟨w.heap.size + 1, 4, none⟩ = some (.string x.m)) (first | (refine ⟨?_, ?_, ?_, ?_, ?_, ?_, ?_, ?_, ?_, ?_, ?_⟩ <;> (repeat (first | with_reducible assumption | with_reducible apply cell_alloc_some | with_reducible apply cell_drew_some | with_reducible refine cell_below (by with_reducible assumption) ?_ | with_reducible refine cell_set_other (by omega) ?_))) | fail) (first
    | (go_at_call 59; (with_reducible refine (term_any t _ HGG.out).mono ?_); rintro e w1 ⟨⟨s, M', rfl, hat⟩, hb1⟩; have HT1 := Lib.hid hat; have HB1 := Lib.hid (Below.up (w := W) (by (repeat (first | exact Below.refl _ _ | apply Below.drew | (apply below_alloc_on (Nat.le_refl _))))) hb1); clear hat)
    | (go_at_call 41; (with_reducible refine (version_below x _).mono ?_); rintro e w2 ⟨N, rfl, hN, hat, hb2⟩; have HX2 := Lib.hid (show AtV w2 N x ⟨#[]⟩ from hat); have HT2 := Lib.hid (AtV.below (w := _) (N := M') (x := t.ver) (o := ⟨#[]⟩) (by exact HT1.out) hb2); have HB2 := Lib.hid (Below.up HB1.out (Below.up (w := w1) (by (repeat (first | exact Below.refl _ _ | apply Below.drew | (apply below_alloc_on (Nat.le_refl _))))) hb2)); clear hN hat)
    | (go_at_call 58; (with_reducible refine (zzBelow_any x ⟨#[]⟩ s t N M' pre _ (by exact HX2.out) (by exact HT2.out) GX.out GY.out (HN.out.below (Below.up HW.out (Below.up HB2.out (by (repeat (first | exact Below.refl _ _ | apply Below.drew | (apply below_alloc_on (Nat.le_refl _)))))))) zx zy).mono ?_); rintro e w3 ⟨⟨ev, rfl⟩, hb3⟩; rw [HR.out]; have HB3 := Lib.hid (Below.up HB2.out (Below.up (w := w2) (by (repeat (first | exact Below.refl _ _ | apply Below.drew | (apply below_alloc_on (Nat.le_refl _))))) hb3)))
    | fail)
  go_wp2
  go_ret
  exact ⟨rfl, Below.up HW.out HB3.out⟩
end Go.Proofs.YtopaileliohpdaaDoor
