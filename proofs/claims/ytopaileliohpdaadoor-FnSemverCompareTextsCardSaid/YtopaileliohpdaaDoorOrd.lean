/-
  The order of versions: plain, and (*Version).Compare and what stands on it.
-/
import Derived.Test.YtopaileliohpdaaDoorPlain
namespace Go.Proofs.YtopaileliohpdaaDoor
open Go.RowKit
set_option maxRecDepth 100000
set_option linter.unusedVariables false

namespace M
def seg (a b : Nat) : Int := if a < b then -1 else if b < a then 1 else 0
def preCmp (p q : Bs) : Int := if p = [] then (if q = [] then 0 else 1) else if q = [] then -1 else cmpPre p q
end M
def V.nums3 (x y : V) : Int := if M.seg x.a y.a ≠ 0 then M.seg x.a y.a else if M.seg x.b y.b ≠ 0 then M.seg x.b y.b else M.seg x.c y.c
/-- by clause 11 -/
def V.cmp (x y : V) : Int := if x.nums3 y ≠ 0 then x.nums3 y else M.preCmp (M.bs x.p) (M.bs y.p)
/-- a prerelease that Compare is asked of: none, or a good one -/
def V.pGood (x : V) : Prop := M.bs x.p = [] ∨ M.goodPre (M.bs x.p) = true

theorem compareSegment_is (a b : Nat) (r : Int) (w : World) (hr : Hid (M.seg a b = r)) :
    Calls Tryd.prog 72 #[.int .u64 a, .int .u64 b] w fun e w' => e = .returned (.int .i64 r) ∧ w' = w := by
  obtain rfl := hr.out
  clear hr
  rcases Nat.lt_trichotomy a b with h | h | h
  · rw [show M.seg a b = -1 by unfold M.seg; rw [if_pos h]]
    have h' : (a : Int) < b := by omega
    go_enter Tryd.func72, Tryd.ntmps72
    go_wp2
    go_ret
    exact ⟨rfl, rfl⟩
  · rw [show M.seg a b = 0 by unfold M.seg; rw [if_neg (by omega), if_neg (by omega)]]
    subst h
    go_enter Tryd.func72, Tryd.ntmps72
    go_wp2
    go_ret
    exact ⟨rfl, rfl⟩
  · rw [show M.seg a b = 1 by unfold M.seg; rw [if_neg (by omega), if_pos h]]
    have h' : ¬ (a : Int) < b := by omega
    have h'' : (b : Int) < a := by omega
    go_enter Tryd.func72, Tryd.ntmps72
    go_wp2
    go_ret
    exact ⟨rfl, rfl⟩

set_option maxHeartbeats 4000000 in
theorem compare_a (x y : V) (o o' : ByteArray) (N K : Nat) (w : World) (hx : AtV w N x o) (hy : AtV w K y o') (r : Int) (hr : Hid (M.seg x.a y.a = r)) (h0 : ¬ r = 0) :
    Calls Tryd.prog 48 #[.pointer (some ⟨N, 0, none⟩), .pointer (some ⟨K, 0, none⟩)] w fun e w' => e = .returned (.int .i64 r) ∧ Below w.heap.size w w' := by
  obtain ⟨c0, c1, c2, c3, c4, c5⟩ := hx.cells
  obtain ⟨d0, d1, d2, d3, d4, d5⟩ := hy.cells
  clear hx hy
  go_enter Tryd.func48, Tryd.ntmps48
  go_wp2_with fail
  go_region_held3 (fun w' => w'.cell? ⟨N, 0, none⟩ = some (.int .u64 x.a) ∧ w'.cell? ⟨N, 1, none⟩ = some (.int .u64 x.b) ∧ w'.cell? ⟨N, 2, none⟩ = some (.int .u64 x.c) ∧
    w'.cell? ⟨N, 3, none⟩ = some (.string x.p) ∧ w'.cell? ⟨N, 4, none⟩ = some (.string x.m) ∧ w'.cell? ⟨N, 5, none⟩ = some (.string o) ∧
    w'.cell? ⟨K, 0, none⟩ = some (.int .u64 y.a) ∧ w'.cell? ⟨K, 1, none⟩ = some (.int .u64 y.b) ∧ w'.cell? ⟨K, 2, none⟩ = some (.int .u64 y.c) ∧
    w'.cell? ⟨K, 3, none⟩ = some (.string y.p) ∧ w'.cell? ⟨K, 4, none⟩ = some (.string y.m) ∧ w'.cell? ⟨K, 5, none⟩ = some (.string o')) (first | (refine ⟨?_, ?_, ?_, ?_, ?_, ?_, ?_, ?_, ?_, ?_, ?_, ?_⟩ <;> (repeat (first | with_reducible assumption | with_reducible apply cell_alloc_some | with_reducible apply cell_drew_some | with_reducible refine cell_below (by with_reducible assumption) ?_ | with_reducible refine cell_set_other (by omega) ?_))) | fail) (first
    | (go_at_call 73; refine (major_any x o _).mono ?_; rintro e w' ⟨rfl, rfl⟩)
    | (go_at_call 73; refine (major_any y o' _).mono ?_; rintro e w' ⟨rfl, rfl⟩)
    | (go_at_call 72; refine (compareSegment_is _ _ _ _ hr).mono ?_; rintro e w' ⟨rfl, rfl⟩)
    | fail)
  go_wp2
  go_ret
  refine ⟨rfl, ?_⟩
  (repeat (first | exact Below.refl _ _ | apply Below.drew | (apply below_alloc_on (Nat.le_refl _))))
set_option maxHeartbeats 4000000 in
theorem compare_b (x y : V) (o o' : ByteArray) (N K : Nat) (w : World) (hx : AtV w N x o) (hy : AtV w K y o') (r : Int) (ha : Hid (M.seg x.a y.a = 0)) (hr : Hid (M.seg x.b y.b = r)) (h0 : ¬ r = 0) :
    Calls Tryd.prog 48 #[.pointer (some ⟨N, 0, none⟩), .pointer (some ⟨K, 0, none⟩)] w fun e w' => e = .returned (.int .i64 r) ∧ Below w.heap.size w w' := by
  obtain ⟨c0, c1, c2, c3, c4, c5⟩ := hx.cells
  obtain ⟨d0, d1, d2, d3, d4, d5⟩ := hy.cells
  clear hx hy
  go_enter Tryd.func48, Tryd.ntmps48
  go_wp2_with fail
  go_region_held3 (fun w' => w'.cell? ⟨N, 0, none⟩ = some (.int .u64 x.a) ∧ w'.cell? ⟨N, 1, none⟩ = some (.int .u64 x.b) ∧ w'.cell? ⟨N, 2, none⟩ = some (.int .u64 x.c) ∧
    w'.cell? ⟨N, 3, none⟩ = some (.string x.p) ∧ w'.cell? ⟨N, 4, none⟩ = some (.string x.m) ∧ w'.cell? ⟨N, 5, none⟩ = some (.string o) ∧
    w'.cell? ⟨K, 0, none⟩ = some (.int .u64 y.a) ∧ w'.cell? ⟨K, 1, none⟩ = some (.int .u64 y.b) ∧ w'.cell? ⟨K, 2, none⟩ = some (.int .u64 y.c) ∧
    w'.cell? ⟨K, 3, none⟩ = some (.string y.p) ∧ w'.cell? ⟨K, 4, none⟩ = some (.string y.m) ∧ w'.cell? ⟨K, 5, none⟩ = some (.string o')) (first | (refine ⟨?_, ?_, ?_, ?_, ?_, ?_, ?_, ?_, ?_, ?_, ?_, ?_⟩ <;> (repeat (first | with_reducible assumption | with_reducible apply cell_alloc_some | with_reducible apply cell_drew_some | with_reducible refine cell_below (by with_reducible assumption) ?_ | with_reducible refine cell_set_other (by omega) ?_))) | fail) (first
    | (go_at_call 73; refine (major_any x o _).mono ?_; rintro e w' ⟨rfl, rfl⟩)
    | (go_at_call 73; refine (major_any y o' _).mono ?_; rintro e w' ⟨rfl, rfl⟩)
    | (go_at_call 72; refine (compareSegment_is _ _ _ _ ha).mono ?_; rintro e w' ⟨rfl, rfl⟩)
    | fail)
  go_wp2_with fail
  go_region_held3 (fun w' => w'.cell? ⟨N, 0, none⟩ = some (.int .u64 x.a) ∧ w'.cell? ⟨N, 1, none⟩ = some (.int .u64 x.b) ∧ w'.cell? ⟨N, 2, none⟩ = some (.int .u64 x.c) ∧
    w'.cell? ⟨N, 3, none⟩ = some (.string x.p) ∧ w'.cell? ⟨N, 4, none⟩ = some (.string x.m) ∧ w'.cell? ⟨N, 5, none⟩ = some (.string o) ∧
    w'.cell? ⟨K, 0, none⟩ = some (.int .u64 y.a) ∧ w'.cell? ⟨K, 1, none⟩ = some (.int .u64 y.b) ∧ w'.cell? ⟨K, 2, none⟩ = some (.int .u64 y.c) ∧
    w'.cell? ⟨K, 3, none⟩ = some (.string y.p) ∧ w'.cell? ⟨K, 4, none⟩ = some (.string y.m) ∧ w'.cell? ⟨K, 5, none⟩ = some (.string o')) (first | (refine ⟨?_, ?_, ?_, ?_, ?_, ?_, ?_, ?_, ?_, ?_, ?_, ?_⟩ <;> (repeat (first | with_reducible assumption | with_reducible apply cell_alloc_some | with_reducible apply cell_drew_some | with_reducible refine cell_below (by with_reducible assumption) ?_ | with_reducible refine cell_set_other (by omega) ?_))) | fail) (first
    | (go_at_call 74; refine (minor_any x o _).mono ?_; rintro e w' ⟨rfl, rfl⟩)
    | (go_at_call 74; refine (minor_any y o' _).mono ?_; rintro e w' ⟨rfl, rfl⟩)
    | (go_at_call 72; refine (compareSegment_is _ _ _ _ hr).mono ?_; rintro e w' ⟨rfl, rfl⟩)
    | fail)
  go_wp2
  go_ret
  refine ⟨rfl, ?_⟩
  (repeat (first | exact Below.refl _ _ | apply Below.drew | (apply below_alloc_on (Nat.le_refl _))))
set_option maxHeartbeats 4000000 in
theorem compare_tail (x y : V) (o o' : ByteArray) (N K : Nat) (w : World) (hx : AtV w N x o) (hy : AtV w K y o') (r : Int) (ha : Hid (M.seg x.a y.a = 0)) (hb : Hid (M.seg x.b y.b = 0)) (hr : Hid (M.seg x.c y.c = r)) (q : Int) (hq : Hid (q = if r ≠ 0 then r else M.preCmp (M.bs x.p) (M.bs y.p))) (gx : Hid x.pGood) (gy : Hid y.pGood) (hn : Hid (NumErrs w)) (zx : x.p.size ≤ 2147483647) (zy : y.p.size ≤ 2147483647) :
    Calls Tryd.prog 48 #[.pointer (some ⟨N, 0, none⟩), .pointer (some ⟨K, 0, none⟩)] w fun e w' => e = .returned (.int .i64 q) ∧ Below w.heap.size w w' := by
  obtain ⟨c0, c1, c2, c3, c4, c5⟩ := hx.cells
  obtain ⟨d0, d1, d2, d3, d4, d5⟩ := hy.cells
  clear hx hy
  go_enter Tryd.func48, Tryd.ntmps48
  go_wp2_with fail
  go_region_held3 (fun w' => w'.cell? ⟨N, 0, none⟩ = some (.int .u64 x.a) ∧ w'.cell? ⟨N, 1, none⟩ = some (.int .u64 x.b) ∧ w'.cell? ⟨N, 2, none⟩ = some (.int .u64 x.c) ∧
    w'.cell? ⟨N, 3, none⟩ = some (.string x.p) ∧ w'.cell? ⟨N, 4, none⟩ = some (.string x.m) ∧ w'.cell? ⟨N, 5, none⟩ = some (.string o) ∧
    w'.cell? ⟨K, 0, none⟩ = some (.int .u64 y.a) ∧ w'.cell? ⟨K, 1, none⟩ = some (.int .u64 y.b) ∧ w'.cell? ⟨K, 2, none⟩ = some (.int .u64 y.c) ∧
    w'.cell? ⟨K, 3, none⟩ = some (.string y.p) ∧ w'.cell? ⟨K, 4, none⟩ = some (.string y.m) ∧ w'.cell? ⟨K, 5, none⟩ = some (.string o')) (first | (refine ⟨?_, ?_, ?_, ?_, ?_, ?_, ?_, ?_, ?_, ?_, ?_, ?_⟩ <;> (repeat (first | with_reducible assumption | with_reducible apply cell_alloc_some | with_reducible apply cell_drew_some | with_reducible refine cell_below (by with_reducible assumption) ?_ | with_reducible refine cell_set_other (by omega) ?_))) | fail) (first
    | (go_at_call 73; refine (major_any x o _).mono ?_; rintro e w' ⟨rfl, rfl⟩)
    | (go_at_call 73; refine (major_any y o' _).mono ?_; rintro e w' ⟨rfl, rfl⟩)
    | (go_at_call 72; refine (compareSegment_is _ _ _ _ ha).mono ?_; rintro e w' ⟨rfl, rfl⟩)
    | fail)
  go_wp2_with fail
  go_region_held3 (fun w' => w'.cell? ⟨N, 0, none⟩ = some (.int .u64 x.a) ∧ w'.cell? ⟨N, 1, none⟩ = some (.int .u64 x.b) ∧ w'.cell? ⟨N, 2, none⟩ = some (.int .u64 x.c) ∧
    w'.cell? ⟨N, 3, none⟩ = some (.string x.p) ∧ w'.cell? ⟨N, 4, none⟩ = some (.string x.m) ∧ w'.cell? ⟨N, 5, none⟩ = some (.string o) ∧
    w'.cell? ⟨K, 0, none⟩ = some (.int .u64 y.a) ∧ w'.cell? ⟨K, 1, none⟩ = some (.int .u64 y.b) ∧ w'.cell? ⟨K, 2, none⟩ = some (.int .u64 y.c) ∧
    w'.cell? ⟨K, 3, none⟩ = some (.string y.p) ∧ w'.cell? ⟨K, 4, none⟩ = some (.string y.m) ∧ w'.cell? ⟨K, 5, none⟩ = some (.string o')) (first | (refine ⟨?_, ?_, ?_, ?_, ?_, ?_, ?_, ?_, ?_, ?_, ?_, ?_⟩ <;> (repeat (first | with_reducible assumption | with_reducible apply cell_alloc_some | with_reducible apply cell_drew_some | with_reducible refine cell_below (by with_reducible assumption) ?_ | with_reducible refine cell_set_other (by omega) ?_))) | fail) (first
    | (go_at_call 74; refine (minor_any x o _).mono ?_; rintro e w' ⟨rfl, rfl⟩)
    | (go_at_call 74; refine (minor_any y o' _).mono ?_; rintro e w' ⟨rfl, rfl⟩)
    | (go_at_call 72; refine (compareSegment_is _ _ _ _ hb).mono ?_; rintro e w' ⟨rfl, rfl⟩)
    | fail)
  go_wp2_with fail
  go_region_held3 (fun w' => w'.cell? ⟨N, 0, none⟩ = some (.int .u64 x.a) ∧ w'.cell? ⟨N, 1, none⟩ = some (.int .u64 x.b) ∧ w'.cell? ⟨N, 2, none⟩ = some (.int .u64 x.c) ∧
    w'.cell? ⟨N, 3, none⟩ = some (.string x.p) ∧ w'.cell? ⟨N, 4, none⟩ = some (.string x.m) ∧ w'.cell? ⟨N, 5, none⟩ = some (.string o) ∧
    w'.cell? ⟨K, 0, none⟩ = some (.int .u64 y.a) ∧ w'.cell? ⟨K, 1, none⟩ = some (.int .u64 y.b) ∧ w'.cell? ⟨K, 2, none⟩ = some (.int .u64 y.c) ∧
    w'.cell? ⟨K, 3, none⟩ = some (.string y.p) ∧ w'.cell? ⟨K, 4, none⟩ = some (.string y.m) ∧ w'.cell? ⟨K, 5, none⟩ = some (.string o')) (first | (refine ⟨?_, ?_, ?_, ?_, ?_, ?_, ?_, ?_, ?_, ?_, ?_, ?_⟩ <;> (repeat (first | with_reducible assumption | with_reducible apply cell_alloc_some | with_reducible apply cell_drew_some | with_reducible refine cell_below (by with_reducible assumption) ?_ | with_reducible refine cell_set_other (by omega) ?_))) | fail) (first
    | (go_at_call 75; refine (patch_any x o _).mono ?_; rintro e w' ⟨rfl, rfl⟩)
    | (go_at_call 75; refine (patch_any y o' _).mono ?_; rintro e w' ⟨rfl, rfl⟩)
    | (go_at_call 72; refine (compareSegment_is _ _ _ _ hr).mono ?_; rintro e w' ⟨rfl, rfl⟩)
    | fail)
  by_cases h0 : r = 0
  · subst h0
    have HX : Hid (M.bs x.p = [] ∨ M.goodPre (M.bs x.p) = true) := gx
    have HY : Hid (M.bs y.p = [] ∨ M.goodPre (M.bs y.p) = true) := gy
    by_cases ex : M.bs x.p = [] <;> by_cases ey : M.bs y.p = []
    · have hq1 : q = 0 := by rw [hq.out, if_neg (by simp), M.preCmp, if_pos ex, if_pos ey]
      have HQ := Lib.hid hq1
      clear hq1
      have e1 : x.p.toList = [] := empty_toList ex
      have e2 : y.p.toList = [] := empty_toList ey
      clear ex ey
      go_wp2_with (go_at_call 76; refine (prerelease_any y o' _).mono ?_; rintro e w' ⟨rfl, rfl⟩)
      go_ret
      refine ⟨ret_int HQ.out.symm, ?_⟩
      (repeat (first | exact Below.refl _ _ | apply Below.drew | (apply below_alloc_on (Nat.le_refl _))))
    · have hq1 : q = 1 := by rw [hq.out, if_neg (by simp), M.preCmp, if_pos ex, if_neg ey]
      have HQ := Lib.hid hq1
      clear hq1
      have e1 : x.p.toList = [] := empty_toList ex
      have e2 : y.p.toList.isEmpty = false := nonempty_toList ey
      clear ex ey
      go_wp2_with (go_at_call 76; refine (prerelease_any y o' _).mono ?_; rintro e w' ⟨rfl, rfl⟩)
      go_ret
      refine ⟨ret_int HQ.out.symm, ?_⟩
      (repeat (first | exact Below.refl _ _ | apply Below.drew | (apply below_alloc_on (Nat.le_refl _))))
    · have hq1 : q = -1 := by rw [hq.out, if_neg (by simp), M.preCmp, if_neg ex, if_pos ey]
      have HQ := Lib.hid hq1
      clear hq1
      have e1 : x.p.toList.isEmpty = false := nonempty_toList ex
      have e2 : y.p.toList = [] := empty_toList ey
      clear ex ey
      go_wp2_with (go_at_call 76; refine (prerelease_any y o' _).mono ?_; rintro e w' ⟨rfl, rfl⟩)
      go_ret
      refine ⟨ret_int HQ.out.symm, ?_⟩
      (repeat (first | exact Below.refl _ _ | apply Below.drew | (apply below_alloc_on (Nat.le_refl _))))
    · have hq1 : q = M.cmpPre (M.bs x.p) (M.bs y.p) := by rw [hq.out, if_neg (by simp), M.preCmp, if_neg ex, if_neg ey]
      have HQ := Lib.hid hq1
      clear hq1
      have e1 : x.p.toList.isEmpty = false := nonempty_toList ex
      have e2 : y.p.toList.isEmpty = false := nonempty_toList ey
      have GX := Lib.hid (HX.out.resolve_left ex)
      have GY := Lib.hid (HY.out.resolve_left ey)
      clear ex ey
      go_wp2_with (first
        | (go_at_call 76; refine (prerelease_any y o' _).mono ?_; rintro e w' ⟨rfl, rfl⟩)
        | (go_at_call 77; refine (comparePrerelease_any x.p y.p _ zx zy (hn.out.below (by (repeat (first | exact Below.refl _ _ | apply Below.drew | (apply below_alloc_on (Nat.le_refl _)))))) GX GY).mono ?_; rintro e w2 ⟨rfl, hb⟩; have HB := Lib.hid (Below.up (w := w) (by (repeat (first | exact Below.refl _ _ | apply Below.drew | (apply below_alloc_on (Nat.le_refl _))))) hb); clear hb))
      go_ret
      exact ⟨ret_int HQ.out.symm, HB.out⟩
  · have HQ := Lib.hid (show q = r by rw [hq.out, if_pos h0])
    go_wp2
    go_ret
    refine ⟨ret_int HQ.out.symm, ?_⟩
    (repeat (first | exact Below.refl _ _ | apply Below.drew | (apply below_alloc_on (Nat.le_refl _))))

theorem compare_any (x y : V) (o o' : ByteArray) (N K : Nat) (w : World) (hx : AtV w N x o) (hy : AtV w K y o') (gx : x.pGood) (gy : y.pGood) (hn : NumErrs w) (zx : x.p.size ≤ 2147483647) (zy : y.p.size ≤ 2147483647) :
    Calls Tryd.prog 48 #[.pointer (some ⟨N, 0, none⟩), .pointer (some ⟨K, 0, none⟩)] w fun e w' => e = .returned (.int .i64 (x.cmp y)) ∧ Below w.heap.size w w' := by
  by_cases ha : M.seg x.a y.a = 0
  · by_cases hb : M.seg x.b y.b = 0
    · have h3 : x.nums3 y = M.seg x.c y.c := by unfold V.nums3; rw [ha, hb]; rfl
      unfold V.cmp
      rw [h3]
      exact compare_tail x y o o' N K w hx hy _ (Lib.hid ha) (Lib.hid hb) (Lib.hid rfl) _ (Lib.hid rfl) (Lib.hid gx) (Lib.hid gy) (Lib.hid hn) zx zy
    · have h3 : x.nums3 y = M.seg x.b y.b := by unfold V.nums3; rw [ha, if_neg (by simp), if_pos hb]
      have hv : x.cmp y = M.seg x.b y.b := by unfold V.cmp; rw [h3, if_pos hb]
      rw [hv]
      exact compare_b x y o o' N K w hx hy _ (Lib.hid ha) (Lib.hid rfl) hb
  · have h3 : x.nums3 y = M.seg x.a y.a := by unfold V.nums3; rw [if_pos ha]
    have hv : x.cmp y = M.seg x.a y.a := by unfold V.cmp; rw [h3, if_pos ha]
    rw [hv]
    exact compare_a x y o o' N K w hx hy _ (Lib.hid rfl) ha
end Go.Proofs.YtopaileliohpdaaDoor
