/-
  What the laws ask of a version: spec.Good, svGood.
-/
import Derived.Test.YtopaileliohpdaaDoorVer
namespace Go.Proofs.YtopaileliohpdaaDoor
open Go.RowKit
set_option maxRecDepth 100000

def V.pOk (x : V) : Bool := (M.bs x.p).isEmpty || M.goodPre (M.bs x.p)
def V.mOk (x : V) : Bool := (M.bs x.m).isEmpty || M.validMeta (M.bs x.m)
def V.good (x : V) : Bool := x.pOk && x.mOk

/-- a version boxed -/
def V.box (x : V) : Obj := .cells #[.int .u64 x.a, .int .u64 x.b, .int .u64 x.c, .string x.p, .string x.m] 24
theorem box_after (x : V) {w w1 : World} (h : Below (w.alloc x.box).heap.size (w.alloc x.box) w1) :
    w1.cell? ⟨w.heap.size, 0, none⟩ = some (.int .u64 x.a) ∧ w1.cell? ⟨w.heap.size, 1, none⟩ = some (.int .u64 x.b) ∧ w1.cell? ⟨w.heap.size, 2, none⟩ = some (.int .u64 x.c) ∧
    w1.cell? ⟨w.heap.size, 3, none⟩ = some (.string x.p) ∧ w1.cell? ⟨w.heap.size, 4, none⟩ = some (.string x.m) := by
  have h0 : w1.heap[w.heap.size]? = some x.box := by
    rw [h.block _ (by simp)]
    exact alloc_at _ _ _ rfl
  unfold V.box at h0
  refine ⟨?_, ?_, ?_, ?_, ?_⟩ <;> rw [cell_of_row w1 _ _ _ _ _ h0] <;> rfl
theorem below_boxed {w w1 : World} {o : Obj} (h : Below (w.alloc o).heap.size (w.alloc o) w1) : Below w.heap.size w w1 := (below_alloc w o).trans (h.mono (below_alloc w o).size)

theorem validPre_is (s : ByteArray) (r : Bool) (w : World) (hs : s.size ≤ 2147483647) (hr : Hid (M.validPre (M.bs s) = r)) :
    Calls Tryd.prog 46 #[.string s] w fun e w' => e = .returned (.bool r) ∧ Below w.heap.size w w' := by
  have := validPre_any s w hs
  rw [hr.out] at this
  exact this
theorem smallPre_is (s : ByteArray) (r : Bool) (w : World) (hs : s.size ≤ 2147483647) (hr : Hid (M.smallPre (M.bs s) = r)) :
    Calls Tryd.prog 47 #[.string s] w fun e w' => e = .returned (.bool r) ∧ Below w.heap.size w w' := by
  have := smallPre_any s w hs
  rw [hr.out] at this
  exact this
theorem validMeta_is (s : ByteArray) (r : Bool) (w : World) (hs : s.size ≤ 2147483647) (hr : Hid (M.validMeta (M.bs s) = r)) :
    Calls Tryd.prog 15 #[.string s] w fun e w' => e = .returned (.bool r) ∧ Below w.heap.size w w' := by
  have := validMeta_any s w hs
  rw [hr.out] at this
  exact this

/-- an equation between strings and the empty one, as the walk asks it -/
theorem empty_cases (s : ByteArray) : (s.toList = [] ∧ (M.bs s).isEmpty = true) ∨ (s.toList.isEmpty = false ∧ (M.bs s).isEmpty = false) := by
  rw [toList_bs]
  cases h : M.bs s with
  | nil => exact .inl ⟨rfl, rfl⟩
  | cons _ _ => exact .inr ⟨rfl, rfl⟩

set_option maxHeartbeats 1000000 in
theorem good_any (x : V) (w : World) (h1 : x.p.size ≤ 2147483647) (h2 : x.m.size ≤ 2147483647) :
    Calls Tryd.prog 39 #[x.v] w fun e w' => e = .returned (.bool x.good) ∧ Below w.heap.size w w' := by
  obtain ⟨a, b, c, p, m⟩ := x
  simp only at h1 h2
  have hv : V.v ⟨a, b, c, p, m⟩ = .agg #[.int .u64 a, .int .u64 b, .int .u64 c, .string p, .string m] := rfl
  rw [hv]
  clear hv
  rcases empty_cases p with ⟨hp, hp2⟩ | ⟨hp, hp2⟩ <;> rcases empty_cases m with ⟨hm, hm2⟩ | ⟨hm, hm2⟩
  · have HR := Lib.hid (show V.good ⟨a, b, c, p, m⟩ = true by simp only [V.good, V.pOk, V.mOk, hp2, hm2, Bool.true_or, Bool.and_self])
    clear hp2 hm2
    rw [HR.out]
    go_enter Tryd.func39, Tryd.ntmps39
    go_wp2
    go_ret
    exact ⟨rfl, below_alloc _ _⟩
  · cases hvm : M.validMeta (M.bs m)
    all_goals
      have HV := Lib.hid hvm
      have HR := Lib.hid (show V.good ⟨a, b, c, p, m⟩ = M.validMeta (M.bs m) by simp only [V.good, V.pOk, V.mOk, hp2, hm2, Bool.true_or, Bool.false_or, Bool.true_and])
      clear hp2 hm2
      rw [HR.out, hvm]
      clear hvm
      go_enter Tryd.func39, Tryd.ntmps39
      go_wp2_with (go_at_call 15; (with_reducible refine (validMeta_is _ _ _ h2 HV).mono ?_); rintro e w1 ⟨rfl, hb⟩; have HB1 := Lib.hid hb; clear hb)
      go_ret
      exact ⟨rfl, below_boxed HB1.out⟩
  · cases hv : M.validPre (M.bs p)
    · have HV := Lib.hid hv
      have HR := Lib.hid (show V.good ⟨a, b, c, p, m⟩ = false by simp only [V.good, V.pOk, M.goodPre, hp2, hv, Bool.false_or, Bool.false_and])
      clear hp2 hm2 hv
      rw [HR.out]
      go_enter Tryd.func39, Tryd.ntmps39
      go_wp2_with (go_at_call 46; (with_reducible refine (validPre_is _ _ _ h1 HV).mono ?_); rintro e w1 ⟨rfl, hb⟩; have HB1 := Lib.hid hb; obtain ⟨k0, k1, k2, k3, k4⟩ := box_after ⟨a, b, c, p, m⟩ hb; clear hb k0 k1 k2)
      go_ret
      exact ⟨rfl, below_boxed HB1.out⟩
    cases hs : M.smallPre (M.bs p)
    · have HV := Lib.hid hv
      have HS := Lib.hid hs
      have HR := Lib.hid (show V.good ⟨a, b, c, p, m⟩ = false by simp only [V.good, V.pOk, M.goodPre, hp2, hv, hs, Bool.false_or, Bool.false_and, Bool.and_false])
      clear hp2 hm2 hv hs
      rw [HR.out]
      go_enter Tryd.func39, Tryd.ntmps39
      go_wp2_with (first
        | (go_at_call 46; (with_reducible refine (validPre_is _ _ _ h1 HV).mono ?_); rintro e w1 ⟨rfl, hb⟩; have HB1 := Lib.hid hb; obtain ⟨k0, k1, k2, k3, k4⟩ := box_after ⟨a, b, c, p, m⟩ hb; clear hb k0 k1 k2)
        | (go_at_call 47; (with_reducible refine (smallPre_is _ _ _ h1 HS).mono ?_); rintro e w2 ⟨rfl, hb⟩; have HB2 := Lib.hid (HB1.out.trans (hb.mono HB1.out.size)); clear k3 k4; obtain ⟨k0, k1, k2, k3, k4⟩ := box_after ⟨a, b, c, p, m⟩ HB2.out; clear hb k0 k1 k2))
      go_ret
      exact ⟨rfl, below_boxed HB2.out⟩
    · have HV := Lib.hid hv
      have HS := Lib.hid hs
      have HR := Lib.hid (show V.good ⟨a, b, c, p, m⟩ = true by simp only [V.good, V.pOk, V.mOk, M.goodPre, hp2, hm2, hv, hs, Bool.false_or, Bool.true_or, Bool.and_self])
      clear hp2 hm2 hv hs
      rw [HR.out]
      go_enter Tryd.func39, Tryd.ntmps39
      go_wp2_with (first
        | (go_at_call 46; (with_reducible refine (validPre_is _ _ _ h1 HV).mono ?_); rintro e w1 ⟨rfl, hb⟩; have HB1 := Lib.hid hb; obtain ⟨k0, k1, k2, k3, k4⟩ := box_after ⟨a, b, c, p, m⟩ hb; clear hb k0 k1 k2)
        | (go_at_call 47; (with_reducible refine (smallPre_is _ _ _ h1 HS).mono ?_); rintro e w2 ⟨rfl, hb⟩; have HB2 := Lib.hid (HB1.out.trans (hb.mono HB1.out.size)); clear k3 k4; obtain ⟨k0, k1, k2, k3, k4⟩ := box_after ⟨a, b, c, p, m⟩ HB2.out; clear hb k0 k1 k2))
      go_ret
      exact ⟨rfl, below_boxed HB2.out⟩
  · cases hv : M.validPre (M.bs p)
    · have HV := Lib.hid hv
      have HR := Lib.hid (show V.good ⟨a, b, c, p, m⟩ = false by simp only [V.good, V.pOk, M.goodPre, hp2, hv, Bool.false_or, Bool.false_and])
      clear hp2 hm2 hv
      rw [HR.out]
      go_enter Tryd.func39, Tryd.ntmps39
      go_wp2_with (go_at_call 46; (with_reducible refine (validPre_is _ _ _ h1 HV).mono ?_); rintro e w1 ⟨rfl, hb⟩; have HB1 := Lib.hid hb; obtain ⟨k0, k1, k2, k3, k4⟩ := box_after ⟨a, b, c, p, m⟩ hb; clear hb k0 k1 k2)
      go_ret
      exact ⟨rfl, below_boxed HB1.out⟩
    cases hs : M.smallPre (M.bs p)
    · have HV := Lib.hid hv
      have HS := Lib.hid hs
      have HR := Lib.hid (show V.good ⟨a, b, c, p, m⟩ = false by simp only [V.good, V.pOk, M.goodPre, hp2, hv, hs, Bool.false_or, Bool.false_and, Bool.and_false])
      clear hp2 hm2 hv hs
      rw [HR.out]
      go_enter Tryd.func39, Tryd.ntmps39
      go_wp2_with (first
        | (go_at_call 46; (with_reducible refine (validPre_is _ _ _ h1 HV).mono ?_); rintro e w1 ⟨rfl, hb⟩; have HB1 := Lib.hid hb; obtain ⟨k0, k1, k2, k3, k4⟩ := box_after ⟨a, b, c, p, m⟩ hb; clear hb k0 k1 k2)
        | (go_at_call 47; (with_reducible refine (smallPre_is _ _ _ h1 HS).mono ?_); rintro e w2 ⟨rfl, hb⟩; have HB2 := Lib.hid (HB1.out.trans (hb.mono HB1.out.size)); clear k3 k4; obtain ⟨k0, k1, k2, k3, k4⟩ := box_after ⟨a, b, c, p, m⟩ HB2.out; clear hb k0 k1 k2))
      go_ret
      exact ⟨rfl, below_boxed HB2.out⟩
    cases hvm : M.validMeta (M.bs m)
    all_goals
      have HV := Lib.hid hv
      have HS := Lib.hid hs
      have HM := Lib.hid hvm
      have HR := Lib.hid (show V.good ⟨a, b, c, p, m⟩ = M.validMeta (M.bs m) by simp only [V.good, V.pOk, V.mOk, M.goodPre, hp2, hm2, hv, hs, Bool.false_or, Bool.true_and, Bool.and_self])
      rw [HR.out, hvm]
      clear hp2 hm2 hv hs hvm
      go_enter Tryd.func39, Tryd.ntmps39
      go_wp2_with (first
        | (go_at_call 46; (with_reducible refine (validPre_is _ _ _ h1 HV).mono ?_); rintro e w1 ⟨rfl, hb⟩; have HB1 := Lib.hid hb; obtain ⟨k0, k1, k2, k3, k4⟩ := box_after ⟨a, b, c, p, m⟩ hb; clear hb k0 k1 k2)
        | (go_at_call 47; (with_reducible refine (smallPre_is _ _ _ h1 HS).mono ?_); rintro e w2 ⟨rfl, hb⟩; have HB2 := Lib.hid (HB1.out.trans (hb.mono HB1.out.size)); clear k3 k4; obtain ⟨k0, k1, k2, k3, k4⟩ := box_after ⟨a, b, c, p, m⟩ HB2.out; clear hb k0 k1 k2)
        | (go_at_call 15; (with_reducible refine (validMeta_is _ _ _ h2 HM).mono ?_); rintro e w3 ⟨rfl, hb⟩; have HB3 := Lib.hid (HB2.out.trans (hb.mono HB2.out.size)); clear hb))
      go_ret
      exact ⟨rfl, below_boxed HB3.out⟩
end Go.Proofs.YtopaileliohpdaaDoor
