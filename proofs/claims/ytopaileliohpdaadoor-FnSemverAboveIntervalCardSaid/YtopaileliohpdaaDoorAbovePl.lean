/-
  laws.FnSemverAboveInterval returns true for all versions and counts.
-/
import Derived.Test.YtopaileliohpdaaDoorStBare
namespace Go.Proofs.YtopaileliohpdaaDoor
open Go.RowKit
set_option maxRecDepth 100000
set_option linter.unusedVariables false

theorem wrap_max {n : Nat} (h : n = 18446744073709551615) : IntKind.u64.wrap ((n : Int) + 1) = 0 := by rw [h]; decide
theorem wrap_less {n : Nat} (h : n < 18446744073709551615) : IntKind.u64.wrap ((n : Int) + 1) = ((n + 1 : Nat) : Int) := by rw [wrap_u64 (by omega) (by omega)]; omega
theorem wrap_ne {n : Nat} (h : n < 18446744073709551615) : (IntKind.u64.wrap ((n : Int) + 1) != 0) = true := by rw [wrap_less h]; simp; omega
theorem wrap_eq {n : Nat} (h : n = 18446744073709551615) : (IntKind.u64.wrap ((n : Int) + 1) != 0) = false := by rw [wrap_max h]; rfl
theorem scPlus_1t (x : V) (w : World) (h1 : x.a < 18446744073709551615) :
    Calls Tryd.prog 32 #[.agg #[.int .u64 x.a, .int .u64 x.b, .int .u64 x.c, .string x.p, .string x.m], .int .i64 1] w fun e w' => e = .returned (.bool true) ∧ Below w.heap.size w w' := by
  have i0 := wrap_ne h1
  clear h1
  go_enter Tryd.func32, Tryd.ntmps32
  go_wp2
  go_ret
  exact ⟨rfl, below_alloc _ _⟩
theorem scPlus_1f (x : V) (w : World) (h1 : x.a = 18446744073709551615) :
    Calls Tryd.prog 32 #[.agg #[.int .u64 x.a, .int .u64 x.b, .int .u64 x.c, .string x.p, .string x.m], .int .i64 1] w fun e w' => e = .returned (.bool false) ∧ Below w.heap.size w w' := by
  have i0 := wrap_eq h1
  clear h1
  go_enter Tryd.func32, Tryd.ntmps32
  go_wp2
  go_ret
  exact ⟨rfl, below_alloc _ _⟩
theorem scPlus_2t (x : V) (w : World) (h1 : x.a < 18446744073709551615) (h2 : x.b < 18446744073709551615) :
    Calls Tryd.prog 32 #[.agg #[.int .u64 x.a, .int .u64 x.b, .int .u64 x.c, .string x.p, .string x.m], .int .i64 2] w fun e w' => e = .returned (.bool true) ∧ Below w.heap.size w w' := by
  have i0 := wrap_ne h1
  have i1 := wrap_ne h2
  clear h1 h2
  go_enter Tryd.func32, Tryd.ntmps32
  go_wp2
  go_ret
  exact ⟨rfl, below_alloc _ _⟩
theorem scPlus_2fa (x : V) (w : World) (h1 : x.a = 18446744073709551615) :
    Calls Tryd.prog 32 #[.agg #[.int .u64 x.a, .int .u64 x.b, .int .u64 x.c, .string x.p, .string x.m], .int .i64 2] w fun e w' => e = .returned (.bool false) ∧ Below w.heap.size w w' := by
  have i0 := wrap_eq h1
  clear h1
  go_enter Tryd.func32, Tryd.ntmps32
  go_wp2
  go_ret
  exact ⟨rfl, below_alloc _ _⟩
theorem scPlus_2fb (x : V) (w : World) (h1 : x.a < 18446744073709551615) (h2 : x.b = 18446744073709551615) :
    Calls Tryd.prog 32 #[.agg #[.int .u64 x.a, .int .u64 x.b, .int .u64 x.c, .string x.p, .string x.m], .int .i64 2] w fun e w' => e = .returned (.bool false) ∧ Below w.heap.size w w' := by
  have i0 := wrap_ne h1
  have i1 := wrap_eq h2
  clear h1 h2
  go_enter Tryd.func32, Tryd.ntmps32
  go_wp2
  go_ret
  exact ⟨rfl, below_alloc _ _⟩

/-- what stBare tells of a count -/
def InK (k : Int) (r : Bool) : Prop := (k < 1 ∧ r = false) ∨ ((¬ k < 1 ∧ 3 < k) ∧ r = false) ∨ ((¬ k < 1 ∧ ¬ 3 < k) ∧ r = true)
theorem stBare_x (x y u v : V) (k : Int) (r : Bool) (w : World) (hu : Hid (x.strip = u)) (hv : Hid (y.strip = v)) (hr : Hid (InK k r)) :
    Calls Tryd.prog 31 #[.agg #[.int .u64 x.a, .int .u64 x.b, .int .u64 x.c, .string x.p, .string x.m], .agg #[.int .u64 y.a, .int .u64 y.b, .int .u64 y.c, .string y.p, .string y.m], .int .i64 k] w fun e w' => e = .returned (.tuple #[.agg #[.int .u64 u.a, .int .u64 u.b, .int .u64 u.c, .string u.p, .string u.m], .agg #[.int .u64 v.a, .int .u64 v.b, .int .u64 v.c, .string v.p, .string v.m], .bool r]) ∧ Below w.heap.size w w' := by
  have := stBare_is x y k r w hr.out
  rw [hu.out, hv.out] at this
  exact this
theorem vGreaterEqual_x (x y : V) (r : Bool) (w : World) (gx : x.pGood) (gy : y.pGood) (hn : NumErrs w) (zx : x.p.size ≤ 2147483647) (zy : y.p.size ≤ 2147483647) (hr : Hid (decide (x.cmp y ≥ 0) = r)) :
    Calls Tryd.prog 34 #[.agg #[.int .u64 x.a, .int .u64 x.b, .int .u64 x.c, .string x.p, .string x.m], .agg #[.int .u64 y.a, .int .u64 y.b, .int .u64 y.c, .string y.p, .string y.m]] w fun e w' => e = .returned (.bool r) ∧ Below w.heap.size w w' := by
  have := vGreaterEqual_any x y w gx gy hn zx zy
  rw [hr.out] at this
  exact this
theorem seg_self (n : Nat) : M.seg n n = 0 := by unfold M.seg; rw [if_neg (by omega), if_neg (by omega)]
theorem seg_lt {a b : Nat} (h : a < b) : M.seg a b = -1 := by unfold M.seg; rw [if_pos h]
theorem seg_gt {a b : Nat} (h : b < a) : M.seg a b = 1 := by unfold M.seg; rw [if_neg (by omega), if_pos h]
theorem seg_zero (n : Nat) : M.seg n 0 = 0 ∨ M.seg n 0 = 1 := by
  rcases Nat.eq_zero_or_pos n with h | h
  · rw [h]; exact .inl rfl
  · exact .inr (seg_gt h)
theorem above_1 (v : V) (a : Nat) (hp : M.bs v.p = []) : v.gt1 ⟨a, 0, 0, ⟨#[]⟩, ⟨#[]⟩⟩ = decide (v.cmp (V.bare (a + 1) 0 0) ≥ 0) := by
  have e0 : M.bs (⟨#[]⟩ : ByteArray) = [] := rfl
  unfold V.gt1 V.cmp V.nums3 V.bare M.preCmp
  simp only [hp, e0, if_true]
  rcases Nat.lt_trichotomy v.a (a + 1) with h | h | h
  · rw [seg_lt h]; simp; omega
  · rw [h, seg_self]
    rcases seg_zero v.b with h1 | h1 <;> rcases seg_zero v.c with h2 | h2 <;> rw [h1, h2] <;> simp <;> omega
  · rw [seg_gt h]; simp; omega
theorem above_2 (v : V) (a b : Nat) (hp : M.bs v.p = []) : v.gt2 ⟨a, b, 0, ⟨#[]⟩, ⟨#[]⟩⟩ = decide (v.cmp (V.bare a (b + 1) 0) ≥ 0) := by
  have e0 : M.bs (⟨#[]⟩ : ByteArray) = [] := rfl
  unfold V.gt2 V.cmp V.nums3 V.bare M.preCmp
  simp only [hp, e0, if_true]
  rcases Nat.lt_trichotomy v.a a with h | h | h
  · rw [seg_lt h]; simp; omega
  · rw [h, seg_self]
    rcases Nat.lt_trichotomy v.b (b + 1) with g | g | g
    · rw [seg_lt g]; simp; omega
    · rw [g, seg_self]
      rcases seg_zero v.c with h2 | h2 <;> rw [h2] <;> simp <;> omega
    · rw [seg_gt g]; simp; omega
  · rw [seg_gt h]; simp; omega
theorem above_1z (a : Nat) : (V.bare (a + 1) 0 0).gt1 ⟨a, 0, 0, ⟨#[]⟩, ⟨#[]⟩⟩ = true := by
  unfold V.gt1 V.bare; simp; omega
theorem above_2z (a b : Nat) : (V.bare a (b + 1) 0).gt2 ⟨a, b, 0, ⟨#[]⟩, ⟨#[]⟩⟩ = true := by
  unfold V.gt2 V.bare; simp; omega
end Go.Proofs.YtopaileliohpdaaDoor
