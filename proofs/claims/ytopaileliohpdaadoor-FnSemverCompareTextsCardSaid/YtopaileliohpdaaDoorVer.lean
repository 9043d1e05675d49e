/-
  The records of versions: what the laws ask of one, and the package's own record of one.
-/
import Derived.Test.YtopaileliohpdaaDoorCmp
import Derived.Test.YtopaileliohpdaaDoorShort
import Derived.Test.YtopaileliohpdaaDoorFmt
import Derived.Deep.RegionHeld3
namespace Go.Proofs.YtopaileliohpdaaDoor
open Go.RowKit
set_option maxRecDepth 100000

/-- a version's parts -/
structure V where
  (a b c : Nat)
  (p m : ByteArray)
def V.v (x : V) : Value := .agg #[.int .u64 x.a, .int .u64 x.b, .int .u64 x.c, .string x.p, .string x.m]
def V.fits (x : V) : Bool := decide (x.p.size ≤ 2147483647) && decide (x.m.size ≤ 2147483647)

theorem below_alloc (w : World) (o : Obj) : Below w.heap.size w (w.alloc o) := (Below.refl _ _).alloc (Nat.le_refl _) _

theorem alloc_at (w : World) (o : Obj) (n : Nat) (h : n = w.heap.size) : (w.alloc o).heap[n]? = some o := by
  subst h
  show (w.heap.push o)[w.heap.size]? = some o
  simp

theorem cell_alloc_some {w : World} {o : Obj} {a : Addr} {v : Value} (h : w.cell? a = some v) : (w.alloc o).cell? a = some v := by
  rw [(below_alloc w o).cell (p := a) (Sent.cell_lt h)]; exact h
theorem cell_drew_some {w : World} {a : Addr} {v : Value} (h : w.cell? a = some v) : w.drew.cell? a = some v := h
theorem below_alloc_on {B : Nat} {a w : World} {o : Obj} (hB : B ≤ a.heap.size) (h : Below B a w) : Below B a (w.alloc o) := h.alloc (Nat.le_trans hB h.size) _
theorem heap_alloc_some {w : World} {o o' : Obj} {n : Nat} (h : w.heap[n]? = some o) : (w.alloc o').heap[n]? = some o := by
  have hlt : n < w.heap.size := by
    rcases Nat.lt_or_ge n w.heap.size with h' | h'
    · exact h'
    · rw [Array.getElem?_eq_none h'] at h; cases h
  rw [(below_alloc w o').block n hlt]; exact h
theorem heap_drew_some {w : World} {o : Obj} {n : Nat} (h : w.heap[n]? = some o) : w.drew.heap[n]? = some o := h

theorem zzFits14_any (x : V) (w : World) (h1 : x.p.size ≤ 140737488351232) (h2 : x.m.size ≤ 140737488351232) :
    Calls Tryd.prog 11 #[x.v] w fun e w' => e = .returned (.bool x.fits) ∧ Below w.heap.size w w' := by
  obtain ⟨a, b, c, p, m⟩ := x
  unfold V.v V.fits
  simp only at h1 h2 ⊢
  by_cases hp : p.size ≤ 2147483647
  · by_cases hm : m.size ≤ 2147483647
    · rw [decide_eq_true hp, decide_eq_true hm]
      go_enter Tryd.func11, Tryd.ntmps11
      go_wp2
      go_ret
      exact ⟨rfl, below_alloc _ _⟩
    · rw [decide_eq_true hp, decide_eq_false hm]
      go_enter Tryd.func11, Tryd.ntmps11
      go_wp2
      go_ret
      exact ⟨rfl, below_alloc _ _⟩
  · rw [decide_eq_false hp]
    go_enter Tryd.func11, Tryd.ntmps11
    go_wp2
    go_ret
    exact ⟨rfl, below_alloc _ _⟩

/-- the package's record of a version, with its original text -/
def V.rc (x : V) (o : ByteArray) : Value := .agg #[.int .u64 x.a, .int .u64 x.b, .int .u64 x.c, .string x.p, .string x.m, .string o]
def V.cells (x : V) (o : ByteArray) : Obj := .cells #[.int .u64 x.a, .int .u64 x.b, .int .u64 x.c, .string x.p, .string x.m, .string o] 59
/-- a pointer to a record of x, of the call's own -/
def PtrV (w : World) (x : V) (o : ByteArray) (e : Ending) (w' : World) : Prop :=
  ∃ N, e = .returned (.pointer (some ⟨N, 0, none⟩)) ∧ w.heap.size ≤ N ∧ w'.heap[N]? = some (x.cells o) ∧ Below w.heap.size w w'

theorem version_any (x : V) (w : World) : Calls Tryd.prog 41 #[x.v] w (PtrV w x ⟨#[]⟩) := by
  obtain ⟨a, b, c, p, m⟩ := x
  unfold V.v
  simp only
  go_enter Tryd.func41, Tryd.ntmps41
  go_wp2_with (go_at_call 67; go_in)
  go_ret
  refine ⟨_, rfl, ?_, ?_, (((Below.refl _ _).alloc (Nat.le_refl _) _).alloc (by simp) _)⟩
  · simp
  · exact alloc_at _ _ _ (by simp)

theorem major_any (x : V) (o : ByteArray) (w : World) : Calls Tryd.prog 73 #[x.rc o] w fun e w' => e = .returned (.int .u64 x.a) ∧ w' = w.alloc (x.cells o) := by
  obtain ⟨a, b, c, p, m⟩ := x
  unfold V.rc
  simp only
  go_enter Tryd.func73, Tryd.ntmps73
  go_wp2
  go_ret
  exact ⟨rfl, rfl⟩
theorem minor_any (x : V) (o : ByteArray) (w : World) : Calls Tryd.prog 74 #[x.rc o] w fun e w' => e = .returned (.int .u64 x.b) ∧ w' = w.alloc (x.cells o) := by
  obtain ⟨a, b, c, p, m⟩ := x
  unfold V.rc
  simp only
  go_enter Tryd.func74, Tryd.ntmps74
  go_wp2
  go_ret
  exact ⟨rfl, rfl⟩
theorem patch_any (x : V) (o : ByteArray) (w : World) : Calls Tryd.prog 75 #[x.rc o] w fun e w' => e = .returned (.int .u64 x.c) ∧ w' = w.alloc (x.cells o) := by
  obtain ⟨a, b, c, p, m⟩ := x
  unfold V.rc
  simp only
  go_enter Tryd.func75, Tryd.ntmps75
  go_wp2
  go_ret
  exact ⟨rfl, rfl⟩
theorem prerelease_any (x : V) (o : ByteArray) (w : World) : Calls Tryd.prog 76 #[x.rc o] w fun e w' => e = .returned (.string x.p) ∧ w' = w.alloc (x.cells o) := by
  obtain ⟨a, b, c, p, m⟩ := x
  unfold V.rc
  simp only
  go_enter Tryd.func76, Tryd.ntmps76
  go_wp2
  go_ret
  exact ⟨rfl, rfl⟩
theorem metadata_any (x : V) (o : ByteArray) (w : World) : Calls Tryd.prog 79 #[x.rc o] w fun e w' => e = .returned (.string x.m) ∧ w' = w.alloc (x.cells o) := by
  obtain ⟨a, b, c, p, m⟩ := x
  unfold V.rc
  simp only
  go_enter Tryd.func79, Tryd.ntmps79
  go_wp2
  go_ret
  exact ⟨rfl, rfl⟩

/-- a record's block, to stand in every world behind -/
def AtV (w : World) (N : Nat) (x : V) (o : ByteArray) : Prop := w.heap[N]? = some (x.cells o)
theorem AtV.below {w w' : World} {N : Nat} {x : V} {o : ByteArray} (h : AtV w N x o) (b : Below w.heap.size w w') : AtV w' N x o := by
  have hlt : N < w.heap.size := by
    rcases Nat.lt_or_ge N w.heap.size with h' | h'
    · exact h'
    · unfold AtV at h; rw [Array.getElem?_eq_none h'] at h; cases h
  unfold AtV
  rw [b.block _ hlt]
  exact h

theorem AtV.lt {w : World} {N : Nat} {x : V} {o : ByteArray} (h : AtV w N x o) : N < w.heap.size := by
  rcases Nat.lt_or_ge N w.heap.size with h' | h'
  · exact h'
  · unfold AtV at h; rw [Array.getElem?_eq_none h'] at h; cases h
theorem AtV.cells {w : World} {N : Nat} {x : V} {o : ByteArray} (h : AtV w N x o) :
    w.cell? ⟨N, 0, none⟩ = some (.int .u64 x.a) ∧ w.cell? ⟨N, 1, none⟩ = some (.int .u64 x.b) ∧ w.cell? ⟨N, 2, none⟩ = some (.int .u64 x.c) ∧
    w.cell? ⟨N, 3, none⟩ = some (.string x.p) ∧ w.cell? ⟨N, 4, none⟩ = some (.string x.m) ∧ w.cell? ⟨N, 5, none⟩ = some (.string o) := by
  unfold AtV V.cells at h
  refine ⟨?_, ?_, ?_, ?_, ?_, ?_⟩ <;> rw [cell_of_row w N _ _ _ _ h] <;> rfl

set_option maxHeartbeats 1000000 in
theorem plainVersion_any (x : V) (o : ByteArray) (N : Nat) (w : World) (h : AtV w N x o) :
    Calls Tryd.prog 52 #[.pointer (some ⟨N, 0, none⟩)] w fun e w' => e = .returned x.v ∧ Below w.heap.size w w' := by
  have hN := h.lt
  obtain ⟨c0, c1, c2, c3, c4, c5⟩ := h.cells
  clear h
  go_enter Tryd.func52, Tryd.ntmps52
  go_wp2_with fail
  go_region_held3 (fun w' => w'.cell? ⟨N, 0, none⟩ = some (.int .u64 x.a) ∧ w'.cell? ⟨N, 1, none⟩ = some (.int .u64 x.b) ∧ w'.cell? ⟨N, 2, none⟩ = some (.int .u64 x.c) ∧
    w'.cell? ⟨N, 3, none⟩ = some (.string x.p) ∧ w'.cell? ⟨N, 4, none⟩ = some (.string x.m) ∧ w'.cell? ⟨N, 5, none⟩ = some (.string o)) (first | (refine ⟨?_, ?_, ?_, ?_, ?_, ?_⟩ <;> (repeat (first | with_reducible assumption | with_reducible apply cell_alloc_some | with_reducible apply cell_drew_some | with_reducible refine cell_below (by with_reducible assumption) ?_ | with_reducible refine cell_set_other (by omega) ?_)))) (first
    | (go_at_call 73; refine (major_any x o _).mono ?_; rintro e w' ⟨rfl, rfl⟩)
    | (go_at_call 74; refine (minor_any x o _).mono ?_; rintro e w' ⟨rfl, rfl⟩)
    | (go_at_call 75; refine (patch_any x o _).mono ?_; rintro e w' ⟨rfl, rfl⟩)
    | (go_at_call 76; refine (prerelease_any x o _).mono ?_; rintro e w' ⟨rfl, rfl⟩)
    | (go_at_call 79; refine (metadata_any x o _).mono ?_; rintro e w' ⟨rfl, rfl⟩))
  go_wp2
  refine bodyPost_ret (results_cell_row rfl _ _ w.heap.size 24 #[.int .u64 x.a, .int .u64 x.b, .int .u64 x.c, .string x.p, .string x.m] (0, 0) _ rfl (by (repeat (first | exact alloc_at _ _ _ rfl | assumption | apply heap_alloc_some | apply heap_drew_some))) Tryd.underlying24 rfl (by kernel_rfl)) rfl ?_
  refine ⟨rfl, ?_⟩
  (repeat (first | exact Below.refl _ _ | apply Below.drew | (apply below_alloc_on (Nat.le_refl _))))
end Go.Proofs.YtopaileliohpdaaDoor
