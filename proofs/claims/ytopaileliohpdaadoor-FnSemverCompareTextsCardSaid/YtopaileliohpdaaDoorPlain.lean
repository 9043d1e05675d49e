/-
  Plain versions in memory; impl.read.
-/
import Derived.Test.YtopaileliohpdaaDoorSetMeta
namespace Go.Proofs.YtopaileliohpdaaDoor
open Go.RowKit
set_option maxRecDepth 100000
set_option linter.unusedVariables false

/-- a plain version's block -/
def V.pc (x : V) : Obj := .cells #[.int .u64 x.a, .int .u64 x.b, .int .u64 x.c, .string x.p, .string x.m] 24
def AtP (w : World) (N : Nat) (x : V) : Prop := w.heap[N]? = some x.pc
def V.zero : V := ⟨0, 0, 0, ⟨#[]⟩, ⟨#[]⟩⟩
theorem AtP.lt {w : World} {N : Nat} {x : V} (h : AtP w N x) : N < w.heap.size := by
  rcases Nat.lt_or_ge N w.heap.size with h' | h'
  · exact h'
  · unfold AtP at h; rw [Array.getElem?_eq_none h'] at h; cases h
theorem AtP.below {w w' : World} {N : Nat} {x : V} (h : AtP w N x) (b : Below w.heap.size w w') : AtP w' N x := by
  unfold AtP
  rw [b.block _ h.lt]
  exact h
theorem AtP.loose {w : World} {N : Nat} {x : V} (h : AtP w N x) (j : Nat) : w.frozen? ⟨N, j, none⟩ = false := by
  unfold AtP V.pc at h
  simp [World.frozen?, h]
theorem AtP.cells {w : World} {N : Nat} {x : V} (h : AtP w N x) :
    w.cell? ⟨N, 0, none⟩ = some (.int .u64 x.a) ∧ w.cell? ⟨N, 1, none⟩ = some (.int .u64 x.b) ∧ w.cell? ⟨N, 2, none⟩ = some (.int .u64 x.c) ∧
    w.cell? ⟨N, 3, none⟩ = some (.string x.p) ∧ w.cell? ⟨N, 4, none⟩ = some (.string x.m) := by
  unfold AtP V.pc at h
  refine ⟨?_, ?_, ?_, ?_, ?_⟩ <;> rw [cell_of_row w N _ _ _ _ h] <;> rfl
theorem AtP.store5 {w : World} {N : Nat} {x : V} (h : AtP w N x) (y : V) :
    AtP (((((w.setCell ⟨N, 0, none⟩ (.int .u64 y.a)).setCell ⟨N, 1, none⟩ (.int .u64 y.b)).setCell ⟨N, 2, none⟩ (.int .u64 y.c)).setCell ⟨N, 3, none⟩ (.string y.p)).setCell ⟨N, 4, none⟩ (.string y.m)) N y := by
  unfold AtP V.pc at *
  have h0 := heap_setCell_same w N 0 _ _ (.int .u64 y.a) h
  have h1 := heap_setCell_same _ N 1 _ _ (.int .u64 y.b) h0
  have h2 := heap_setCell_same _ N 2 _ _ (.int .u64 y.c) h1
  have h3 := heap_setCell_same _ N 3 _ _ (.string y.p) h2
  have h4 := heap_setCell_same _ N 4 _ _ (.string y.m) h3
  simpa using h4
theorem up_store5 {B N : Nat} {a w : World} (h : Below B a w) (hB : B ≤ N) (v0 v1 v2 v3 v4 : Value) :
    Below B a (((((w.setCell ⟨N, 0, none⟩ v0).setCell ⟨N, 1, none⟩ v1).setCell ⟨N, 2, none⟩ v2).setCell ⟨N, 3, none⟩ v3).setCell ⟨N, 4, none⟩ v4) :=
  ((((h.setCell hB _).setCell hB _).setCell hB _).setCell hB _).setCell hB _
theorem results_ver {fn : Func} {p u : Tmp} (h : fn.results = #[.cell p 24, .tmp u]) (tmps : Array Value) (w : World) (N : Nat) (x : V) (v : Value)
    (hp : tmps.getD p undef = .pointer (some ⟨N, 0, none⟩)) (hu : tmps.getD u undef = v) (hat : AtP w N x) : (results fn tmps).run Tryd.prog w = .ok (.tuple #[x.v, v]) w := by
  unfold AtP V.pc at hat
  rw [results_cell_tmp h, hp, hu]
  simp [asAddr, Result.andThen, run_loadVar_row w N _ _ _ _ _ hat Tryd.underlying24 rfl (by kernel_rfl), V.v]
theorem post_ver {fn : Func} {p u : Tmp} (h : fn.results = #[.cell p 24, .tmp u]) {R : Ending → World → Prop} {a : Act} {w : World} (N : Nat) (x : V) (v : Value) (hd : a.defers = [])
    (hp : a.tmps.getD p undef = .pointer (some ⟨N, 0, none⟩)) (hu : a.tmps.getD u undef = v) (hat : AtP w N x) (hR : R (.returned (.tuple #[x.v, v])) w) : bodyPost Tryd.prog fn R .ret a w :=
  bodyPost_ret (results_ver h _ _ N x v hp hu hat) hd hR
theorem post_ver1 {fn : Func} {p : Tmp} (h : fn.results = #[.cell p 24]) {R : Ending → World → Prop} {a : Act} {w : World} (N : Nat) (x : V) (hd : a.defers = [])
    (hp : a.tmps.getD p undef = .pointer (some ⟨N, 0, none⟩)) (hat : AtP w N x) (hR : R (.returned x.v) w) : bodyPost Tryd.prog fn R .ret a w :=
  bodyPost_ret (results_cell_row h _ _ N _ _ (0, 0) _ hp hat Tryd.underlying24 rfl (by kernel_rfl)) hd hR

theorem read_err (p : Option Addr) (et : TypeId) (ep : Value) (w : World) :
    Calls Tryd.prog 43 #[.pointer p, .iface et ep] w fun e w' => e = .returned (.tuple #[V.zero.v, .bool false]) ∧ Below w.heap.size w w' := by
  go_enter Tryd.func43, Tryd.ntmps43
  go_wp2
  refine post_ver rfl w.heap.size V.zero (.bool false) rfl rfl rfl ?_ ⟨rfl, ?_⟩
  · exact alloc_at _ _ _ rfl
  · (repeat (first | exact Below.refl _ _ | apply Below.drew | (apply below_alloc_on (Nat.le_refl _))))
theorem read_ok (x : V) (o : ByteArray) (N : Nat) (w : World) (h : AtV w N x o) :
    Calls Tryd.prog 43 #[.pointer (some ⟨N, 0, none⟩), .nilIface] w fun e w' => e = .returned (.tuple #[x.v, .bool true]) ∧ Below w.heap.size w w' := by
  have HA := Lib.hid h
  clear h
  go_enter Tryd.func43, Tryd.ntmps43
  go_wp2_with (go_at_call 52; refine (plainVersion_any x o N _ (heap_alloc_some HA.out)).mono ?_; rintro e w1 ⟨rfl, hb⟩; simp only [V.v]; have hz : AtP w1 w.heap.size V.zero := AtP.below (alloc_at _ _ _ rfl) hb; have hB0 : Below w.heap.size w w1 := Below.up (by (repeat (first | exact Below.refl _ _ | apply Below.drew | (apply below_alloc_on (Nat.le_refl _))))) hb; obtain ⟨g0, g1, g2, g3, g4⟩ := hz.cells; have l0 := hz.loose 0; have l1 := hz.loose 1; have l2 := hz.loose 2; have l3 := hz.loose 3; have l4 := hz.loose 4; have HZ := Lib.hid hz; have HB := Lib.hid hB0; clear hz hB0 hb)
  refine post_ver rfl w.heap.size x (.bool true) rfl rfl rfl ?_ ⟨rfl, ?_⟩
  · exact AtP.store5 HZ.out x
  · exact up_store5 HB.out (Nat.le_refl _) _ _ _ _ _
theorem svMeta_any (x : V) (s : ByteArray) (w : World) :
    Calls Tryd.prog 16 #[x.v, .string s] w fun e w' => e = .returned (V.v { x with m := s }) ∧ w' = (w.alloc (V.pc { x with m := s })).alloc (V.pc { x with m := s }) := by
  obtain ⟨a, b, c, p, m⟩ := x
  unfold V.v V.pc
  simp only
  go_enter Tryd.func16, Tryd.ntmps16
  go_wp2
  refine post_ver1 rfl (w.heap.size + 1) ⟨a, b, c, p, s⟩ rfl rfl ?_ ⟨rfl, rfl⟩
  exact alloc_at _ _ _ (by simp)
end Go.Proofs.YtopaileliohpdaaDoor
