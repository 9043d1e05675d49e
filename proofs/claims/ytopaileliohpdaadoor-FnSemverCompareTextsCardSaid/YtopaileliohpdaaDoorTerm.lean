/-
  Terms of constraints: impl.operator, impl.term, (ZZTerm).inner.
-/
import Derived.Test.YtopaileliohpdaaDoorLess
namespace Go.Proofs.YtopaileliohpdaaDoor
open Go.RowKit
set_option maxRecDepth 100000
set_option linter.unusedVariables false

/-- a term's parts -/
structure T where
  (op g : Int)
  (a b c : Nat)
  (p : ByteArray)
def T.ver (t : T) : V := ⟨t.a, t.b, t.c, t.p, ⟨#[]⟩⟩
def T.dirty (t : T) : Bool := decide (0 ≤ t.g) && decide (t.g < 3)
def T.minor (t : T) : Bool := t.g == 1
def T.patch (t : T) : Bool := t.g == 2

theorem cell_set_other {w : World} {N M i j : Nat} {v x : Value} (h : N ≠ M) (hc : w.cell? ⟨N, j, none⟩ = some x) : (w.setCell ⟨M, i, none⟩ v).cell? ⟨N, j, none⟩ = some x := by
  rw [World.cell?_of_block (w := w) (heap_setCell_other w ⟨M, i, none⟩ N v h)]
  exact hc
theorem blk_store5 {w : World} {N : Nat} {t : TypeId} {u0 u1 u2 u3 u4 : Value} (h : w.heap[N]? = some (.cells #[u0, u1, u2, u3, u4] t (0, 0))) (v0 v1 v2 v3 v4 : Value) :
    (((((w.setCell ⟨N, 0, none⟩ v0).setCell ⟨N, 1, none⟩ v1).setCell ⟨N, 2, none⟩ v2).setCell ⟨N, 3, none⟩ v3).setCell ⟨N, 4, none⟩ v4).heap[N]? = some (.cells #[v0, v1, v2, v3, v4] t (0, 0)) := by
  have h0 := heap_setCell_same w N 0 _ _ v0 h
  have h1 := heap_setCell_same _ N 1 _ _ v1 h0
  have h2 := heap_setCell_same _ N 2 _ _ v2 h1
  have h3 := heap_setCell_same _ N 3 _ _ v3 h2
  have h4 := heap_setCell_same _ N 4 _ _ v4 h3
  simpa using h4

set_option maxHeartbeats 1000000 in
theorem operator_any (op : Int) (w : World) : Calls Tryd.prog 82 #[.int .i64 op] w fun e w' => (∃ s, e = .returned (.string s)) ∧ w' = w := by
  go_enter Tryd.func82, Tryd.ntmps82
  go_wp2
  all_goals go_ways
  all_goals
    go_ret
    exact ⟨⟨_, rfl⟩, rfl⟩
theorem zzVersion_exact (x : V) (w : World) : Calls Tryd.prog 67 #[.int .u64 x.a, .int .u64 x.b, .int .u64 x.c, .string x.p, .string x.m] w fun e w' => e = .returned (.pointer (some ⟨w.heap.size, 0, none⟩)) ∧ w' = w.alloc (x.cells ⟨#[]⟩) := by
  go_enter Tryd.func67, Tryd.ntmps67
  go_wp2
  go_ret
  exact ⟨rfl, rfl⟩
theorem blk_below {w w' : World} {n : Nat} {o : Obj} (hb : Below w.heap.size w w') (h : w.heap[n]? = some o) : w'.heap[n]? = some o := by
  have hlt : n < w.heap.size := by
    rcases Nat.lt_or_ge n w.heap.size with h' | h'
    · exact h'
    · rw [Array.getElem?_eq_none h'] at h; cases h
  rw [hb.block n hlt]; exact h
theorem blk_loose {w : World} {N : Nat} {cs : Array Value} {t : TypeId} (h : w.heap[N]? = some (.cells cs t (0, 0))) (j : Nat) : w.frozen? ⟨N, j, none⟩ = false := by
  simp [World.frozen?, h]
theorem zzVersion_below (x : V) (w : World) : Calls Tryd.prog 67 #[.int .u64 x.a, .int .u64 x.b, .int .u64 x.c, .string x.p, .string x.m] w (PtrV w x ⟨#[]⟩) := by
  refine (zzVersion_exact x w).mono ?_
  rintro e w' ⟨rfl, rfl⟩
  exact ⟨_, rfl, Nat.le_refl _, alloc_at _ _ _ rfl, below_alloc _ _⟩
theorem inner_exact (s : ByteArray) (p : Option Addr) (d m q : Bool) (w : World) : Calls Tryd.prog 81 #[.agg #[.string s, .pointer p, .bool d, .bool m, .bool q]] w fun e w' =>
    e = .returned (.pointer (some ⟨w.heap.size + 1, 0, none⟩)) ∧ w' = (w.alloc (.cells #[.string s, .pointer p, .bool d, .bool m, .bool q] 78)).alloc (.cells #[.pointer p, .string ⟨#[]⟩, .string s, .bool m, .bool d, .bool q] 102) := by
  go_enter Tryd.func81, Tryd.ntmps81
  go_wp2
  go_ret
  exact ⟨rfl, rfl⟩
theorem errorsNew_any (s : ByteArray) (w : World) : Calls Tryd.prog 96 #[.string s] w fun e w' => (∃ t v, e = .returned (.iface t v)) ∧ Below w.heap.size w w' := by
  go_enter Tryd.func96, Tryd.ntmps96
  go_wp2
  go_ret
  exact ⟨⟨_, _, rfl⟩, below_alloc _ _⟩

def T.zz (t : T) (s : ByteArray) (N : Nat) : Value := .agg #[.string s, .pointer (some ⟨N, 0, none⟩), .bool t.dirty, .bool t.minor, .bool t.patch]
theorem post_blk1 {fn : Func} {p : Tmp} {ty : TypeId} (h : fn.results = #[.cell p ty]) {R : Ending → World → Prop} {a : Act} {w : World} (N : Nat) (cs : Array Value) (hd : a.defers = [])
    (hp : a.tmps.getD p undef = .pointer (some ⟨N, 0, none⟩)) (hg : w.heap[N]? = some (.cells cs ty (0, 0))) (hl : ∀ w' : World, w'.heap[N]? = some (.cells cs ty (0, 0)) → (results fn a.tmps).run Tryd.prog w' = .ok (.agg cs) w')
    (hR : R (.returned (.agg cs)) w) : bodyPost Tryd.prog fn R .ret a w :=
  bodyPost_ret (hl w hg) hd hR

theorem AtV.others {w : World} {N M : Nat} {x : V} {o : ByteArray} (h : AtV w N x o) (hn : N ≠ M) (v0 v1 v2 v3 v4 : Value) :
    AtV (((((w.setCell ⟨M, 0, none⟩ v0).setCell ⟨M, 1, none⟩ v1).setCell ⟨M, 2, none⟩ v2).setCell ⟨M, 3, none⟩ v3).setCell ⟨M, 4, none⟩ v4) N x o :=
  ((((h.other _ _ hn).other _ _ hn).other _ _ hn).other _ _ hn).other _ _ hn
set_option maxHeartbeats 2000000 in
theorem term_g0 (op : Int) (a b c : Nat) (p : ByteArray) (w : World) :
    Calls Tryd.prog 59 #[.agg #[.int .i64 op, .int .i64 0, .int .u64 a, .int .u64 b, .int .u64 c, .string p]] w fun e w' => (∃ s N, e = .returned (.agg #[.string s, .pointer (some ⟨N, 0, none⟩), .bool true, .bool false, .bool false]) ∧ AtV w' N ⟨a, b, c, p, ⟨#[]⟩⟩ ⟨#[]⟩) ∧ Below w.heap.size w w' := by
  go_enter Tryd.func59, Tryd.ntmps59
  go_wp2_with fail
  have hZ : ((w.alloc (.cells #[.int .i64 op, .int .i64 0, .int .u64 a, .int .u64 b, .int .u64 c, .string p] 39)).alloc (.cells #[.string ⟨#[]⟩, .pointer none, .bool false, .bool false, .bool false] 78)).heap[w.heap.size + 1]? = some (.cells #[.string ⟨#[]⟩, .pointer none, .bool false, .bool false, .bool false] 78 (0, 0)) := alloc_at _ _ _ (by simp)
  have hX : ((w.alloc (.cells #[.int .i64 op, .int .i64 0, .int .u64 a, .int .u64 b, .int .u64 c, .string p] 39)).alloc (.cells #[.string ⟨#[]⟩, .pointer none, .bool false, .bool false, .bool false] 78)).heap[w.heap.size]? = some (.cells #[.int .i64 op, .int .i64 0, .int .u64 a, .int .u64 b, .int .u64 c, .string p] 39 (0, 0)) := heap_alloc_some (alloc_at _ _ _ rfl)
  have hW : Below w.heap.size w ((w.alloc (.cells #[.int .i64 op, .int .i64 0, .int .u64 a, .int .u64 b, .int .u64 c, .string p] 39)).alloc (.cells #[.string ⟨#[]⟩, .pointer none, .bool false, .bool false, .bool false] 78)) := by (repeat (first | exact Below.refl _ _ | apply Below.drew | (apply below_alloc_on (Nat.le_refl _))))
  generalize ((w.alloc (.cells #[.int .i64 op, .int .i64 0, .int .u64 a, .int .u64 b, .int .u64 c, .string p] 39)).alloc (.cells #[.string ⟨#[]⟩, .pointer none, .bool false, .bool false, .bool false] 78)) = W at *
  have HW := Lib.hid hW
  have HZ := Lib.hid hZ
  have c0 : W.cell? ⟨w.heap.size, 0, none⟩ = some (.int .i64 op) := by rw [cell_of_row W _ _ _ _ _ hX]; rfl
  have c1 : W.cell? ⟨w.heap.size, 1, none⟩ = some (.int .i64 0) := by rw [cell_of_row W _ _ _ _ _ hX]; rfl
  have c2 : W.cell? ⟨w.heap.size, 2, none⟩ = some (.int .u64 a) := by rw [cell_of_row W _ _ _ _ _ hX]; rfl
  have c3 : W.cell? ⟨w.heap.size, 3, none⟩ = some (.int .u64 b) := by rw [cell_of_row W _ _ _ _ _ hX]; rfl
  have c4 : W.cell? ⟨w.heap.size, 4, none⟩ = some (.int .u64 c) := by rw [cell_of_row W _ _ _ _ _ hX]; rfl
  have c5 : W.cell? ⟨w.heap.size, 5, none⟩ = some (.string p) := by rw [cell_of_row W _ _ _ _ _ hX]; rfl
  clear hX hZ hW
  go_region_held3 (fun w' => w'.cell? ⟨w.heap.size, 0, none⟩ = some (.int .i64 op) ∧ w'.cell? ⟨w.heap.size, 1, none⟩ = some (.int .i64 0) ∧ w'.cell? ⟨w.heap.size, 2, none⟩ = some (.int .u64 a) ∧ w'.cell? ⟨w.heap.size, 3, none⟩ = some (.int .u64 b) ∧ w'.cell? ⟨w.heap.size, 4, none⟩ = some (.int .u64 c) ∧ w'.cell? ⟨w.heap.size, 5, none⟩ = some (.string p)) (first | (refine ⟨?_, ?_, ?_, ?_, ?_, ?_⟩ <;> (repeat (first | with_reducible assumption | with_reducible apply cell_alloc_some | with_reducible apply cell_drew_some | with_reducible refine cell_below (by with_reducible assumption) ?_ | with_reducible refine cell_set_other (by omega) ?_))) | fail) (first
    | (go_at_call 82; (with_reducible refine (operator_any op _).mono ?_); rintro e w1 ⟨⟨s, rfl⟩, rfl⟩)
    | (go_at_call 67; refine (zzVersion_below ⟨a, b, c, p, ⟨#[]⟩⟩ _).mono ?_; rintro e w2 ⟨N, rfl, hN, hat, hb⟩; have hz := blk_below hb (by exact HZ.out); have HB2 := Lib.hid (Below.up (w := W) (by (repeat (first | exact Below.refl _ _ | apply Below.drew | (apply below_alloc_on (Nat.le_refl _))))) hb); have g0 : w2.cell? ⟨w.heap.size + 1, 0, none⟩ = _ := cell_of_row w2 _ _ _ _ _ hz; have g1 : w2.cell? ⟨w.heap.size + 1, 1, none⟩ = _ := cell_of_row w2 _ _ _ _ _ hz; have g2 : w2.cell? ⟨w.heap.size + 1, 2, none⟩ = _ := cell_of_row w2 _ _ _ _ _ hz; have g3 : w2.cell? ⟨w.heap.size + 1, 3, none⟩ = _ := cell_of_row w2 _ _ _ _ _ hz; have g4 : w2.cell? ⟨w.heap.size + 1, 4, none⟩ = _ := cell_of_row w2 _ _ _ _ _ hz; have l0 := blk_loose hz 0; have l1 := blk_loose hz 1; have l2 := blk_loose hz 2; have l3 := blk_loose hz 3; have l4 := blk_loose hz 4; have HZ2 := Lib.hid hz; have HA2 := Lib.hid (show AtV w2 N ⟨a, b, c, p, ⟨#[]⟩⟩ ⟨#[]⟩ from hat); clear hz hat)
    | fail)
  go_wp2
  refine post_blk1 rfl (w.heap.size + 1) #[.string s, .pointer (some ⟨N, 0, none⟩), .bool true, .bool false, .bool false] rfl rfl (blk_store5 HZ2.out _ _ _ _ _) (fun w' h => results_cell_row rfl _ _ _ _ _ (0, 0) _ rfl h Tryd.underlying78 rfl (by kernel_rfl)) ?_
  have hNn : N ≠ w.heap.size + 1 := by
    have h1 : w.heap.size + 1 < W.heap.size := by
      rcases Nat.lt_or_ge (w.heap.size + 1) W.heap.size with h' | h'
      · exact h'
      · have := HZ.out; rw [Array.getElem?_eq_none h'] at this; cases this
    have h2 : W.heap.size ≤ N := hN
    omega
  exact ⟨⟨s, N, rfl, AtV.others HA2.out hNn _ _ _ _ _⟩, up_store5 (Below.up HW.out HB2.out) (Nat.le_succ _) _ _ _ _ _⟩

set_option maxHeartbeats 2000000 in
theorem term_g1 (op : Int) (a b c : Nat) (p : ByteArray) (w : World) :
    Calls Tryd.prog 59 #[.agg #[.int .i64 op, .int .i64 1, .int .u64 a, .int .u64 b, .int .u64 c, .string p]] w fun e w' => (∃ s N, e = .returned (.agg #[.string s, .pointer (some ⟨N, 0, none⟩), .bool true, .bool true, .bool false]) ∧ AtV w' N ⟨a, b, c, p, ⟨#[]⟩⟩ ⟨#[]⟩) ∧ Below w.heap.size w w' := by
  go_enter Tryd.func59, Tryd.ntmps59
  go_wp2_with fail
  have hZ : ((w.alloc (.cells #[.int .i64 op, .int .i64 1, .int .u64 a, .int .u64 b, .int .u64 c, .string p] 39)).alloc (.cells #[.string ⟨#[]⟩, .pointer none, .bool false, .bool false, .bool false] 78)).heap[w.heap.size + 1]? = some (.cells #[.string ⟨#[]⟩, .pointer none, .bool false, .bool false, .bool false] 78 (0, 0)) := alloc_at _ _ _ (by simp)
  have hX : ((w.alloc (.cells #[.int .i64 op, .int .i64 1, .int .u64 a, .int .u64 b, .int .u64 c, .string p] 39)).alloc (.cells #[.string ⟨#[]⟩, .pointer none, .bool false, .bool false, .bool false] 78)).heap[w.heap.size]? = some (.cells #[.int .i64 op, .int .i64 1, .int .u64 a, .int .u64 b, .int .u64 c, .string p] 39 (0, 0)) := heap_alloc_some (alloc_at _ _ _ rfl)
  have hW : Below w.heap.size w ((w.alloc (.cells #[.int .i64 op, .int .i64 1, .int .u64 a, .int .u64 b, .int .u64 c, .string p] 39)).alloc (.cells #[.string ⟨#[]⟩, .pointer none, .bool false, .bool false, .bool false] 78)) := by (repeat (first | exact Below.refl _ _ | apply Below.drew | (apply below_alloc_on (Nat.le_refl _))))
  generalize ((w.alloc (.cells #[.int .i64 op, .int .i64 1, .int .u64 a, .int .u64 b, .int .u64 c, .string p] 39)).alloc (.cells #[.string ⟨#[]⟩, .pointer none, .bool false, .bool false, .bool false] 78)) = W at *
  have HW := Lib.hid hW
  have HZ := Lib.hid hZ
  have c0 : W.cell? ⟨w.heap.size, 0, none⟩ = some (.int .i64 op) := by rw [cell_of_row W _ _ _ _ _ hX]; rfl
  have c1 : W.cell? ⟨w.heap.size, 1, none⟩ = some (.int .i64 1) := by rw [cell_of_row W _ _ _ _ _ hX]; rfl
  have c2 : W.cell? ⟨w.heap.size, 2, none⟩ = some (.int .u64 a) := by rw [cell_of_row W _ _ _ _ _ hX]; rfl
  have c3 : W.cell? ⟨w.heap.size, 3, none⟩ = some (.int .u64 b) := by rw [cell_of_row W _ _ _ _ _ hX]; rfl
  have c4 : W.cell? ⟨w.heap.size, 4, none⟩ = some (.int .u64 c) := by rw [cell_of_row W _ _ _ _ _ hX]; rfl
  have c5 : W.cell? ⟨w.heap.size, 5, none⟩ = some (.string p) := by rw [cell_of_row W _ _ _ _ _ hX]; rfl
  clear hX hZ hW
  go_region_held3 (fun w' => w'.cell? ⟨w.heap.size, 0, none⟩ = some (.int .i64 op) ∧ w'.cell? ⟨w.heap.size, 1, none⟩ = some (.int .i64 1) ∧ w'.cell? ⟨w.heap.size, 2, none⟩ = some (.int .u64 a) ∧ w'.cell? ⟨w.heap.size, 3, none⟩ = some (.int .u64 b) ∧ w'.cell? ⟨w.heap.size, 4, none⟩ = some (.int .u64 c) ∧ w'.cell? ⟨w.heap.size, 5, none⟩ = some (.string p)) (first | (refine ⟨?_, ?_, ?_, ?_, ?_, ?_⟩ <;> (repeat (first | with_reducible assumption | with_reducible apply cell_alloc_some | with_reducible apply cell_drew_some | with_reducible refine cell_below (by with_reducible assumption) ?_ | with_reducible refine cell_set_other (by omega) ?_))) | fail) (first
    | (go_at_call 82; (with_reducible refine (operator_any op _).mono ?_); rintro e w1 ⟨⟨s, rfl⟩, rfl⟩)
    | (go_at_call 67; refine (zzVersion_below ⟨a, b, c, p, ⟨#[]⟩⟩ _).mono ?_; rintro e w2 ⟨N, rfl, hN, hat, hb⟩; have hz := blk_below hb (by exact HZ.out); have HB2 := Lib.hid (Below.up (w := W) (by (repeat (first | exact Below.refl _ _ | apply Below.drew | (apply below_alloc_on (Nat.le_refl _))))) hb); have g0 : w2.cell? ⟨w.heap.size + 1, 0, none⟩ = _ := cell_of_row w2 _ _ _ _ _ hz; have g1 : w2.cell? ⟨w.heap.size + 1, 1, none⟩ = _ := cell_of_row w2 _ _ _ _ _ hz; have g2 : w2.cell? ⟨w.heap.size + 1, 2, none⟩ = _ := cell_of_row w2 _ _ _ _ _ hz; have g3 : w2.cell? ⟨w.heap.size + 1, 3, none⟩ = _ := cell_of_row w2 _ _ _ _ _ hz; have g4 : w2.cell? ⟨w.heap.size + 1, 4, none⟩ = _ := cell_of_row w2 _ _ _ _ _ hz; have l0 := blk_loose hz 0; have l1 := blk_loose hz 1; have l2 := blk_loose hz 2; have l3 := blk_loose hz 3; have l4 := blk_loose hz 4; have HZ2 := Lib.hid hz; have HA2 := Lib.hid (show AtV w2 N ⟨a, b, c, p, ⟨#[]⟩⟩ ⟨#[]⟩ from hat); clear hz hat)
    | fail)
  go_wp2
  refine post_blk1 rfl (w.heap.size + 1) #[.string s, .pointer (some ⟨N, 0, none⟩), .bool true, .bool true, .bool false] rfl rfl (blk_store5 HZ2.out _ _ _ _ _) (fun w' h => results_cell_row rfl _ _ _ _ _ (0, 0) _ rfl h Tryd.underlying78 rfl (by kernel_rfl)) ?_
  have hNn : N ≠ w.heap.size + 1 := by
    have h1 : w.heap.size + 1 < W.heap.size := by
      rcases Nat.lt_or_ge (w.heap.size + 1) W.heap.size with h' | h'
      · exact h'
      · have := HZ.out; rw [Array.getElem?_eq_none h'] at this; cases this
    have h2 : W.heap.size ≤ N := hN
    omega
  exact ⟨⟨s, N, rfl, AtV.others HA2.out hNn _ _ _ _ _⟩, up_store5 (Below.up HW.out HB2.out) (Nat.le_succ _) _ _ _ _ _⟩

set_option maxHeartbeats 2000000 in
theorem term_g2 (op : Int) (a b c : Nat) (p : ByteArray) (w : World) :
    Calls Tryd.prog 59 #[.agg #[.int .i64 op, .int .i64 2, .int .u64 a, .int .u64 b, .int .u64 c, .string p]] w fun e w' => (∃ s N, e = .returned (.agg #[.string s, .pointer (some ⟨N, 0, none⟩), .bool true, .bool false, .bool true]) ∧ AtV w' N ⟨a, b, c, p, ⟨#[]⟩⟩ ⟨#[]⟩) ∧ Below w.heap.size w w' := by
  go_enter Tryd.func59, Tryd.ntmps59
  go_wp2_with fail
  have hZ : ((w.alloc (.cells #[.int .i64 op, .int .i64 2, .int .u64 a, .int .u64 b, .int .u64 c, .string p] 39)).alloc (.cells #[.string ⟨#[]⟩, .pointer none, .bool false, .bool false, .bool false] 78)).heap[w.heap.size + 1]? = some (.cells #[.string ⟨#[]⟩, .pointer none, .bool false, .bool false, .bool false] 78 (0, 0)) := alloc_at _ _ _ (by simp)
  have hX : ((w.alloc (.cells #[.int .i64 op, .int .i64 2, .int .u64 a, .int .u64 b, .int .u64 c, .string p] 39)).alloc (.cells #[.string ⟨#[]⟩, .pointer none, .bool false, .bool false, .bool false] 78)).heap[w.heap.size]? = some (.cells #[.int .i64 op, .int .i64 2, .int .u64 a, .int .u64 b, .int .u64 c, .string p] 39 (0, 0)) := heap_alloc_some (alloc_at _ _ _ rfl)
  have hW : Below w.heap.size w ((w.alloc (.cells #[.int .i64 op, .int .i64 2, .int .u64 a, .int .u64 b, .int .u64 c, .string p] 39)).alloc (.cells #[.string ⟨#[]⟩, .pointer none, .bool false, .bool false, .bool false] 78)) := by (repeat (first | exact Below.refl _ _ | apply Below.drew | (apply below_alloc_on (Nat.le_refl _))))
  generalize ((w.alloc (.cells #[.int .i64 op, .int .i64 2, .int .u64 a, .int .u64 b, .int .u64 c, .string p] 39)).alloc (.cells #[.string ⟨#[]⟩, .pointer none, .bool false, .bool false, .bool false] 78)) = W at *
  have HW := Lib.hid hW
  have HZ := Lib.hid hZ
  have c0 : W.cell? ⟨w.heap.size, 0, none⟩ = some (.int .i64 op) := by rw [cell_of_row W _ _ _ _ _ hX]; rfl
  have c1 : W.cell? ⟨w.heap.size, 1, none⟩ = some (.int .i64 2) := by rw [cell_of_row W _ _ _ _ _ hX]; rfl
  have c2 : W.cell? ⟨w.heap.size, 2, none⟩ = some (.int .u64 a) := by rw [cell_of_row W _ _ _ _ _ hX]; rfl
  have c3 : W.cell? ⟨w.heap.size, 3, none⟩ = some (.int .u64 b) := by rw [cell_of_row W _ _ _ _ _ hX]; rfl
  have c4 : W.cell? ⟨w.heap.size, 4, none⟩ = some (.int .u64 c) := by rw [cell_of_row W _ _ _ _ _ hX]; rfl
  have c5 : W.cell? ⟨w.heap.size, 5, none⟩ = some (.string p) := by rw [cell_of_row W _ _ _ _ _ hX]; rfl
  clear hX hZ hW
  go_region_held3 (fun w' => w'.cell? ⟨w.heap.size, 0, none⟩ = some (.int .i64 op) ∧ w'.cell? ⟨w.heap.size, 1, none⟩ = some (.int .i64 2) ∧ w'.cell? ⟨w.heap.size, 2, none⟩ = some (.int .u64 a) ∧ w'.cell? ⟨w.heap.size, 3, none⟩ = some (.int .u64 b) ∧ w'.cell? ⟨w.heap.size, 4, none⟩ = some (.int .u64 c) ∧ w'.cell? ⟨w.heap.size, 5, none⟩ = some (.string p)) (first | (refine ⟨?_, ?_, ?_, ?_, ?_, ?_⟩ <;> (repeat (first | with_reducible assumption | with_reducible apply cell_alloc_some | with_reducible apply cell_drew_some | with_reducible refine cell_below (by with_reducible assumption) ?_ | with_reducible refine cell_set_other (by omega) ?_))) | fail) (first
    | (go_at_call 82; (with_reducible refine (operator_any op _).mono ?_); rintro e w1 ⟨⟨s, rfl⟩, rfl⟩)
    | (go_at_call 67; refine (zzVersion_below ⟨a, b, c, p, ⟨#[]⟩⟩ _).mono ?_; rintro e w2 ⟨N, rfl, hN, hat, hb⟩; have hz := blk_below hb (by exact HZ.out); have HB2 := Lib.hid (Below.up (w := W) (by (repeat (first | exact Below.refl _ _ | apply Below.drew | (apply below_alloc_on (Nat.le_refl _))))) hb); have g0 : w2.cell? ⟨w.heap.size + 1, 0, none⟩ = _ := cell_of_row w2 _ _ _ _ _ hz; have g1 : w2.cell? ⟨w.heap.size + 1, 1, none⟩ = _ := cell_of_row w2 _ _ _ _ _ hz; have g2 : w2.cell? ⟨w.heap.size + 1, 2, none⟩ = _ := cell_of_row w2 _ _ _ _ _ hz; have g3 : w2.cell? ⟨w.heap.size + 1, 3, none⟩ = _ := cell_of_row w2 _ _ _ _ _ hz; have g4 : w2.cell? ⟨w.heap.size + 1, 4, none⟩ = _ := cell_of_row w2 _ _ _ _ _ hz; have l0 := blk_loose hz 0; have l1 := blk_loose hz 1; have l2 := blk_loose hz 2; have l3 := blk_loose hz 3; have l4 := blk_loose hz 4; have HZ2 := Lib.hid hz; have HA2 := Lib.hid (show AtV w2 N ⟨a, b, c, p, ⟨#[]⟩⟩ ⟨#[]⟩ from hat); clear hz hat)
    | fail)
  go_wp2
  refine post_blk1 rfl (w.heap.size + 1) #[.string s, .pointer (some ⟨N, 0, none⟩), .bool true, .bool false, .bool true] rfl rfl (blk_store5 HZ2.out _ _ _ _ _) (fun w' h => results_cell_row rfl _ _ _ _ _ (0, 0) _ rfl h Tryd.underlying78 rfl (by kernel_rfl)) ?_
  have hNn : N ≠ w.heap.size + 1 := by
    have h1 : w.heap.size + 1 < W.heap.size := by
      rcases Nat.lt_or_ge (w.heap.size + 1) W.heap.size with h' | h'
      · exact h'
      · have := HZ.out; rw [Array.getElem?_eq_none h'] at this; cases this
    have h2 : W.heap.size ≤ N := hN
    omega
  exact ⟨⟨s, N, rfl, AtV.others HA2.out hNn _ _ _ _ _⟩, up_store5 (Below.up HW.out HB2.out) (Nat.le_succ _) _ _ _ _ _⟩

set_option maxHeartbeats 2000000 in
theorem term_g3 (op : Int) (a b c : Nat) (p : ByteArray) (w : World) :
    Calls Tryd.prog 59 #[.agg #[.int .i64 op, .int .i64 3, .int .u64 a, .int .u64 b, .int .u64 c, .string p]] w fun e w' => (∃ s N, e = .returned (.agg #[.string s, .pointer (some ⟨N, 0, none⟩), .bool false, .bool false, .bool false]) ∧ AtV w' N ⟨a, b, c, p, ⟨#[]⟩⟩ ⟨#[]⟩) ∧ Below w.heap.size w w' := by
  go_enter Tryd.func59, Tryd.ntmps59
  go_wp2_with fail
  have hZ : ((w.alloc (.cells #[.int .i64 op, .int .i64 3, .int .u64 a, .int .u64 b, .int .u64 c, .string p] 39)).alloc (.cells #[.string ⟨#[]⟩, .pointer none, .bool false, .bool false, .bool false] 78)).heap[w.heap.size + 1]? = some (.cells #[.string ⟨#[]⟩, .pointer none, .bool false, .bool false, .bool false] 78 (0, 0)) := alloc_at _ _ _ (by simp)
  have hX : ((w.alloc (.cells #[.int .i64 op, .int .i64 3, .int .u64 a, .int .u64 b, .int .u64 c, .string p] 39)).alloc (.cells #[.string ⟨#[]⟩, .pointer none, .bool false, .bool false, .bool false] 78)).heap[w.heap.size]? = some (.cells #[.int .i64 op, .int .i64 3, .int .u64 a, .int .u64 b, .int .u64 c, .string p] 39 (0, 0)) := heap_alloc_some (alloc_at _ _ _ rfl)
  have hW : Below w.heap.size w ((w.alloc (.cells #[.int .i64 op, .int .i64 3, .int .u64 a, .int .u64 b, .int .u64 c, .string p] 39)).alloc (.cells #[.string ⟨#[]⟩, .pointer none, .bool false, .bool false, .bool false] 78)) := by (repeat (first | exact Below.refl _ _ | apply Below.drew | (apply below_alloc_on (Nat.le_refl _))))
  generalize ((w.alloc (.cells #[.int .i64 op, .int .i64 3, .int .u64 a, .int .u64 b, .int .u64 c, .string p] 39)).alloc (.cells #[.string ⟨#[]⟩, .pointer none, .bool false, .bool false, .bool false] 78)) = W at *
  have HW := Lib.hid hW
  have HZ := Lib.hid hZ
  have c0 : W.cell? ⟨w.heap.size, 0, none⟩ = some (.int .i64 op) := by rw [cell_of_row W _ _ _ _ _ hX]; rfl
  have c1 : W.cell? ⟨w.heap.size, 1, none⟩ = some (.int .i64 3) := by rw [cell_of_row W _ _ _ _ _ hX]; rfl
  have c2 : W.cell? ⟨w.heap.size, 2, none⟩ = some (.int .u64 a) := by rw [cell_of_row W _ _ _ _ _ hX]; rfl
  have c3 : W.cell? ⟨w.heap.size, 3, none⟩ = some (.int .u64 b) := by rw [cell_of_row W _ _ _ _ _ hX]; rfl
  have c4 : W.cell? ⟨w.heap.size, 4, none⟩ = some (.int .u64 c) := by rw [cell_of_row W _ _ _ _ _ hX]; rfl
  have c5 : W.cell? ⟨w.heap.size, 5, none⟩ = some (.string p) := by rw [cell_of_row W _ _ _ _ _ hX]; rfl
  clear hX hZ hW
  go_region_held3 (fun w' => w'.cell? ⟨w.heap.size, 0, none⟩ = some (.int .i64 op) ∧ w'.cell? ⟨w.heap.size, 1, none⟩ = some (.int .i64 3) ∧ w'.cell? ⟨w.heap.size, 2, none⟩ = some (.int .u64 a) ∧ w'.cell? ⟨w.heap.size, 3, none⟩ = some (.int .u64 b) ∧ w'.cell? ⟨w.heap.size, 4, none⟩ = some (.int .u64 c) ∧ w'.cell? ⟨w.heap.size, 5, none⟩ = some (.string p)) (first | (refine ⟨?_, ?_, ?_, ?_, ?_, ?_⟩ <;> (repeat (first | with_reducible assumption | with_reducible apply cell_alloc_some | with_reducible apply cell_drew_some | with_reducible refine cell_below (by with_reducible assumption) ?_ | with_reducible refine cell_set_other (by omega) ?_))) | fail) (first
    | (go_at_call 82; (with_reducible refine (operator_any op _).mono ?_); rintro e w1 ⟨⟨s, rfl⟩, rfl⟩)
    | (go_at_call 67; refine (zzVersion_below ⟨a, b, c, p, ⟨#[]⟩⟩ _).mono ?_; rintro e w2 ⟨N, rfl, hN, hat, hb⟩; have hz := blk_below hb (by exact HZ.out); have HB2 := Lib.hid (Below.up (w := W) (by (repeat (first | exact Below.refl _ _ | apply Below.drew | (apply below_alloc_on (Nat.le_refl _))))) hb); have g0 : w2.cell? ⟨w.heap.size + 1, 0, none⟩ = _ := cell_of_row w2 _ _ _ _ _ hz; have g1 : w2.cell? ⟨w.heap.size + 1, 1, none⟩ = _ := cell_of_row w2 _ _ _ _ _ hz; have g2 : w2.cell? ⟨w.heap.size + 1, 2, none⟩ = _ := cell_of_row w2 _ _ _ _ _ hz; have g3 : w2.cell? ⟨w.heap.size + 1, 3, none⟩ = _ := cell_of_row w2 _ _ _ _ _ hz; have g4 : w2.cell? ⟨w.heap.size + 1, 4, none⟩ = _ := cell_of_row w2 _ _ _ _ _ hz; have l0 := blk_loose hz 0; have l1 := blk_loose hz 1; have l2 := blk_loose hz 2; have l3 := blk_loose hz 3; have l4 := blk_loose hz 4; have HZ2 := Lib.hid hz; have HA2 := Lib.hid (show AtV w2 N ⟨a, b, c, p, ⟨#[]⟩⟩ ⟨#[]⟩ from hat); clear hz hat)
    | fail)
  go_wp2
  refine post_blk1 rfl (w.heap.size + 1) #[.string s, .pointer (some ⟨N, 0, none⟩), .bool false, .bool false, .bool false] rfl rfl (blk_store5 HZ2.out _ _ _ _ _) (fun w' h => results_cell_row rfl _ _ _ _ _ (0, 0) _ rfl h Tryd.underlying78 rfl (by kernel_rfl)) ?_
  have hNn : N ≠ w.heap.size + 1 := by
    have h1 : w.heap.size + 1 < W.heap.size := by
      rcases Nat.lt_or_ge (w.heap.size + 1) W.heap.size with h' | h'
      · exact h'
      · have := HZ.out; rw [Array.getElem?_eq_none h'] at this; cases this
    have h2 : W.heap.size ≤ N := hN
    omega
  exact ⟨⟨s, N, rfl, AtV.others HA2.out hNn _ _ _ _ _⟩, up_store5 (Below.up HW.out HB2.out) (Nat.le_succ _) _ _ _ _ _⟩

theorem term_any (t : T) (w : World) (hg : t.g = 0 ∨ t.g = 1 ∨ t.g = 2 ∨ t.g = 3) :
    Calls Tryd.prog 59 #[.agg #[.int .i64 t.op, .int .i64 t.g, .int .u64 t.a, .int .u64 t.b, .int .u64 t.c, .string t.p]] w fun e w' => (∃ s N, e = .returned (.agg #[.string s, .pointer (some ⟨N, 0, none⟩), .bool t.dirty, .bool t.minor, .bool t.patch]) ∧ AtV w' N t.ver ⟨#[]⟩) ∧ Below w.heap.size w w' := by
  obtain ⟨op, g, a, b, c, p⟩ := t
  simp only at hg
  rcases hg with rfl | rfl | rfl | rfl
  · exact term_g0 op a b c p w
  · exact term_g1 op a b c p w
  · exact term_g2 op a b c p w
  · exact term_g3 op a b c p w
end Go.Proofs.YtopaileliohpdaaDoor
