/-
  ZZAbove and impl.AboveHolds at terms of one or two numbers, over releases; laws.stBare, laws.scPlus.
-/
import Derived.Test.YtopaileliohpdaaDoorAbove
namespace Go.Proofs.YtopaileliohpdaaDoor
open Go.RowKit
set_option maxRecDepth 100000
set_option linter.unusedVariables false

def V.gt1 (x y : V) : Bool := decide ((y.a : Int) < x.a)
def V.gt2 (x y : V) : Bool := decide ((y.a : Int) < x.a) || (decide ((x.a : Int) = y.a) && decide ((y.b : Int) < x.b))
theorem aboveC_1 (x y : V) (o o' s : ByteArray) (N K M' : Nat) (w : World) (hx : AtV w N x o) (hy : AtV w M' y o') (hk : w.heap[K]? = some (.cells #[.pointer (some ⟨M', 0, none⟩), .string ⟨#[]⟩, .string s, .bool true, .bool true, .bool false] 102 (0, 0))) (hp : x.p.toList = []) :
    Calls Tryd.prog 86 #[.pointer (some ⟨N, 0, none⟩), .pointer (some ⟨K, 0, none⟩), .bool false] w fun e w' => (∃ ev, e = .returned (.tuple #[.bool (x.gt1 y), ev])) ∧ Below w.heap.size w w' := by
  by_cases h1 : (y.a : Int) < x.a
  · rw [show x.gt1 y = true from decide_eq_true h1]
    exact above1_t x y o o' s N K M' w hx hy hk hp h1
  · rw [show x.gt1 y = false from decide_eq_false h1]
    by_cases h2 : (x.a : Int) < y.a
    · exact above1_l x y o o' s N K M' w hx hy hk hp h1 h2
    · exact above1_e x y o o' s N K M' w hx hy hk hp h1 h2
theorem aboveC_2 (x y : V) (o o' s : ByteArray) (N K M' : Nat) (w : World) (hx : AtV w N x o) (hy : AtV w M' y o') (hk : w.heap[K]? = some (.cells #[.pointer (some ⟨M', 0, none⟩), .string ⟨#[]⟩, .string s, .bool false, .bool true, .bool true] 102 (0, 0))) (hp : x.p.toList = []) :
    Calls Tryd.prog 86 #[.pointer (some ⟨N, 0, none⟩), .pointer (some ⟨K, 0, none⟩), .bool false] w fun e w' => (∃ ev, e = .returned (.tuple #[.bool (x.gt2 y), ev])) ∧ Below w.heap.size w w' := by
  unfold V.gt2
  by_cases h1 : (y.a : Int) < x.a
  · rw [decide_eq_true h1, Bool.true_or]
    exact above2_t x y o o' s N K M' w hx hy hk hp h1
  · rw [decide_eq_false h1, Bool.false_or]
    by_cases h2 : (x.a : Int) < y.a
    · rw [decide_eq_false (by omega : ¬ (x.a : Int) = y.a), Bool.false_and]
      exact above2_l x y o o' s N K M' w hx hy hk hp h1 h2
    · rw [decide_eq_true (by omega : (x.a : Int) = y.a), Bool.true_and]
      by_cases h3 : (y.b : Int) < x.b
      · rw [decide_eq_true h3]
        exact above2_et x y o o' s N K M' w hx hy hk hp h1 h2 h3
      · rw [decide_eq_false h3]
        exact above2_ef x y o o' s N K M' w hx hy hk hp h1 h2 h3

theorem zzAbove_1 (x : V) (o s : ByteArray) (a : Nat) (N M' : Nat) (w : World) (hx : AtV w N x o) (hy : AtV w M' ⟨a, 0, 0, ⟨#[]⟩, ⟨#[]⟩⟩ ⟨#[]⟩) (hp : x.p.toList = []) :
    Calls Tryd.prog 61 #[.agg #[.string s, .pointer (some ⟨M', 0, none⟩), .bool true, .bool true, .bool false], .pointer (some ⟨N, 0, none⟩), .bool false] w fun e w' => (∃ ev, e = .returned (.tuple #[.bool (x.gt1 ⟨a, 0, 0, ⟨#[]⟩, ⟨#[]⟩⟩), ev])) ∧ Below w.heap.size w w' := by
  have HX := Lib.hid hx
  have HY := Lib.hid hy
  have HP := Lib.hid hp
  clear hx hy hp
  go_enter Tryd.func61, Tryd.ntmps61
  go_wp2_with (first
    | (go_at_call 81; (with_reducible refine (inner_exact s (some ⟨M', 0, none⟩) true true false _).mono ?_); rintro e w1 ⟨rfl, hw1⟩; have HB1 := Lib.hid (show Below w.heap.size w w1 by subst hw1; (repeat (first | exact Below.refl _ _ | apply Below.drew | (apply below_alloc_on (Nat.le_refl _))))); have HK1 := Lib.hid (show w1.heap[w.heap.size + 1 + 1]? = some (.cells #[.pointer (some ⟨M', 0, none⟩), .string ⟨#[]⟩, .string s, .bool true, .bool true, .bool false] 102 (0, 0)) by subst hw1; exact alloc_at _ _ _ (by simp)); clear hw1)
    | (go_at_call 86; (with_reducible refine (aboveC_1 x ⟨a, 0, 0, ⟨#[]⟩, ⟨#[]⟩⟩ o ⟨#[]⟩ s N _ M' _ (HX.out.below HB1.out) (HY.out.below HB1.out) (by first | exact HK1.out | simpa using HK1.out) HP.out).mono ?_); rintro e w2 ⟨⟨ev, rfl⟩, hb⟩; have HB2 := Lib.hid (Below.up HB1.out hb); clear hb))
  refine bodyPost_ret (results_tmp2 rfl _ _ _) rfl ?_
  exact ⟨⟨_, rfl⟩, HB2.out⟩
theorem termLit_1 (op : Int) (a : Nat) (w : World) :
    Calls Tryd.prog 59 #[.agg #[.int .i64 op, .int .i64 1, .int .u64 a, .int .u64 0, .int .u64 0, .string ⟨#[]⟩]] w fun e w' => (∃ s N, e = .returned (.agg #[.string s, .pointer (some ⟨N, 0, none⟩), .bool true, .bool true, .bool false]) ∧ AtV w' N ⟨a, 0, 0, ⟨#[]⟩, ⟨#[]⟩⟩ ⟨#[]⟩) ∧ Below w.heap.size w w' := term_g1 op a 0 0 ⟨#[]⟩ w
theorem stTermLit_1 (op : Int) (x : V) (w : World) : Calls Tryd.prog 29 #[.int .i64 op, .agg #[.int .u64 x.a, .int .u64 x.b, .int .u64 x.c, .string x.p, .string x.m], .int .i64 1] w fun e w' => e = .returned (.agg #[.int .i64 op, .int .i64 1, .int .u64 x.a, .int .u64 0, .int .u64 0, .string ⟨#[]⟩]) ∧ Below w.heap.size w w' := stTerm_1 op x w

set_option maxHeartbeats 2000000 in
theorem aboveHolds_1 (op : Int) (a : Nat) (x : V) (r : Bool) (w : World) (hp : x.p.toList = []) (hr : Hid (x.gt1 ⟨a, 0, 0, ⟨#[]⟩, ⟨#[]⟩⟩ = r)) :
    Calls Tryd.prog 33 #[.agg #[.int .i64 op, .int .i64 1, .int .u64 a, .int .u64 0, .int .u64 0, .string ⟨#[]⟩], .agg #[.int .u64 x.a, .int .u64 x.b, .int .u64 x.c, .string x.p, .string x.m], .bool false] w fun e w' => e = .returned (.bool r) ∧ Below w.heap.size w w' := by
  have HP := Lib.hid hp
  clear hp
  go_enter Tryd.func33, Tryd.ntmps33
  go_wp2_with fail
  have hX : ((w.alloc (.cells #[.int .i64 op, .int .i64 1, .int .u64 a, .int .u64 0, .int .u64 0, .string ⟨#[]⟩] 39)).alloc (.cells #[.int .u64 x.a, .int .u64 x.b, .int .u64 x.c, .string x.p, .string x.m] 24)).heap[w.heap.size]? = some (.cells #[.int .i64 op, .int .i64 1, .int .u64 a, .int .u64 0, .int .u64 0, .string ⟨#[]⟩] 39 (0, 0)) := heap_alloc_some (alloc_at _ _ _ rfl)
  have hY : AtP ((w.alloc (.cells #[.int .i64 op, .int .i64 1, .int .u64 a, .int .u64 0, .int .u64 0, .string ⟨#[]⟩] 39)).alloc (.cells #[.int .u64 x.a, .int .u64 x.b, .int .u64 x.c, .string x.p, .string x.m] 24)) (w.heap.size + 1) x := alloc_at _ _ _ (by simp)
  have hW : Below w.heap.size w ((w.alloc (.cells #[.int .i64 op, .int .i64 1, .int .u64 a, .int .u64 0, .int .u64 0, .string ⟨#[]⟩] 39)).alloc (.cells #[.int .u64 x.a, .int .u64 x.b, .int .u64 x.c, .string x.p, .string x.m] 24)) := by (repeat (first | exact Below.refl _ _ | apply Below.drew | (apply below_alloc_on (Nat.le_refl _))))
  generalize ((w.alloc (.cells #[.int .i64 op, .int .i64 1, .int .u64 a, .int .u64 0, .int .u64 0, .string ⟨#[]⟩] 39)).alloc (.cells #[.int .u64 x.a, .int .u64 x.b, .int .u64 x.c, .string x.p, .string x.m] 24)) = W at *
  have HW := Lib.hid hW
  have c0 : W.cell? ⟨w.heap.size, 0, none⟩ = some (.int .i64 op) := by rw [cell_of_row W _ _ _ _ _ hX]; rfl
  have c1 : W.cell? ⟨w.heap.size, 1, none⟩ = some (.int .i64 1) := by rw [cell_of_row W _ _ _ _ _ hX]; rfl
  have c2 : W.cell? ⟨w.heap.size, 2, none⟩ = some (.int .u64 a) := by rw [cell_of_row W _ _ _ _ _ hX]; rfl
  have c3 : W.cell? ⟨w.heap.size, 3, none⟩ = some (.int .u64 0) := by rw [cell_of_row W _ _ _ _ _ hX]; rfl
  have c4 : W.cell? ⟨w.heap.size, 4, none⟩ = some (.int .u64 0) := by rw [cell_of_row W _ _ _ _ _ hX]; rfl
  have c5 : W.cell? ⟨w.heap.size, 5, none⟩ = some (.string ⟨#[]⟩) := by rw [cell_of_row W _ _ _ _ _ hX]; rfl
  obtain ⟨d0, d1, d2, d3, d4⟩ := hY.cells
  clear hX hY hW
  go_region_held3 (fun w' => w'.cell? ⟨w.heap.size, 0, none⟩ = some (.int .i64 op) ∧ w'.cell? ⟨w.heap.size, 1, none⟩ = some (.int .i64 1) ∧ w'.cell? ⟨w.heap.size, 2, none⟩ = some (.int .u64 a) ∧ w'.cell? ⟨w.heap.size, 3, none⟩ = some (.int .u64 0) ∧ w'.cell? ⟨w.heap.size, 4, none⟩ = some (.int .u64 0) ∧ w'.cell? ⟨w.heap.size, 5, none⟩ = some (.string ⟨#[]⟩) ∧ w'.cell? ⟨w.heap.size + 1, 0, none⟩ = some (.int .u64 x.a) ∧ w'.cell? ⟨w.heap.size + 1, 1, none⟩ = some (.int .u64 x.b) ∧ w'.cell? ⟨w.heap.size + 1, 2, none⟩ = some (.int .u64 x.c) ∧ w'.cell? ⟨w.heap.size + 1, 3, none⟩ = some (.string x.p) ∧ w'.cell? ⟨w.heap.size + 1, 4, none⟩ = some (.string x.m)) (first | (refine ⟨?_, ?_, ?_, ?_, ?_, ?_, ?_, ?_, ?_, ?_, ?_⟩ <;> (repeat (first | with_reducible assumption | with_reducible apply cell_alloc_some | with_reducible apply cell_drew_some | with_reducible refine cell_below (by with_reducible assumption) ?_ | with_reducible refine cell_set_other (by omega) ?_))) | fail) (first
    | (go_at_call 59; (with_reducible refine (termLit_1 op a _).mono ?_); rintro e w1 ⟨⟨s, M', rfl, hat⟩, hb1⟩; have HT1 := Lib.hid hat; have HB1 := Lib.hid (Below.up (w := W) (by (repeat (first | exact Below.refl _ _ | apply Below.drew | (apply below_alloc_on (Nat.le_refl _))))) hb1); clear hat)
    | (go_at_call 41; (with_reducible refine (version_below x _).mono ?_); rintro e w2 ⟨N, rfl, hN, hat, hb2⟩; have HX2 := Lib.hid (show AtV w2 N x ⟨#[]⟩ from hat); have HT2 := Lib.hid (AtV.below (w := _) (N := M') (x := ⟨a, 0, 0, ⟨#[]⟩, ⟨#[]⟩⟩) (o := ⟨#[]⟩) (by exact HT1.out) hb2); have HB2 := Lib.hid (Below.up HB1.out (Below.up (w := w1) (by (repeat (first | exact Below.refl _ _ | apply Below.drew | (apply below_alloc_on (Nat.le_refl _))))) hb2)); clear hN hat)
    | (go_at_call 61; (with_reducible refine (zzAbove_1 x ⟨#[]⟩ s a N M' _ (by exact HX2.out) (by exact HT2.out) HP.out).mono ?_); rintro e w3 ⟨⟨ev, rfl⟩, hb3⟩; rw [hr.out]; have HB3 := Lib.hid (Below.up HB2.out (Below.up (w := w2) (by (repeat (first | exact Below.refl _ _ | apply Below.drew | (apply below_alloc_on (Nat.le_refl _))))) hb3)))
    | fail)
  go_wp2
  go_ret
  exact ⟨rfl, Below.up HW.out HB3.out⟩

theorem zzAbove_2 (x : V) (o s : ByteArray) (a b : Nat) (N M' : Nat) (w : World) (hx : AtV w N x o) (hy : AtV w M' ⟨a, b, 0, ⟨#[]⟩, ⟨#[]⟩⟩ ⟨#[]⟩) (hp : x.p.toList = []) :
    Calls Tryd.prog 61 #[.agg #[.string s, .pointer (some ⟨M', 0, none⟩), .bool true, .bool false, .bool true], .pointer (some ⟨N, 0, none⟩), .bool false] w fun e w' => (∃ ev, e = .returned (.tuple #[.bool (x.gt2 ⟨a, b, 0, ⟨#[]⟩, ⟨#[]⟩⟩), ev])) ∧ Below w.heap.size w w' := by
  have HX := Lib.hid hx
  have HY := Lib.hid hy
  have HP := Lib.hid hp
  clear hx hy hp
  go_enter Tryd.func61, Tryd.ntmps61
  go_wp2_with (first
    | (go_at_call 81; (with_reducible refine (inner_exact s (some ⟨M', 0, none⟩) true false true _).mono ?_); rintro e w1 ⟨rfl, hw1⟩; have HB1 := Lib.hid (show Below w.heap.size w w1 by subst hw1; (repeat (first | exact Below.refl _ _ | apply Below.drew | (apply below_alloc_on (Nat.le_refl _))))); have HK1 := Lib.hid (show w1.heap[w.heap.size + 1 + 1]? = some (.cells #[.pointer (some ⟨M', 0, none⟩), .string ⟨#[]⟩, .string s, .bool false, .bool true, .bool true] 102 (0, 0)) by subst hw1; exact alloc_at _ _ _ (by simp)); clear hw1)
    | (go_at_call 86; (with_reducible refine (aboveC_2 x ⟨a, b, 0, ⟨#[]⟩, ⟨#[]⟩⟩ o ⟨#[]⟩ s N _ M' _ (HX.out.below HB1.out) (HY.out.below HB1.out) (by first | exact HK1.out | simpa using HK1.out) HP.out).mono ?_); rintro e w2 ⟨⟨ev, rfl⟩, hb⟩; have HB2 := Lib.hid (Below.up HB1.out hb); clear hb))
  refine bodyPost_ret (results_tmp2 rfl _ _ _) rfl ?_
  exact ⟨⟨_, rfl⟩, HB2.out⟩
theorem termLit_2 (op : Int) (a b : Nat) (w : World) :
    Calls Tryd.prog 59 #[.agg #[.int .i64 op, .int .i64 2, .int .u64 a, .int .u64 b, .int .u64 0, .string ⟨#[]⟩]] w fun e w' => (∃ s N, e = .returned (.agg #[.string s, .pointer (some ⟨N, 0, none⟩), .bool true, .bool false, .bool true]) ∧ AtV w' N ⟨a, b, 0, ⟨#[]⟩, ⟨#[]⟩⟩ ⟨#[]⟩) ∧ Below w.heap.size w w' := term_g2 op a b 0 ⟨#[]⟩ w
theorem stTermLit_2 (op : Int) (x : V) (w : World) : Calls Tryd.prog 29 #[.int .i64 op, .agg #[.int .u64 x.a, .int .u64 x.b, .int .u64 x.c, .string x.p, .string x.m], .int .i64 2] w fun e w' => e = .returned (.agg #[.int .i64 op, .int .i64 2, .int .u64 x.a, .int .u64 x.b, .int .u64 0, .string ⟨#[]⟩]) ∧ Below w.heap.size w w' := stTerm_2 op x w

set_option maxHeartbeats 2000000 in
theorem aboveHolds_2 (op : Int) (a b : Nat) (x : V) (r : Bool) (w : World) (hp : x.p.toList = []) (hr : Hid (x.gt2 ⟨a, b, 0, ⟨#[]⟩, ⟨#[]⟩⟩ = r)) :
    Calls Tryd.prog 33 #[.agg #[.int .i64 op, .int .i64 2, .int .u64 a, .int .u64 b, .int .u64 0, .string ⟨#[]⟩], .agg #[.int .u64 x.a, .int .u64 x.b, .int .u64 x.c, .string x.p, .string x.m], .bool false] w fun e w' => e = .returned (.bool r) ∧ Below w.heap.size w w' := by
  have HP := Lib.hid hp
  clear hp
  go_enter Tryd.func33, Tryd.ntmps33
  go_wp2_with fail
  have hX : ((w.alloc (.cells #[.int .i64 op, .int .i64 2, .int .u64 a, .int .u64 b, .int .u64 0, .string ⟨#[]⟩] 39)).alloc (.cells #[.int .u64 x.a, .int .u64 x.b, .int .u64 x.c, .string x.p, .string x.m] 24)).heap[w.heap.size]? = some (.cells #[.int .i64 op, .int .i64 2, .int .u64 a, .int .u64 b, .int .u64 0, .string ⟨#[]⟩] 39 (0, 0)) := heap_alloc_some (alloc_at _ _ _ rfl)
  have hY : AtP ((w.alloc (.cells #[.int .i64 op, .int .i64 2, .int .u64 a, .int .u64 b, .int .u64 0, .string ⟨#[]⟩] 39)).alloc (.cells #[.int .u64 x.a, .int .u64 x.b, .int .u64 x.c, .string x.p, .string x.m] 24)) (w.heap.size + 1) x := alloc_at _ _ _ (by simp)
  have hW : Below w.heap.size w ((w.alloc (.cells #[.int .i64 op, .int .i64 2, .int .u64 a, .int .u64 b, .int .u64 0, .string ⟨#[]⟩] 39)).alloc (.cells #[.int .u64 x.a, .int .u64 x.b, .int .u64 x.c, .string x.p, .string x.m] 24)) := by (repeat (first | exact Below.refl _ _ | apply Below.drew | (apply below_alloc_on (Nat.le_refl _))))
  generalize ((w.alloc (.cells #[.int .i64 op, .int .i64 2, .int .u64 a, .int .u64 b, .int .u64 0, .string ⟨#[]⟩] 39)).alloc (.cells #[.int .u64 x.a, .int .u64 x.b, .int .u64 x.c, .string x.p, .string x.m] 24)) = W at *
  have HW := Lib.hid hW
  have c0 : W.cell? ⟨w.heap.size, 0, none⟩ = some (.int .i64 op) := by rw [cell_of_row W _ _ _ _ _ hX]; rfl
  have c1 : W.cell? ⟨w.heap.size, 1, none⟩ = some (.int .i64 2) := by rw [cell_of_row W _ _ _ _ _ hX]; rfl
  have c2 : W.cell? ⟨w.heap.size, 2, none⟩ = some (.int .u64 a) := by rw [cell_of_row W _ _ _ _ _ hX]; rfl
  have c3 : W.cell? ⟨w.heap.size, 3, none⟩ = some (.int .u64 b) := by rw [cell_of_row W _ _ _ _ _ hX]; rfl
  have c4 : W.cell? ⟨w.heap.size, 4, none⟩ = some (.int .u64 0) := by rw [cell_of_row W _ _ _ _ _ hX]; rfl
  have c5 : W.cell? ⟨w.heap.size, 5, none⟩ = some (.string ⟨#[]⟩) := by rw [cell_of_row W _ _ _ _ _ hX]; rfl
  obtain ⟨d0, d1, d2, d3, d4⟩ := hY.cells
  clear hX hY hW
  go_region_held3 (fun w' => w'.cell? ⟨w.heap.size, 0, none⟩ = some (.int .i64 op) ∧ w'.cell? ⟨w.heap.size, 1, none⟩ = some (.int .i64 2) ∧ w'.cell? ⟨w.heap.size, 2, none⟩ = some (.int .u64 a) ∧ w'.cell? ⟨w.heap.size, 3, none⟩ = some (.int .u64 b) ∧ w'.cell? ⟨w.heap.size, 4, none⟩ = some (.int .u64 0) ∧ w'.cell? ⟨w.heap.size, 5, none⟩ = some (.string ⟨#[]⟩) ∧ w'.cell? ⟨w.heap.size + 1, 0, none⟩ = some (.int .u64 x.a) ∧ w'.cell? ⟨w.heap.size + 1, 1, none⟩ = some (.int .u64 x.b) ∧ w'.cell? ⟨w.heap.size + 1, 2, none⟩ = some (.int .u64 x.c) ∧ w'.cell? ⟨w.heap.size + 1, 3, none⟩ = some (.string x.p) ∧ w'.cell? ⟨w.heap.size + 1, 4, none⟩ = some (.string x.m)) (first | (refine ⟨?_, ?_, ?_, ?_, ?_, ?_, ?_, ?_, ?_, ?_, ?_⟩ <;> (repeat (first | with_reducible assumption | with_reducible apply cell_alloc_some | with_reducible apply cell_drew_some | with_reducible refine cell_below (by with_reducible assumption) ?_ | with_reducible refine cell_set_other (by omega) ?_))) | fail) (first
    | (go_at_call 59; (with_reducible refine (termLit_2 op a b _).mono ?_); rintro e w1 ⟨⟨s, M', rfl, hat⟩, hb1⟩; have HT1 := Lib.hid hat; have HB1 := Lib.hid (Below.up (w := W) (by (repeat (first | exact Below.refl _ _ | apply Below.drew | (apply below_alloc_on (Nat.le_refl _))))) hb1); clear hat)
    | (go_at_call 41; (with_reducible refine (version_below x _).mono ?_); rintro e w2 ⟨N, rfl, hN, hat, hb2⟩; have HX2 := Lib.hid (show AtV w2 N x ⟨#[]⟩ from hat); have HT2 := Lib.hid (AtV.below (w := _) (N := M') (x := ⟨a, b, 0, ⟨#[]⟩, ⟨#[]⟩⟩) (o := ⟨#[]⟩) (by exact HT1.out) hb2); have HB2 := Lib.hid (Below.up HB1.out (Below.up (w := w1) (by (repeat (first | exact Below.refl _ _ | apply Below.drew | (apply below_alloc_on (Nat.le_refl _))))) hb2)); clear hN hat)
    | (go_at_call 61; (with_reducible refine (zzAbove_2 x ⟨#[]⟩ s a b N M' _ (by exact HX2.out) (by exact HT2.out) HP.out).mono ?_); rintro e w3 ⟨⟨ev, rfl⟩, hb3⟩; rw [hr.out]; have HB3 := Lib.hid (Below.up HB2.out (Below.up (w := w2) (by (repeat (first | exact Below.refl _ _ | apply Below.drew | (apply below_alloc_on (Nat.le_refl _))))) hb3)))
    | fail)
  go_wp2
  go_ret
  exact ⟨rfl, Below.up HW.out HB3.out⟩
end Go.Proofs.YtopaileliohpdaaDoor
