/-
  impl.term with the operator's text.
-/
import Derived.Test.YtnkdpgcfaelpkaaDoorBaseC
namespace Go.Proofs.YtnkdpgcfaelpkaaDoor
open Go.RowKit
set_option maxRecDepth 100000
set_option linter.unusedVariables false

def opText : Nat → ByteArray
  | 0 => ⟨#[61]⟩
  | 1 => ⟨#[33, 61]⟩
  | 2 => ⟨#[62]⟩
  | 3 => ⟨#[60]⟩
  | 4 => ⟨#[62, 61]⟩
  | 5 => ⟨#[60, 61]⟩
  | 6 => ⟨#[126]⟩
  | _ => ⟨#[94]⟩
theorem operator_0 (w : World) : Calls Tryd.prog 54 #[.int .i64 0] w fun e w' => e = .returned (.string ⟨#[61]⟩) ∧ w' = w := by
  go_enter Tryd.func54, Tryd.ntmps54
  go_wp2
  go_ret
  exact ⟨rfl, rfl⟩
theorem operator_1 (w : World) : Calls Tryd.prog 54 #[.int .i64 1] w fun e w' => e = .returned (.string ⟨#[33, 61]⟩) ∧ w' = w := by
  go_enter Tryd.func54, Tryd.ntmps54
  go_wp2
  go_ret
  exact ⟨rfl, rfl⟩
theorem operator_2 (w : World) : Calls Tryd.prog 54 #[.int .i64 2] w fun e w' => e = .returned (.string ⟨#[62]⟩) ∧ w' = w := by
  go_enter Tryd.func54, Tryd.ntmps54
  go_wp2
  go_ret
  exact ⟨rfl, rfl⟩
theorem operator_3 (w : World) : Calls Tryd.prog 54 #[.int .i64 3] w fun e w' => e = .returned (.string ⟨#[60]⟩) ∧ w' = w := by
  go_enter Tryd.func54, Tryd.ntmps54
  go_wp2
  go_ret
  exact ⟨rfl, rfl⟩
theorem operator_4 (w : World) : Calls Tryd.prog 54 #[.int .i64 4] w fun e w' => e = .returned (.string ⟨#[62, 61]⟩) ∧ w' = w := by
  go_enter Tryd.func54, Tryd.ntmps54
  go_wp2
  go_ret
  exact ⟨rfl, rfl⟩
theorem operator_5 (w : World) : Calls Tryd.prog 54 #[.int .i64 5] w fun e w' => e = .returned (.string ⟨#[60, 61]⟩) ∧ w' = w := by
  go_enter Tryd.func54, Tryd.ntmps54
  go_wp2
  go_ret
  exact ⟨rfl, rfl⟩
theorem operator_6 (w : World) : Calls Tryd.prog 54 #[.int .i64 6] w fun e w' => e = .returned (.string ⟨#[126]⟩) ∧ w' = w := by
  go_enter Tryd.func54, Tryd.ntmps54
  go_wp2
  go_ret
  exact ⟨rfl, rfl⟩
theorem operator_7 (w : World) : Calls Tryd.prog 54 #[.int .i64 7] w fun e w' => e = .returned (.string ⟨#[94]⟩) ∧ w' = w := by
  go_enter Tryd.func54, Tryd.ntmps54
  go_wp2
  go_ret
  exact ⟨rfl, rfl⟩
theorem operator_is (op : Int) (w : World) (h : 0 ≤ op ∧ op < 8) : Calls Tryd.prog 54 #[.int .i64 op] w fun e w' => e = .returned (.string (opText op.toNat)) ∧ w' = w := by
  obtain rfl | rfl | rfl | rfl | rfl | rfl | rfl | rfl : op = 0 ∨ op = 1 ∨ op = 2 ∨ op = 3 ∨ op = 4 ∨ op = 5 ∨ op = 6 ∨ op = 7 := by omega
  · exact operator_0 w
  · exact operator_1 w
  · exact operator_2 w
  · exact operator_3 w
  · exact operator_4 w
  · exact operator_5 w
  · exact operator_6 w
  · exact operator_7 w
set_option maxHeartbeats 2000000 in
theorem termS_g0 (op : Int) (a b c : Nat) (p s : ByteArray) (w : World) (hop : ∀ w, Calls Tryd.prog 54 #[.int .i64 op] w fun e w' => e = .returned (.string s) ∧ w' = w) :
    Calls Tryd.prog 45 #[.agg #[.int .i64 op, .int .i64 0, .int .u64 a, .int .u64 b, .int .u64 c, .string p]] w fun e w' => (∃ N, e = .returned (.agg #[.string s, .pointer (some ⟨N, 0, none⟩), .bool true, .bool false, .bool false]) ∧ AtV w' N ⟨a, b, c, p, ⟨#[]⟩⟩ ⟨#[]⟩) ∧ Below w.heap.size w w' := by
  go_enter Tryd.func45, Tryd.ntmps45
  go_wp2_with fail
  have hZ : ((w.alloc (.cells #[.int .i64 op, .int .i64 0, .int .u64 a, .int .u64 b, .int .u64 c, .string p] 35)).alloc (.cells #[.string ⟨#[]⟩, .pointer none, .bool false, .bool false, .bool false] 69)).heap[w.heap.size + 1]? = some (.cells #[.string ⟨#[]⟩, .pointer none, .bool false, .bool false, .bool false] 69 (0, 0)) := alloc_at _ _ _ (by simp)
  have hX : ((w.alloc (.cells #[.int .i64 op, .int .i64 0, .int .u64 a, .int .u64 b, .int .u64 c, .string p] 35)).alloc (.cells #[.string ⟨#[]⟩, .pointer none, .bool false, .bool false, .bool false] 69)).heap[w.heap.size]? = some (.cells #[.int .i64 op, .int .i64 0, .int .u64 a, .int .u64 b, .int .u64 c, .string p] 35 (0, 0)) := heap_alloc_some (alloc_at _ _ _ rfl)
  have hW : Below w.heap.size w ((w.alloc (.cells #[.int .i64 op, .int .i64 0, .int .u64 a, .int .u64 b, .int .u64 c, .string p] 35)).alloc (.cells #[.string ⟨#[]⟩, .pointer none, .bool false, .bool false, .bool false] 69)) := by (repeat (first | exact Below.refl _ _ | apply Below.drew | (apply below_alloc_on (Nat.le_refl _))))
  generalize ((w.alloc (.cells #[.int .i64 op, .int .i64 0, .int .u64 a, .int .u64 b, .int .u64 c, .string p] 35)).alloc (.cells #[.string ⟨#[]⟩, .pointer none, .bool false, .bool false, .bool false] 69)) = W at *
  have HW := Lib.hid hW
  have HZ := Lib.hid hZ
  have c0 : W.cell? ⟨w.heap.size, 0, none⟩ = some (.int .i64 op) := by rw [cell_of_row W _ _ _ _ _ hX]; rfl
  have c1 : W.cell? ⟨w.heap.size, 1, none⟩ = some (.int .i64 0) := by rw [cell_of_row W _ _ _ _ _ hX]; rfl
  have c2 : W.cell? ⟨w.heap.size, 2, none⟩ = some (.int .u64 a) := by rw [cell_of_row W _ _ _ _ _ hX]; rfl
  have c3 : W.cell? ⟨w.heap.size, 3, none⟩ = some (.int .u64 b) := by rw [cell_of_row W _ _ _ _ _ hX]; rfl
  have c4 : W.cell? ⟨w.heap.size, 4, none⟩ = some (.int .u64 c) := by rw [cell_of_row W _ _ _ _ _ hX]; rfl
  have c5 : W.cell? ⟨w.heap.size, 5, none⟩ = some (.string p) := by rw [cell_of_row W _ _ _ _ _ hX]; rfl
  clear hX hZ hW
  go_region_held3 (fun w' => w'.cell? ⟨w.heap.size, 0, none⟩ = some (.int .i64 op) ∧ w'.cell? ⟨w.heap.size, 1, none⟩ = some (.int .i64 0) ∧ w'.cell? ⟨w.heap.size, 2, none⟩ = some (.int .u64 a) ∧ w'.cell? ⟨w.heap.size, 3, none⟩ = some (.int .u64 b) ∧ w'.cell? ⟨w.heap.size, 4, none⟩ = some (.int .u64 c) ∧ w'.cell? ⟨w.heap.size, 5, none⟩ = some (.string p)) (first | (refine ⟨?_, ?_, ?_, ?_, ?_, ?_⟩ <;> (repeat (first | with_reducible assumption | with_reducible apply cell_alloc_some | with_reducible apply cell_drew_some | with_reducible refine cell_below (by with_reducible assumption) ?_ | with_reducible refine cell_set_other (by omega) ?_))) | fail) (first
    | (go_at_call 54; (with_reducible refine (hop _).mono ?_); rintro e w1 ⟨rfl, rfl⟩)
    | (go_at_call 36; refine (zzVersion_below ⟨a, b, c, p, ⟨#[]⟩⟩ _).mono ?_; rintro e w2 ⟨N, rfl, hN, hat, hb⟩; have hz := blk_below hb (by exact HZ.out); have HB2 := Lib.hid (Below.up (w := W) (by (repeat (first | exact Below.refl _ _ | apply Below.drew | (apply below_alloc_on (Nat.le_refl _))))) hb); have g0 : w2.cell? ⟨w.heap.size + 1, 0, none⟩ = _ := cell_of_row w2 _ _ _ _ _ hz; have g1 : w2.cell? ⟨w.heap.size + 1, 1, none⟩ = _ := cell_of_row w2 _ _ _ _ _ hz; have g2 : w2.cell? ⟨w.heap.size + 1, 2, none⟩ = _ := cell_of_row w2 _ _ _ _ _ hz; have g3 : w2.cell? ⟨w.heap.size + 1, 3, none⟩ = _ := cell_of_row w2 _ _ _ _ _ hz; have g4 : w2.cell? ⟨w.heap.size + 1, 4, none⟩ = _ := cell_of_row w2 _ _ _ _ _ hz; have l0 := blk_loose hz 0; have l1 := blk_loose hz 1; have l2 := blk_loose hz 2; have l3 := blk_loose hz 3; have l4 := blk_loose hz 4; have HZ2 := Lib.hid hz; have HA2 := Lib.hid (show AtV w2 N ⟨a, b, c, p, ⟨#[]⟩⟩ ⟨#[]⟩ from hat); clear hz hat)
    | fail)
  go_wp2
  refine post_blk1 rfl (w.heap.size + 1) #[.string s, .pointer (some ⟨N, 0, none⟩), .bool true, .bool false, .bool false] rfl rfl (blk_store5 HZ2.out _ _ _ _ _) (fun w' h => results_cell_row rfl _ _ _ _ _ (0, 0) _ rfl h Tryd.underlying69 rfl (by kernel_rfl)) ?_
  have hNn : N ≠ w.heap.size + 1 := by
    have h1 : w.heap.size + 1 < W.heap.size := by
      rcases Nat.lt_or_ge (w.heap.size + 1) W.heap.size with h' | h'
      · exact h'
      · have := HZ.out; rw [Array.getElem?_eq_none h'] at this; cases this
    have h2 : W.heap.size ≤ N := hN
    omega
  exact ⟨⟨N, rfl, AtV.others HA2.out hNn _ _ _ _ _⟩, up_store5 (Below.up HW.out HB2.out) (Nat.le_succ _) _ _ _ _ _⟩

set_option maxHeartbeats 2000000 in
theorem termS_g1 (op : Int) (a b c : Nat) (p s : ByteArray) (w : World) (hop : ∀ w, Calls Tryd.prog 54 #[.int .i64 op] w fun e w' => e = .returned (.string s) ∧ w' = w) :
    Calls Tryd.prog 45 #[.agg #[.int .i64 op, .int .i64 1, .int .u64 a, .int .u64 b, .int .u64 c, .string p]] w fun e w' => (∃ N, e = .returned (.agg #[.string s, .pointer (some ⟨N, 0, none⟩), .bool true, .bool true, .bool false]) ∧ AtV w' N ⟨a, b, c, p, ⟨#[]⟩⟩ ⟨#[]⟩) ∧ Below w.heap.size w w' := by
  go_enter Tryd.func45, Tryd.ntmps45
  go_wp2_with fail
  have hZ : ((w.alloc (.cells #[.int .i64 op, .int .i64 1, .int .u64 a, .int .u64 b, .int .u64 c, .string p] 35)).alloc (.cells #[.string ⟨#[]⟩, .pointer none, .bool false, .bool false, .bool false] 69)).heap[w.heap.size + 1]? = some (.cells #[.string ⟨#[]⟩, .pointer none, .bool false, .bool false, .bool false] 69 (0, 0)) := alloc_at _ _ _ (by simp)
  have hX : ((w.alloc (.cells #[.int .i64 op, .int .i64 1, .int .u64 a, .int .u64 b, .int .u64 c, .string p] 35)).alloc (.cells #[.string ⟨#[]⟩, .pointer none, .bool false, .bool false, .bool false] 69)).heap[w.heap.size]? = some (.cells #[.int .i64 op, .int .i64 1, .int .u64 a, .int .u64 b, .int .u64 c, .string p] 35 (0, 0)) := heap_alloc_some (alloc_at _ _ _ rfl)
  have hW : Below w.heap.size w ((w.alloc (.cells #[.int .i64 op, .int .i64 1, .int .u64 a, .int .u64 b, .int .u64 c, .string p] 35)).alloc (.cells #[.string ⟨#[]⟩, .pointer none, .bool false, .bool false, .bool false] 69)) := by (repeat (first | exact Below.refl _ _ | apply Below.drew | (apply below_alloc_on (Nat.le_refl _))))
  generalize ((w.alloc (.cells #[.int .i64 op, .int .i64 1, .int .u64 a, .int .u64 b, .int .u64 c, .string p] 35)).alloc (.cells #[.string ⟨#[]⟩, .pointer none, .bool false, .bool false, .bool false] 69)) = W at *
  have HW := Lib.hid hW
  have HZ := Lib.hid hZ
  have c0 : W.cell? ⟨w.heap.size, 0, none⟩ = some (.int .i64 op) := by rw [cell_of_row W _ _ _ _ _ hX]; rfl
  have c1 : W.cell? ⟨w.heap.size, 1, none⟩ = some (.int .i64 1) := by rw [cell_of_row W _ _ _ _ _ hX]; rfl
  have c2 : W.cell? ⟨w.heap.size, 2, none⟩ = some (.int .u64 a) := by rw [cell_of_row W _ _ _ _ _ hX]; rfl
  have c3 : W.cell? ⟨w.heap.size, 3, none⟩ = some (.int .u64 b) := by rw [cell_of_row W _ _ _ _ _ hX]; rfl
  have c4 : W.cell? ⟨w.heap.size, 4, none⟩ = some (.int .u64 c) := by rw [cell_of_row W _ _ _ _ _ hX]; rfl
  have c5 : W.cell? ⟨w.heap.size, 5, none⟩ = some (.string p) := by rw [cell_of_row W _ _ _ _ _ hX]; rfl
  clear hX hZ hW
  go_region_held3 (fun w' => w'.cell? ⟨w.heap.size, 0, none⟩ = some (.int .i64 op) ∧ w'.cell? ⟨w.heap.size, 1, none⟩ = some (.int .i64 1) ∧ w'.cell? ⟨w.heap.size, 2, none⟩ = some (.int .u64 a) ∧ w'.cell? ⟨w.heap.size, 3, none⟩ = some (.int .u64 b) ∧ w'.cell? ⟨w.heap.size, 4, none⟩ = some (.int .u64 c) ∧ w'.cell? ⟨w.heap.size, 5, none⟩ = some (.string p)) (first | (refine ⟨?_, ?_, ?_, ?_, ?_, ?_⟩ <;> (repeat (first | with_reducible assumption | with_reducible apply cell_alloc_some | with_reducible apply cell_drew_some | with_reducible refine cell_below (by with_reducible assumption) ?_ | with_reducible refine cell_set_other (by omega) ?_))) | fail) (first
    | (go_at_call 54; (with_reducible refine (hop _).mono ?_); rintro e w1 ⟨rfl, rfl⟩)
    | (go_at_call 36; refine (zzVersion_below ⟨a, b, c, p, ⟨#[]⟩⟩ _).mono ?_; rintro e w2 ⟨N, rfl, hN, hat, hb⟩; have hz := blk_below hb (by exact HZ.out); have HB2 := Lib.hid (Below.up (w := W) (by (repeat (first | exact Below.refl _ _ | apply Below.drew | (apply below_alloc_on (Nat.le_refl _))))) hb); have g0 : w2.cell? ⟨w.heap.size + 1, 0, none⟩ = _ := cell_of_row w2 _ _ _ _ _ hz; have g1 : w2.cell? ⟨w.heap.size + 1, 1, none⟩ = _ := cell_of_row w2 _ _ _ _ _ hz; have g2 : w2.cell? ⟨w.heap.size + 1, 2, none⟩ = _ := cell_of_row w2 _ _ _ _ _ hz; have g3 : w2.cell? ⟨w.heap.size + 1, 3, none⟩ = _ := cell_of_row w2 _ _ _ _ _ hz; have g4 : w2.cell? ⟨w.heap.size + 1, 4, none⟩ = _ := cell_of_row w2 _ _ _ _ _ hz; have l0 := blk_loose hz 0; have l1 := blk_loose hz 1; have l2 := blk_loose hz 2; have l3 := blk_loose hz 3; have l4 := blk_loose hz 4; have HZ2 := Lib.hid hz; have HA2 := Lib.hid (show AtV w2 N ⟨a, b, c, p, ⟨#[]⟩⟩ ⟨#[]⟩ from hat); clear hz hat)
    | fail)
  go_wp2
  refine post_blk1 rfl (w.heap.size + 1) #[.string s, .pointer (some ⟨N, 0, none⟩), .bool true, .bool true, .bool false] rfl rfl (blk_store5 HZ2.out _ _ _ _ _) (fun w' h => results_cell_row rfl _ _ _ _ _ (0, 0) _ rfl h Tryd.underlying69 rfl (by kernel_rfl)) ?_
  have hNn : N ≠ w.heap.size + 1 := by
    have h1 : w.heap.size + 1 < W.heap.size := by
      rcases Nat.lt_or_ge (w.heap.size + 1) W.heap.size with h' | h'
      · exact h'
      · have := HZ.out; rw [Array.getElem?_eq_none h'] at this; cases this
    have h2 : W.heap.size ≤ N := hN
    omega
  exact ⟨⟨N, rfl, AtV.others HA2.out hNn _ _ _ _ _⟩, up_store5 (Below.up HW.out HB2.out) (Nat.le_succ _) _ _ _ _ _⟩

set_option maxHeartbeats 2000000 in
theorem termS_g2 (op : Int) (a b c : Nat) (p s : ByteArray) (w : World) (hop : ∀ w, Calls Tryd.prog 54 #[.int .i64 op] w fun e w' => e = .returned (.string s) ∧ w' = w) :
    Calls Tryd.prog 45 #[.agg #[.int .i64 op, .int .i64 2, .int .u64 a, .int .u64 b, .int .u64 c, .string p]] w fun e w' => (∃ N, e = .returned (.agg #[.string s, .pointer (some ⟨N, 0, none⟩), .bool true, .bool false, .bool true]) ∧ AtV w' N ⟨a, b, c, p, ⟨#[]⟩⟩ ⟨#[]⟩) ∧ Below w.heap.size w w' := by
  go_enter Tryd.func45, Tryd.ntmps45
  go_wp2_with fail
  have hZ : ((w.alloc (.cells #[.int .i64 op, .int .i64 2, .int .u64 a, .int .u64 b, .int .u64 c, .string p] 35)).alloc (.cells #[.string ⟨#[]⟩, .pointer none, .bool false, .bool false, .bool false] 69)).heap[w.heap.size + 1]? = some (.cells #[.string ⟨#[]⟩, .pointer none, .bool false, .bool false, .bool false] 69 (0, 0)) := alloc_at _ _ _ (by simp)
  have hX : ((w.alloc (.cells #[.int .i64 op, .int .i64 2, .int .u64 a, .int .u64 b, .int .u64 c, .string p] 35)).alloc (.cells #[.string ⟨#[]⟩, .pointer none, .bool false, .bool false, .bool false] 69)).heap[w.heap.size]? = some (.cells #[.int .i64 op, .int .i64 2, .int .u64 a, .int .u64 b, .int .u64 c, .string p] 35 (0, 0)) := heap_alloc_some (alloc_at _ _ _ rfl)
  have hW : Below w.heap.size w ((w.alloc (.cells #[.int .i64 op, .int .i64 2, .int .u64 a, .int .u64 b, .int .u64 c, .string p] 35)).alloc (.cells #[.string ⟨#[]⟩, .pointer none, .bool false, .bool false, .bool false] 69)) := by (repeat (first | exact Below.refl _ _ | apply Below.drew | (apply below_alloc_on (Nat.le_refl _))))
  generalize ((w.alloc (.cells #[.int .i64 op, .int .i64 2, .int .u64 a, .int .u64 b, .int .u64 c, .string p] 35)).alloc (.cells #[.string ⟨#[]⟩, .pointer none, .bool false, .bool false, .bool false] 69)) = W at *
  have HW := Lib.hid hW
  have HZ := Lib.hid hZ
  have c0 : W.cell? ⟨w.heap.size, 0, none⟩ = some (.int .i64 op) := by rw [cell_of_row W _ _ _ _ _ hX]; rfl
  have c1 : W.cell? ⟨w.heap.size, 1, none⟩ = some (.int .i64 2) := by rw [cell_of_row W _ _ _ _ _ hX]; rfl
  have c2 : W.cell? ⟨w.heap.size, 2, none⟩ = some (.int .u64 a) := by rw [cell_of_row W _ _ _ _ _ hX]; rfl
  have c3 : W.cell? ⟨w.heap.size, 3, none⟩ = some (.int .u64 b) := by rw [cell_of_row W _ _ _ _ _ hX]; rfl
  have c4 : W.cell? ⟨w.heap.size, 4, none⟩ = some (.int .u64 c) := by rw [cell_of_row W _ _ _ _ _ hX]; rfl
  have c5 : W.cell? ⟨w.heap.size, 5, none⟩ = some (.string p) := by rw [cell_of_row W _ _ _ _ _ hX]; rfl
  clear hX hZ hW
  go_region_held3 (fun w' => w'.cell? ⟨w.heap.size, 0, none⟩ = some (.int .i64 op) ∧ w'.cell? ⟨w.heap.size, 1, none⟩ = some (.int .i64 2) ∧ w'.cell? ⟨w.heap.size, 2, none⟩ = some (.int .u64 a) ∧ w'.cell? ⟨w.heap.size, 3, none⟩ = some (.int .u64 b) ∧ w'.cell? ⟨w.heap.size, 4, none⟩ = some (.int .u64 c) ∧ w'.cell? ⟨w.heap.size, 5, none⟩ = some (.string p)) (first | (refine ⟨?_, ?_, ?_, ?_, ?_, ?_⟩ <;> (repeat (first | with_reducible assumption | with_reducible apply cell_alloc_some | with_reducible apply cell_drew_some | with_reducible refine cell_below (by with_reducible assumption) ?_ | with_reducible refine cell_set_other (by omega) ?_))) | fail) (first
    | (go_at_call 54; (with_reducible refine (hop _).mono ?_); rintro e w1 ⟨rfl, rfl⟩)
    | (go_at_call 36; refine (zzVersion_below ⟨a, b, c, p, ⟨#[]⟩⟩ _).mono ?_; rintro e w2 ⟨N, rfl, hN, hat, hb⟩; have hz := blk_below hb (by exact HZ.out); have HB2 := Lib.hid (Below.up (w := W) (by (repeat (first | exact Below.refl _ _ | apply Below.drew | (apply below_alloc_on (Nat.le_refl _))))) hb); have g0 : w2.cell? ⟨w.heap.size + 1, 0, none⟩ = _ := cell_of_row w2 _ _ _ _ _ hz; have g1 : w2.cell? ⟨w.heap.size + 1, 1, none⟩ = _ := cell_of_row w2 _ _ _ _ _ hz; have g2 : w2.cell? ⟨w.heap.size + 1, 2, none⟩ = _ := cell_of_row w2 _ _ _ _ _ hz; have g3 : w2.cell? ⟨w.heap.size + 1, 3, none⟩ = _ := cell_of_row w2 _ _ _ _ _ hz; have g4 : w2.cell? ⟨w.heap.size + 1, 4, none⟩ = _ := cell_of_row w2 _ _ _ _ _ hz; have l0 := blk_loose hz 0; have l1 := blk_loose hz 1; have l2 := blk_loose hz 2; have l3 := blk_loose hz 3; have l4 := blk_loose hz 4; have HZ2 := Lib.hid hz; have HA2 := Lib.hid (show AtV w2 N ⟨a, b, c, p, ⟨#[]⟩⟩ ⟨#[]⟩ from hat); clear hz hat)
    | fail)
  go_wp2
  refine post_blk1 rfl (w.heap.size + 1) #[.string s, .pointer (some ⟨N, 0, none⟩), .bool true, .bool false, .bool true] rfl rfl (blk_store5 HZ2.out _ _ _ _ _) (fun w' h => results_cell_row rfl _ _ _ _ _ (0, 0) _ rfl h Tryd.underlying69 rfl (by kernel_rfl)) ?_
  have hNn : N ≠ w.heap.size + 1 := by
    have h1 : w.heap.size + 1 < W.heap.size := by
      rcases Nat.lt_or_ge (w.heap.size + 1) W.heap.size with h' | h'
      · exact h'
      · have := HZ.out; rw [Array.getElem?_eq_none h'] at this; cases this
    have h2 : W.heap.size ≤ N := hN
    omega
  exact ⟨⟨N, rfl, AtV.others HA2.out hNn _ _ _ _ _⟩, up_store5 (Below.up HW.out HB2.out) (Nat.le_succ _) _ _ _ _ _⟩

set_option maxHeartbeats 2000000 in
theorem termS_g3 (op : Int) (a b c : Nat) (p s : ByteArray) (w : World) (hop : ∀ w, Calls Tryd.prog 54 #[.int .i64 op] w fun e w' => e = .returned (.string s) ∧ w' = w) :
    Calls Tryd.prog 45 #[.agg #[.int .i64 op, .int .i64 3, .int .u64 a, .int .u64 b, .int .u64 c, .string p]] w fun e w' => (∃ N, e = .returned (.agg #[.string s, .pointer (some ⟨N, 0, none⟩), .bool false, .bool false, .bool false]) ∧ AtV w' N ⟨a, b, c, p, ⟨#[]⟩⟩ ⟨#[]⟩) ∧ Below w.heap.size w w' := by
  go_enter Tryd.func45, Tryd.ntmps45
  go_wp2_with fail
  have hZ : ((w.alloc (.cells #[.int .i64 op, .int .i64 3, .int .u64 a, .int .u64 b, .int .u64 c, .string p] 35)).alloc (.cells #[.string ⟨#[]⟩, .pointer none, .bool false, .bool false, .bool false] 69)).heap[w.heap.size + 1]? = some (.cells #[.string ⟨#[]⟩, .pointer none, .bool false, .bool false, .bool false] 69 (0, 0)) := alloc_at _ _ _ (by simp)
  have hX : ((w.alloc (.cells #[.int .i64 op, .int .i64 3, .int .u64 a, .int .u64 b, .int .u64 c, .string p] 35)).alloc (.cells #[.string ⟨#[]⟩, .pointer none, .bool false, .bool false, .bool false] 69)).heap[w.heap.size]? = some (.cells #[.int .i64 op, .int .i64 3, .int .u64 a, .int .u64 b, .int .u64 c, .string p] 35 (0, 0)) := heap_alloc_some (alloc_at _ _ _ rfl)
  have hW : Below w.heap.size w ((w.alloc (.cells #[.int .i64 op, .int .i64 3, .int .u64 a, .int .u64 b, .int .u64 c, .string p] 35)).alloc (.cells #[.string ⟨#[]⟩, .pointer none, .bool false, .bool false, .bool false] 69)) := by (repeat (first | exact Below.refl _ _ | apply Below.drew | (apply below_alloc_on (Nat.le_refl _))))
  generalize ((w.alloc (.cells #[.int .i64 op, .int .i64 3, .int .u64 a, .int .u64 b, .int .u64 c, .string p] 35)).alloc (.cells #[.string ⟨#[]⟩, .pointer none, .bool false, .bool false, .bool false] 69)) = W at *
  have HW := Lib.hid hW
  have HZ := Lib.hid hZ
  have c0 : W.cell? ⟨w.heap.size, 0, none⟩ = some (.int .i64 op) := by rw [cell_of_row W _ _ _ _ _ hX]; rfl
  have c1 : W.cell? ⟨w.heap.size, 1, none⟩ = some (.int .i64 3) := by rw [cell_of_row W _ _ _ _ _ hX]; rfl
  have c2 : W.cell? ⟨w.heap.size, 2, none⟩ = some (.int .u64 a) := by rw [cell_of_row W _ _ _ _ _ hX]; rfl
  have c3 : W.cell? ⟨w.heap.size, 3, none⟩ = some (.int .u64 b) := by rw [cell_of_row W _ _ _ _ _ hX]; rfl
  have c4 : W.cell? ⟨w.heap.size, 4, none⟩ = some (.int .u64 c) := by rw [cell_of_row W _ _ _ _ _ hX]; rfl
  have c5 : W.cell? ⟨w.heap.size, 5, none⟩ = some (.string p) := by rw [cell_of_row W _ _ _ _ _ hX]; rfl
  clear hX hZ hW
  go_region_held3 (fun w' => w'.cell? ⟨w.heap.size, 0, none⟩ = some (.int .i64 op) ∧ w'.cell? ⟨w.heap.size, 1, none⟩ = some (.int .i64 3) ∧ w'.cell? ⟨w.heap.size, 2, none⟩ = some (.int .u64 a) ∧ w'.cell? ⟨w.heap.size, 3, none⟩ = some (.int .u64 b) ∧ w'.cell? ⟨w.heap.size, 4, none⟩ = some (.int .u64 c) ∧ w'.cell? ⟨w.heap.size, 5, none⟩ = some (.string p)) (first | (refine ⟨?_, ?_, ?_, ?_, ?_, ?_⟩ <;> (repeat (first | with_reducible assumption | with_reducible apply cell_alloc_some | with_reducible apply cell_drew_some | with_reducible refine cell_below (by with_reducible assumption) ?_ | with_reducible refine cell_set_other (by omega) ?_))) | fail) (first
    | (go_at_call 54; (with_reducible refine (hop _).mono ?_); rintro e w1 ⟨rfl, rfl⟩)
    | (go_at_call 36; refine (zzVersion_below ⟨a, b, c, p, ⟨#[]⟩⟩ _).mono ?_; rintro e w2 ⟨N, rfl, hN, hat, hb⟩; have hz := blk_below hb (by exact HZ.out); have HB2 := Lib.hid (Below.up (w := W) (by (repeat (first | exact Below.refl _ _ | apply Below.drew | (apply below_alloc_on (Nat.le_refl _))))) hb); have g0 : w2.cell? ⟨w.heap.size + 1, 0, none⟩ = _ := cell_of_row w2 _ _ _ _ _ hz; have g1 : w2.cell? ⟨w.heap.size + 1, 1, none⟩ = _ := cell_of_row w2 _ _ _ _ _ hz; have g2 : w2.cell? ⟨w.heap.size + 1, 2, none⟩ = _ := cell_of_row w2 _ _ _ _ _ hz; have g3 : w2.cell? ⟨w.heap.size + 1, 3, none⟩ = _ := cell_of_row w2 _ _ _ _ _ hz; have g4 : w2.cell? ⟨w.heap.size + 1, 4, none⟩ = _ := cell_of_row w2 _ _ _ _ _ hz; have l0 := blk_loose hz 0; have l1 := blk_loose hz 1; have l2 := blk_loose hz 2; have l3 := blk_loose hz 3; have l4 := blk_loose hz 4; have HZ2 := Lib.hid hz; have HA2 := Lib.hid (show AtV w2 N ⟨a, b, c, p, ⟨#[]⟩⟩ ⟨#[]⟩ from hat); clear hz hat)
    | fail)
  go_wp2
  refine post_blk1 rfl (w.heap.size + 1) #[.string s, .pointer (some ⟨N, 0, none⟩), .bool false, .bool false, .bool false] rfl rfl (blk_store5 HZ2.out _ _ _ _ _) (fun w' h => results_cell_row rfl _ _ _ _ _ (0, 0) _ rfl h Tryd.underlying69 rfl (by kernel_rfl)) ?_
  have hNn : N ≠ w.heap.size + 1 := by
    have h1 : w.heap.size + 1 < W.heap.size := by
      rcases Nat.lt_or_ge (w.heap.size + 1) W.heap.size with h' | h'
      · exact h'
      · have := HZ.out; rw [Array.getElem?_eq_none h'] at this; cases this
    have h2 : W.heap.size ≤ N := hN
    omega
  exact ⟨⟨N, rfl, AtV.others HA2.out hNn _ _ _ _ _⟩, up_store5 (Below.up HW.out HB2.out) (Nat.le_succ _) _ _ _ _ _⟩

theorem termS_any (t : T) (w : World) (hg : t.g = 0 ∨ t.g = 1 ∨ t.g = 2 ∨ t.g = 3) (ho : 0 ≤ t.op ∧ t.op < 8) :
    Calls Tryd.prog 45 #[.agg #[.int .i64 t.op, .int .i64 t.g, .int .u64 t.a, .int .u64 t.b, .int .u64 t.c, .string t.p]] w fun e w' => (∃ N, e = .returned (.agg #[.string (opText t.op.toNat), .pointer (some ⟨N, 0, none⟩), .bool t.dirty, .bool t.minor, .bool t.patch]) ∧ AtV w' N t.ver ⟨#[]⟩) ∧ Below w.heap.size w w' := by
  obtain ⟨op, g, a, b, c, p⟩ := t
  simp only at hg ho
  have hop := fun w => operator_is op w ho
  rcases hg with rfl | rfl | rfl | rfl
  · exact termS_g0 op a b c p _ w hop
  · exact termS_g1 op a b c p _ w hop
  · exact termS_g2 op a b c p _ w hop
  · exact termS_g3 op a b c p _ w hop
end Go.Proofs.YtnkdpgcfaelpkaaDoor
