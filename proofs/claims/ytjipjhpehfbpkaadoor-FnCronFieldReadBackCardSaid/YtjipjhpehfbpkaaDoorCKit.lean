/-
  Small facts on cells and blocks, for the cron walks.
-/
import Derived.Test.YtjipjhpehfbpkaaDoorCNum
namespace Go.Proofs.YtjipjhpehfbpkaaDoor
open Go.RowKit

theorem alloc_at (w : World) (o : Obj) (n : Nat) (h : n = w.heap.size) : (w.alloc o).heap[n]? = some o := by
  subst h
  show (w.heap.push o)[w.heap.size]? = some o
  simp
theorem cell_below {w w' : World} {a : Addr} {v : Value} (hb : Below w.heap.size w w') (h : w.cell? a = some v) : w'.cell? a = some v := (hb.cell (cellLt h)).trans h
theorem cell_alloc_some {w : World} {o : Obj} {a : Addr} {v : Value} (h : w.cell? a = some v) : (w.alloc o).cell? a = some v := by
  rw [(below_alloc w o).cell (p := a) (cellLt h)]; exact h
theorem cell_drew_some {w : World} {a : Addr} {v : Value} (h : w.cell? a = some v) : w.drew.cell? a = some v := h
theorem heap_alloc_some {w : World} {o o' : Obj} {n : Nat} (h : w.heap[n]? = some o) : (w.alloc o').heap[n]? = some o := by
  have hlt : n < w.heap.size := by
    rcases Nat.lt_or_ge n w.heap.size with h' | h'
    · exact h'
    · rw [Array.getElem?_eq_none h'] at h; cases h
  rw [(below_alloc w o').block n hlt]; exact h
theorem heap_drew_some {w : World} {o : Obj} {n : Nat} (h : w.heap[n]? = some o) : w.drew.heap[n]? = some o := h
theorem heap_below {w w' : World} {o : Obj} {n : Nat} (b : Below w.heap.size w w') (h : w.heap[n]? = some o) : w'.heap[n]? = some o := by
  rw [b.block _ (Array.getElem?_eq_some_iff.1 h).1]; exact h
theorem cell_set_other {w : World} {N M i j : Nat} {v x : Value} (h : N ≠ M) (hc : w.cell? ⟨N, j, none⟩ = some x) : (w.setCell ⟨M, i, none⟩ v).cell? ⟨N, j, none⟩ = some x := by
  rw [World.cell?_of_block (w := w) (heap_setCell_other w ⟨M, i, none⟩ N v h)]
  exact hc
theorem row_cell {w : World} {b : Nat} {cs : Array Value} {t : TypeId} {fz : Nat × Nat} (h : w.heap[b]? = some (.cells cs t fz)) (j : Nat) (v : Value) (hv : cs[j]? = some v) : w.cell? ⟨b, j, none⟩ = some v := by
  rw [cell_of_row _ _ _ _ _ _ h]; exact hv
end Go.Proofs.YtjipjhpehfbpkaaDoor
