/-
  laws.FnAlgorithmSet returns true for every text; for a text longer than 65536 bytes it says nothing. Condition: the ten sentinels that impl.kind asks for lie as the program lays them.
-/
import Derived.Test.YtkmdijnhepkamaaDoorKind
import Derived.Lib.Hide
namespace Go.Proofs.YtkmdijnhepkamaaDoor
open Go.RowKit

theorem algo_walk (a : ByteArray) {sa : Nat → Addr} (w : World) (h : Sent.Errs kindG w sa) (_ : a.size ≤ 140737488351232) :
    Calls Tryd.prog 3 #[.string a] w fun e w' => e = .returned (.bool true) ∧ Below w.heap.size w w' := by
  have g8 : w.cell? ⟨8, 0, none⟩ = some (.iface 167 (.pointer (some (sa 8)))) := h.var 8 (by decide)
  have g8' : ∀ o, (w.alloc o).cell? ⟨8, 0, none⟩ = some (.iface 167 (.pointer (some (sa 8)))) := fun o => by
    rw [World.cell?_alloc_past _ _ _ (Sent.cell_lt g8)]; exact g8
  have hB : ∀ o, Sent.Errs kindG (w.alloc o) sa := fun o => h.below ((Below.refl _ _).alloc (Nat.le_refl _) _)
  have HB := Lib.hid hB
  clear hB
  go_enter Tryd.func3, Tryd.ntmps3
  go_wp2_with (first
    | (go_at_call_of 28 (Value.nilIface); (with_reducible refine (kind_nil _).mono ?_); rintro e w' ⟨rfl, rfl⟩)
    | (go_at_call 28; (with_reducible refine (kind_err 8 (by decide) sa _ (HB.out _)).mono ?_); rintro e w' ⟨rfl, rfl⟩)
    | go_in)
  all_goals go_ret
  all_goals exact ⟨rfl, by go_grown⟩
end Go.Proofs.YtkmdijnhepkamaaDoor
