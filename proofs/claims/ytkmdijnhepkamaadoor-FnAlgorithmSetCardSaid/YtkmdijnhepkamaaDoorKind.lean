/-
  impl.kind: nil is 0; each of the ten sentinels that it knows has its own number.
-/
import Derived.Test.YtkmdijnhepkamaaDoorIs
import Derived.Test.YtkmdijnhepkamaaDoorSent
import Derived.Below
import Derived.Deep.RegionWith
namespace Go.Proofs.YtkmdijnhepkamaaDoor
open Go.RowKit

/-- the ten sentinels that impl.kind asks for, in its order -/
def kindG : List Nat := [0, 1, 2, 3, 4, 5, 6, 7, 8, 9]

theorem kis {w : World} {sa : Nat → Addr} (h : Sent.Errs kindG w sa) (i j : Nat) (hi : i < 10) (hj : j < 10) :
    Calls Tryd.prog 53 #[.iface 167 (.pointer (some (sa i))), .iface 167 (.pointer (some (sa j)))] w fun e w' => e = .returned (.bool (i == j)) ∧ w' = w := h.is i j hi hj

def codeOf : Nat → Int
  | 0 => 1 | 1 => 2 | 2 => 3 | 3 => 3 | 4 => 4 | 5 => 5 | 6 => 6 | 7 => 7 | 8 => 8 | 9 => 9 | _ => 10

theorem kind_nil (w : World) : Calls Tryd.prog 28 #[.nilIface] w fun e w' => e = .returned (.int .i64 0) ∧ w' = w := by
  go_enter Tryd.func28, Tryd.ntmps28
  go_wp2
  go_ret
  exact ⟨rfl, rfl⟩

set_option maxHeartbeats 1000000 in
theorem kind_err (i : Nat) (hi : i < 10) (sa : Nat → Addr) (w : World) (h : Sent.Errs kindG w sa) :
    Calls Tryd.prog 28 #[.iface 167 (.pointer (some (sa i)))] w fun e w' => e = .returned (.int .i64 (codeOf i)) ∧ w' = w := by
  have g0 : w.cell? ⟨0, 0, none⟩ = some (.iface 167 (.pointer (some (sa 0)))) := h.var 0 (by decide)
  have g1 : w.cell? ⟨1, 0, none⟩ = some (.iface 167 (.pointer (some (sa 1)))) := h.var 1 (by decide)
  have g2 : w.cell? ⟨2, 0, none⟩ = some (.iface 167 (.pointer (some (sa 2)))) := h.var 2 (by decide)
  have g3 : w.cell? ⟨3, 0, none⟩ = some (.iface 167 (.pointer (some (sa 3)))) := h.var 3 (by decide)
  have g4 : w.cell? ⟨4, 0, none⟩ = some (.iface 167 (.pointer (some (sa 4)))) := h.var 4 (by decide)
  have g5 : w.cell? ⟨5, 0, none⟩ = some (.iface 167 (.pointer (some (sa 5)))) := h.var 5 (by decide)
  have g6 : w.cell? ⟨6, 0, none⟩ = some (.iface 167 (.pointer (some (sa 6)))) := h.var 6 (by decide)
  have g7 : w.cell? ⟨7, 0, none⟩ = some (.iface 167 (.pointer (some (sa 7)))) := h.var 7 (by decide)
  have g8 : w.cell? ⟨8, 0, none⟩ = some (.iface 167 (.pointer (some (sa 8)))) := h.var 8 (by decide)
  have g9 : w.cell? ⟨9, 0, none⟩ = some (.iface 167 (.pointer (some (sa 9)))) := h.var 9 (by decide)
  go_enter Tryd.func28, Tryd.ntmps28
  go_wp2_with ((go_at_call 53; (with_reducible refine (kis h i _ hi (by omega)).mono ?_); rintro e w' ⟨rfl, rfl⟩))
  all_goals
    go_ret
    refine ⟨?_, rfl⟩
    clear h g0 g1 g2 g3 g4 g5 g6 g7 g8 g9
    simp only [beq_iff_eq, beq_eq_false_iff_ne, ne_eq] at *
    first
      | (exfalso; omega)
      | (subst_vars; rfl)
end Go.Proofs.YtkmdijnhepkamaaDoor
