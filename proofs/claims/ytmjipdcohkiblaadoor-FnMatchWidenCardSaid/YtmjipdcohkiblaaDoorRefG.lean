/-
  The reference's side: spec.RefFamiliarize, RefFamiliar, RefText, RefTells; laws.refShort, laws.zzFits7.
-/
import Derived.Test.YtmjipdcohkiblaaDoorRefF
namespace Go.Proofs.YtmjipdcohkiblaaDoor
open Go.RowKit
set_option maxRecDepth 100000
set_option linter.unusedVariables false

/-- sizes of a law's reference -/
def R.sum (x : R) : Nat := x.d.size + x.p.size + x.t.size + x.g.size
theorem famD_le (d : ByteArray) : (famD d).size ≤ d.size := by
  unfold famD
  split
  · exact Nat.zero_le _
  · exact Nat.le_refl _
theorem famPath_le (d p : ByteArray) : (famPath d p).size ≤ p.size := by
  unfold famPath famP
  split
  · split
    · rw [ByteArray.size_extract]; omega
    · exact Nat.le_refl _
  · exact Nat.le_refl _
def R.Fits (x : R) : Prop := x.d.size ≤ 2147483647 ∧ x.p.size ≤ 2147483647 ∧ x.t.size ≤ 2147483647 ∧ x.g.size ≤ 2147483647
/-- is it short, and has it a path if it has a domain? -/
def R.short (x : R) : Bool := decide (x.sum ≤ 65536 ∧ (x.p.size ≠ 0 ∨ x.d.size = 0))
/-- is there nothing to tell? -/
def R.none (x : R) : Bool := decide (x.p.size = 0 ∧ x.g.size = 0)
def TellRes (x : R) (w : World) (e : Ending) (w' : World) : Prop := (∃ n : Nat, e = .returned (.int .i64 (n : Int)) ∧ (n = 0 ↔ x.none = true)) ∧ Below w.heap.size w w'
end Go.Proofs.YtmjipdcohkiblaaDoor
