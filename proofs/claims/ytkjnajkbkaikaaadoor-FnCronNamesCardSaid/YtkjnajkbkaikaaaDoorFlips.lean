/-
  A parameter that is a list of bools: opened.
-/
import Derived.Test.YtkjnajkbkaikaaaDoorCFlip
import Derived.Deep.Grids
import Derived.Carry
import Derived.WalkKit
import Derived.OpenShut
namespace Go.Proofs.YtkjnajkbkaikaaaDoor
open Go.ChangeShapes Go.WideShapes Go.RowKit Go.Deep
set_option maxRecDepth 100000
set_option linter.unusedVariables false

theorem laidOut : laidOutB Tryd.prog = true := by kernel_rfl
theorem bool_one : Tryd.prog.cellsOf 4 = 1 := by kernel_rfl
theorem spot_none {w : World} {a : Addr} {v : Value} (h : w.cell? a = some v) : ∃ b o, a = ⟨b, o, none⟩ ∧ b < w.heap.size := by
  obtain ⟨b, o, s⟩ := a
  unfold World.cell? at h
  split at h
  · rename_i hb
    cases s with
    | none => exact ⟨b, o, rfl, (Array.getElem?_eq_some_iff.1 hb).1⟩
    | some _ => simp at h
  · cases h
section
variable {H : Type} {enc : TypeId × Value → H} {w : World} {base b0 : Nat} {held : Bool} {r : Reach} {v : Value} {dd : DataW H} {p : List MemPlace}
theorem open_flips (hv : Value.okWide Tryd.prog w r b0 57 v) (h : DataW.Trod enc Tryd.prog w base (fun _ => true) held 57 v dd p) : ∃ L : List Bool, ReadB w v L := by
  obtain ⟨a, len, cap, rfl⟩ := okWide_slice Tryd.underlying57 hv
  obtain ⟨fuel, hf⟩ := h
  rcases open_bools Tryd.underlying57 Tryd.underlying4 bool_one hf with ⟨hcs, hx⟩ | ⟨a', len', cap', B, hcs, hb, hl, hm, hx, hi⟩
  · have he : Value.slice a len cap = .slice none 0 0 := by simpa [Value.cells] using hcs
    rw [he]
    exact ⟨[], none, 0, rfl, fun i hi => absurd hi (by simp)⟩
  · have he : Value.slice a len cap = .slice (some a') len' cap' := by simpa [Value.cells] using hcs
    rw [he]
    refine ⟨(List.range len').map B, some a', cap', by simp, fun i hi' => ?_⟩
    have hi2 : i < len' := by simpa using hi'
    have h0 := hi 0 (by omega)
    have h1 := hi i (by omega)
    have e0 : a'.add 0 = a' := by simp [Addr.add]
    rw [e0] at h0
    obtain ⟨b, o, rfl, hbl⟩ := spot_none h0
    refine ⟨b, o, rfl, hbl, ?_⟩
    have e3 : (⟨b, o, none⟩ : Addr).add i = ⟨b, o + i, none⟩ := by
      unfold Addr.add
      split
      · rename_i h; subst h; rfl
      · rfl
    rw [e3] at h1
    rw [h1]
    simp
end
end Go.Proofs.YtkjnajkbkaikaaaDoor
