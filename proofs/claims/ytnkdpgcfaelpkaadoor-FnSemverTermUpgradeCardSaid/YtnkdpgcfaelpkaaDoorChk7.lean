/-
  (*constraint).check at the operator ^.
-/
import Derived.Test.YtnkdpgcfaelpkaaDoorChk
import Derived.Test.YtnkdpgcfaelpkaaDoorCaret
namespace Go.Proofs.YtnkdpgcfaelpkaaDoor
open Go.RowKit
set_option maxRecDepth 100000
set_option linter.unusedVariables false

theorem check_7 (x y : V) (o o' : ByteArray) (N K M' : Nat) (di mi pa pre : Bool) (w : World) (I : Hid (CSt w w N K M' x y o o' ⟨#[94]⟩ di mi pa)) (GX : Hid x.pGood) (GY : Hid y.pGood) (zx : x.p.size ≤ 2147483647) (zy : y.p.size ≤ 2147483647) (r : Bool) (HR : Hid ((x.inl pre && caretV x y mi pa) = r)) :
    Calls Tryd.prog 49 #[.pointer (some ⟨K, 0, none⟩), .pointer (some ⟨N, 0, none⟩), .bool pre] w fun e w' => (∃ ev, e = .returned (.tuple #[.bool r, ev])) ∧ Below w.heap.size w w' := by
  obtain ⟨k0, k1, k2, k3, k4, k5⟩ := I.out.cells
  go_enter Tryd.func49, Tryd.ntmps49
  go_wp2_with (go_at_call 62; (with_reducible refine (caret_any x y o o' ⟨#[94]⟩ N K M' di mi pa pre _ I GX GY zx zy r HR).mono ?_); rintro e w' ⟨⟨ev, rfl⟩, hb⟩; have HB := Lib.hid hb; clear hb)
  refine bodyPost_ret (results_tmp2 rfl _ _ _) rfl ?_
  exact ⟨⟨_, rfl⟩, HB.out⟩

end Go.Proofs.YtnkdpgcfaelpkaaDoor
