/-
  (*constraint).check, by operator.
-/
import Derived.Test.YtnkdpgcfaelpkaaDoorCons
import Derived.Test.YtnkdpgcfaelpkaaDoorTermOp
namespace Go.Proofs.YtnkdpgcfaelpkaaDoor
open Go.RowKit
set_option maxRecDepth 100000
set_option linter.unusedVariables false

theorem check_6 (x y : V) (o o' : ByteArray) (N K M' : Nat) (di mi pa pre : Bool) (w : World) (I : Hid (CSt w w N K M' x y o o' ⟨#[126]⟩ di mi pa)) (GX : Hid x.pGood) (GY : Hid y.pGood) (zx : x.p.size ≤ 2147483647) (zy : y.p.size ≤ 2147483647) (r : Bool) (HR : Hid ((x.inl pre && tildeV x y mi pa) = r)) :
    Calls Tryd.prog 49 #[.pointer (some ⟨K, 0, none⟩), .pointer (some ⟨N, 0, none⟩), .bool pre] w fun e w' => (∃ ev, e = .returned (.tuple #[.bool r, ev])) ∧ Below w.heap.size w w' := by
  obtain ⟨k0, k1, k2, k3, k4, k5⟩ := I.out.cells
  go_enter Tryd.func49, Tryd.ntmps49
  go_wp2_with (go_at_call 61; (with_reducible refine (tilde_any x y o o' ⟨#[126]⟩ N K M' di mi pa pre _ I GX GY zx zy r HR).mono ?_); rintro e w' ⟨⟨ev, rfl⟩, hb⟩; have HB := Lib.hid hb; clear hb)
  refine bodyPost_ret (results_tmp2 rfl _ _ _) rfl ?_
  exact ⟨⟨_, rfl⟩, HB.out⟩

/-- what a check says, whatever the record's place -/
def Says (x y : V) (o s : ByteArray) (N M' : Nat) (di mi pa pre r : Bool) : Prop :=
  ∀ (K : Nat) (w : World), Hid (CSt w w N K M' x y o ⟨#[]⟩ s di mi pa) → Calls Tryd.prog 49 #[.pointer (some ⟨K, 0, none⟩), .pointer (some ⟨N, 0, none⟩), .bool pre] w fun e w' => (∃ ev, e = .returned (.tuple #[.bool r, ev])) ∧ Below w.heap.size w w'
theorem Says.at {x y : V} {o s : ByteArray} {N M' : Nat} {di mi pa pre r : Bool} (h : Says x y o s N M' di mi pa pre r) (K : Nat) (w : World) (hx : AtV w N x o) (hy : AtV w M' y ⟨#[]⟩) (hn : NumErrs w) (hk : w.heap[K]? = some (.cells #[.pointer (some ⟨M', 0, none⟩), .string ⟨#[]⟩, .string s, .bool mi, .bool di, .bool pa] 82 (0, 0))) :
    Calls Tryd.prog 49 #[.pointer (some ⟨K, 0, none⟩), .pointer (some ⟨N, 0, none⟩), .bool pre] w fun e w' => (∃ ev, e = .returned (.tuple #[.bool r, ev])) ∧ Below w.heap.size w w' :=
  h K w (Lib.hid ⟨hx, hy, hk, hn, Below.refl _ _⟩)
theorem zzCheck_any (x y : V) (o s : ByteArray) (N M' : Nat) (di mi pa pre r : Bool) (w : World) (hx : AtV w N x o) (hy : AtV w M' y ⟨#[]⟩) (hn : NumErrs w) (hs : Hid (Says x y o s N M' di mi pa pre r)) :
    Calls Tryd.prog 44 #[.agg #[.string s, .pointer (some ⟨M', 0, none⟩), .bool di, .bool mi, .bool pa], .pointer (some ⟨N, 0, none⟩), .bool pre] w fun e w' => (∃ ev, e = .returned (.tuple #[.bool r, ev])) ∧ Below w.heap.size w w' := by
  have HX := Lib.hid hx
  have HY := Lib.hid hy
  have HN := Lib.hid hn
  clear hx hy hn
  go_enter Tryd.func44, Tryd.ntmps44
  go_wp2_with (first
    | (go_at_call 48; (with_reducible refine (inner_exact s (some ⟨M', 0, none⟩) di mi pa _).mono ?_); rintro e w1 ⟨rfl, hw1⟩; have HB1 := Lib.hid (show Below w.heap.size w w1 by subst hw1; (repeat (first | exact Below.refl _ _ | apply Below.drew | (apply below_alloc_on (Nat.le_refl _))))); have HK1 := Lib.hid (show w1.heap[w.heap.size + 1 + 1]? = some (.cells #[.pointer (some ⟨M', 0, none⟩), .string ⟨#[]⟩, .string s, .bool mi, .bool di, .bool pa] 82 (0, 0)) by subst hw1; exact alloc_at _ _ _ (by simp)); clear hw1)
    | (go_at_call 49; (with_reducible refine (Says.at hs.out _ _ (HX.out.below HB1.out) (HY.out.below HB1.out) (HN.out.below HB1.out) (by first | exact HK1.out | simpa using HK1.out)).mono ?_); rintro e w2 ⟨⟨ev, rfl⟩, hb⟩; have HB2 := Lib.hid (Below.up HB1.out hb); clear hb))
  refine bodyPost_ret (results_tmp2 rfl _ _ _) rfl ?_
  exact ⟨⟨_, rfl⟩, HB2.out⟩
end Go.Proofs.YtnkdpgcfaelpkaaDoor
