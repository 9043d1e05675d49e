/-
  spec.tildeNumbers, spec.caretNumbers, spec.Spoken.
-/
import Derived.Test.YtagmdhinbkponaaDoorIncLaw
import Derived.Test.YtagmdhinbkponaaDoorFits
import Derived.Test.YtagmdhinbkponaaDoorComp
namespace Go.Proofs.YtagmdhinbkponaaDoor
open Go.RowKit
set_option maxRecDepth 100000
set_option linter.unusedVariables false

theorem tilde_any2 (op g : Int) (a b c : Nat) (p : ByteArray) (w : World) (hg : g = 0 ∨ g = 1 ∨ g = 2 ∨ g = 3) (k : Int) (hk : Hid (k = min 2 g)) :
    Calls Tryd.prog 80 #[.agg #[.int .i64 op, .int .i64 g, .int .u64 a, .int .u64 b, .int .u64 c, .string p]] w fun e w' => e = .returned (.int .i64 k) ∧ Below w.heap.size w w' := by
  obtain rfl := hk.out
  clear hk
  rcases hg with rfl | rfl | rfl | rfl
  all_goals
    go_enter Tryd.func80, Tryd.ntmps80
    go_wp2
    go_ret
    exact ⟨rfl, below_alloc _ _⟩
theorem caretN_cases (op g : Int) (a b c : Nat) (p : ByteArray) : (a ≠ 0 ∧ T.caretN ⟨op, g, a, b, c, p⟩ = 1) ∨ (a = 0 ∧ b ≠ 0 ∧ T.caretN ⟨op, g, a, b, c, p⟩ = 2) ∨ (a = 0 ∧ b = 0 ∧ c ≠ 0 ∧ T.caretN ⟨op, g, a, b, c, p⟩ = 3) ∨ (a = 0 ∧ b = 0 ∧ c = 0 ∧ T.caretN ⟨op, g, a, b, c, p⟩ = g.toNat) := by
  unfold T.caretN
  by_cases ha : a = 0 <;> by_cases hb : b = 0 <;> by_cases hc : c = 0 <;> simp [ha, hb, hc]
def CN (k g : Int) (a b c : Nat) : Prop := (a ≠ 0 → k = 1) ∧ (a = 0 → b ≠ 0 → k = 2) ∧ (a = 0 → b = 0 → c ≠ 0 → k = 3) ∧ (a = 0 → b = 0 → c = 0 → k = g)
def ZN (j a b c : Nat) : Prop := (1 ≤ j → a = 0) ∧ (2 ≤ j → b = 0) ∧ (3 ≤ j → c = 0)
theorem caretN_cn (op g : Int) (a b c : Nat) (p : ByteArray) (hg : 0 ≤ g) : CN (T.caretN ⟨op, g, a, b, c, p⟩) g a b c := by
  rcases caretN_cases op g a b c p with ⟨h, k⟩ | ⟨h, h2, k⟩ | ⟨h, h2, h3, k⟩ | ⟨h, h2, h3, k⟩ <;> rw [k] <;> refine ⟨?_, ?_, ?_, ?_⟩ <;> intros <;> omega
theorem nz {a : Nat} (h : ((a : Int) != 0) = true) : a ≠ 0 := by simpa using h
theorem ez {a : Nat} (h : ((a : Int) != 0) = false) : a = 0 := by simpa using h
set_option maxHeartbeats 2000000 in
theorem caret_any2 (op g : Int) (a b c : Nat) (p : ByteArray) (w : World) (hg : 0 ≤ g) (k : Int) (hk : Hid (k = T.caretN ⟨op, g, a, b, c, p⟩)) :
    Calls Tryd.prog 81 #[.agg #[.int .i64 op, .int .i64 g, .int .u64 a, .int .u64 b, .int .u64 c, .string p]] w fun e w' => e = .returned (.int .i64 k) ∧ Below w.heap.size w w' := by
  have HC : Hid (CN k g a b c) := Lib.hid (by rw [hk.out]; exact caretN_cn op g a b c p hg)
  clear hg hk
  go_enter Tryd.func81, Tryd.ntmps81
  go_wp2
  go_loopw [13] (fun i wr => ∃ j : Nat, j ≤ 3 ∧ i = .int .i64 j ∧ Hid (ZN j a b c) ∧ wr = (w.alloc (.cells #[.int .i64 op, .int .i64 g, .int .u64 a, .int .u64 b, .int .u64 c, .string p] 24)).alloc (.cells #[.int .u64 a, .int .u64 b, .int .u64 c] 22)) (fun i _ => 3 - (intOf i).toNat)
  case atStart => exact ⟨0, by omega, rfl, Lib.hid ⟨fun h => by omega, fun h => by omega, fun h => by omega⟩, rfl⟩
  case round =>
    obtain ⟨j, hj, rfl, HZ, rfl⟩ := hrel
    obtain rfl | rfl | rfl | rfl : j = 0 ∨ j = 1 ∨ j = 2 ∨ j = 3 := by omega
    · go_wp2
      all_goals rename_i h
      all_goals first
        | (exact ⟨⟨1, by omega, rfl, Lib.hid ⟨fun _ => ez h, fun h => by omega, fun h => by omega⟩, trivial⟩, by decide⟩)
        | (go_ret; exact ⟨ret_int (HC.out.1 (nz h)).symm, by (repeat (first | exact Below.refl _ _ | apply Below.drew | (apply below_alloc_on (Nat.le_refl _))))⟩)
    · go_wp2
      all_goals rename_i h
      all_goals first
        | (exact ⟨⟨2, by omega, rfl, Lib.hid ⟨fun _ => HZ.out.1 (by omega), fun _ => ez h, fun h => by omega⟩, trivial⟩, by decide⟩)
        | (go_ret; exact ⟨ret_int (HC.out.2.1 (HZ.out.1 (by omega)) (nz h)).symm, by (repeat (first | exact Below.refl _ _ | apply Below.drew | (apply below_alloc_on (Nat.le_refl _))))⟩)
    · go_wp2
      all_goals rename_i h
      all_goals first
        | (exact ⟨⟨3, by omega, rfl, Lib.hid ⟨fun _ => HZ.out.1 (by omega), fun _ => HZ.out.2.1 (by omega), fun _ => ez h⟩, trivial⟩, by decide⟩)
        | (go_ret; exact ⟨ret_int (HC.out.2.2.1 (HZ.out.1 (by omega)) (HZ.out.2.1 (by omega)) (nz h)).symm, by (repeat (first | exact Below.refl _ _ | apply Below.drew | (apply below_alloc_on (Nat.le_refl _))))⟩)
    · go_wp2
      go_ret
      exact ⟨ret_int (HC.out.2.2.2 (HZ.out.1 (by omega)) (HZ.out.2.1 (by omega)) (HZ.out.2.2 (by omega))).symm, by (repeat (first | exact Below.refl _ _ | apply Below.drew | (apply below_alloc_on (Nat.le_refl _))))⟩
theorem spNum_a (x : V) (i : Int) (w : World) :
    Calls Tryd.prog 15 #[.agg #[.int .u64 x.a, .int .u64 x.b, .int .u64 x.c, .string x.p, .string x.m], .agg #[.int .u64 (IntKind.u64.wrap i), .int .u64 0, .int .u64 0, .string ⟨#[]⟩, .string ⟨#[]⟩], .int .i64 3] w fun e w' => (∃ n, e = .returned (.int .i64 n)) ∧ Below w.heap.size w w' := by
  have h : IntKind.u64.wrap i = ((IntKind.u64.wrap i).toNat : Int) := by
    simp [IntKind.wrap, IntKind.bits, IntKind.signed]
    omega
  rw [h]
  exact (specNumbers_k x ⟨(IntKind.u64.wrap i).toNat, 0, 0, ⟨#[]⟩, ⟨#[]⟩⟩ 3 w (by decide)).mono fun e w' ⟨h, b⟩ => ⟨⟨_, h⟩, b⟩
theorem spNum_b (x : V) (a : Nat) (i : Int) (w : World) :
    Calls Tryd.prog 15 #[.agg #[.int .u64 x.a, .int .u64 x.b, .int .u64 x.c, .string x.p, .string x.m], .agg #[.int .u64 a, .int .u64 (IntKind.u64.wrap i), .int .u64 0, .string ⟨#[]⟩, .string ⟨#[]⟩], .int .i64 3] w fun e w' => (∃ n, e = .returned (.int .i64 n)) ∧ Below w.heap.size w w' := by
  have h : IntKind.u64.wrap i = ((IntKind.u64.wrap i).toNat : Int) := by
    simp [IntKind.wrap, IntKind.bits, IntKind.signed]
    omega
  rw [h]
  exact (specNumbers_k x ⟨a, (IntKind.u64.wrap i).toNat, 0, ⟨#[]⟩, ⟨#[]⟩⟩ 3 w (by decide)).mono fun e w' ⟨h, b⟩ => ⟨⟨_, h⟩, b⟩
theorem spoken_any (op g : Int) (a b c : Nat) (p : ByteArray) (x : V) (w : World) :
    Calls Tryd.prog 47 #[.agg #[.int .i64 op, .int .i64 g, .int .u64 a, .int .u64 b, .int .u64 c, .string p], .agg #[.int .u64 x.a, .int .u64 x.b, .int .u64 x.c, .string x.p, .string x.m]] w fun e w' => (∃ s, e = .returned (.bool s)) ∧ Below w.heap.size w w' := by
  go_enter Tryd.func47, Tryd.ntmps47
  go_wp2_with (first
    | (go_at_call 15; (with_reducible refine (spNum_a x _ _).mono ?_); rintro e w' ⟨⟨n, rfl⟩, hb⟩; have HB := Lib.hid (Below.up (w := w) (by (repeat (first | exact Below.refl _ _ | apply Below.drew | (apply below_alloc_on (Nat.le_refl _))))) hb); clear hb)
    | (go_at_call 15; (with_reducible refine (spNum_b x _ _ _).mono ?_); rintro e w' ⟨⟨n, rfl⟩, hb⟩; have HB := Lib.hid (Below.up (w := w) (by (repeat (first | exact Below.refl _ _ | apply Below.drew | (apply below_alloc_on (Nat.le_refl _))))) hb); clear hb))
  all_goals
    go_ret
    refine ⟨⟨_, rfl⟩, ?_⟩
    first
      | exact HB.out
      | (repeat (first | exact Below.refl _ _ | apply Below.drew | (apply below_alloc_on (Nat.le_refl _))))
end Go.Proofs.YtagmdhinbkponaaDoor
