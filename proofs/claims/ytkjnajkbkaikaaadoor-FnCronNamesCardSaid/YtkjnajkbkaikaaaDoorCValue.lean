/-
  impl.CronValue: a number or a name of a field.
-/
import Derived.Test.YtkjnajkbkaikaaaDoorCTurn
namespace Go.Proofs.YtkjnajkbkaikaaaDoor
open Go.RowKit
set_option maxRecDepth 100000
set_option linter.unusedVariables false

theorem field_names (w : World) (x y : Int) (r : Option Nat) : (Instr.field 86 (.agg #[.int .u64 x, .int .u64 y, .map r]) 2).run Tryd.prog w = .ok (.map r) w := by kernel_rfl
theorem number_bad (n : Int) (t : TypeId) (v : Value) (w : World) : Calls Tryd.prog 32 #[.int .u64 n, .iface t v] w fun e w' => e = .returned (.tuple #[.int .u64 0, .bool false]) ∧ w = w' := by
  go_enter Tryd.func32, Tryd.ntmps32
  go_wp2
  go_ret2
  exact ⟨rfl, rfl⟩
theorem cronValue_some (k : Nat) (s : ByteArray) (n : Nat) (w : World) (hk : k ≤ 5) (hs : s.size ≤ 2147483647) (hn : NumErrs w) (ho : Hid (M.ion (M.bdOf k).nm (M.bs s) = some n)) :
    Calls Tryd.prog 31 #[.int .i64 (k : Int), .string s] w fun e w' => e = .returned (.tuple #[.int .u64 (n : Int), .bool true]) ∧ Below w.heap.size w w' := by
  have HN := Lib.hid hn
  have HZ : Hid (∀ w : World, NumErrs w → Calls Tryd.prog 47 #[.int .i64 (k : Int), .string s] w fun e w' => e = .returned (.tuple #[.int .u64 (n : Int), .nilIface]) ∧ Below w.heap.size w w') := Lib.hid (fun w hn => by
    have HN := Lib.hid hn
    clear hn
    have hf := field_names
    go_enter Tryd.func47, Tryd.ntmps47
    go_wp2_with (first
      | (go_at_call 51; (with_reducible refine (zzBounds_any k hk _).mono ?_); rintro e w1 ⟨v, rfl, hnm, hb⟩; obtain ⟨r, rfl⟩ := hnm.map; have HM := Lib.hid hnm; have HB := Lib.hid hb; clear hnm hb)
      | (go_at_call 57; (with_reducible refine (parseName_some s (.map r) (M.bdOf k).nm n _ hs (HN.out.below HB.out) HM.out ho).mono ?_); rintro e w2 ⟨rfl, hb⟩; have HB2 := Lib.hid (Below.up HB.out hb); clear hb))
    go_ret2
    exact ⟨rfl, HB2.out⟩)
  have hk2 : (k : Int) ≤ 5 := by omega
  have hk3 : (0 : Int) ≤ (k : Int) := by omega
  clear hn
  go_enter Tryd.func31, Tryd.ntmps31
  go_wp2_with (first
    | (go_at_call 47; (with_reducible refine (HZ.out _ HN.out).mono ?_); rintro e w1 ⟨rfl, hb⟩; have HB := Lib.hid hb; clear hb)
    | (go_at_call 32; (with_reducible refine (number_some n _).mono ?_); rintro e w2 ⟨rfl, rfl⟩))
  go_ret2
  exact ⟨rfl, HB.out⟩
theorem cronValue_none (k : Nat) (s : ByteArray) (w : World) (hk : k ≤ 5) (hs : s.size ≤ 2147483647) (hn : NumErrs w) (ho : Hid (M.ion (M.bdOf k).nm (M.bs s) = none)) :
    Calls Tryd.prog 31 #[.int .i64 (k : Int), .string s] w fun e w' => e = .returned (.tuple #[.int .u64 0, .bool false]) ∧ Below w.heap.size w w' := by
  have HN := Lib.hid hn
  have HZ : Hid (∀ w : World, NumErrs w → Calls Tryd.prog 47 #[.int .i64 (k : Int), .string s] w fun e w' => (∃ t u, e = .returned (.tuple #[.int .u64 0, .iface t u])) ∧ Below w.heap.size w w') := Lib.hid (fun w hn => by
    have HN := Lib.hid hn
    clear hn
    have hf := field_names
    go_enter Tryd.func47, Tryd.ntmps47
    go_wp2_with (first
      | (go_at_call 51; (with_reducible refine (zzBounds_any k hk _).mono ?_); rintro e w1 ⟨v, rfl, hnm, hb⟩; obtain ⟨r, rfl⟩ := hnm.map; have HM := Lib.hid hnm; have HB := Lib.hid hb; clear hnm hb)
      | (go_at_call 57; (with_reducible refine (parseName_none s (.map r) (M.bdOf k).nm _ hs (HN.out.below HB.out) HM.out ho).mono ?_); rintro e w2 ⟨⟨et, ev, rfl⟩, hb⟩; have HB2 := Lib.hid (Below.up HB.out hb); clear hb))
    go_ret2
    exact ⟨⟨_, _, rfl⟩, HB2.out⟩)
  have hk2 : (k : Int) ≤ 5 := by omega
  have hk3 : (0 : Int) ≤ (k : Int) := by omega
  clear hn
  go_enter Tryd.func31, Tryd.ntmps31
  go_wp2_with (first
    | (go_at_call 47; (with_reducible refine (HZ.out _ HN.out).mono ?_); rintro e w1 ⟨⟨et, ev, rfl⟩, hb⟩; have HB := Lib.hid hb; clear hb)
    | (go_at_call 32; (with_reducible refine (number_bad _ _ _ _).mono ?_); rintro e w2 ⟨rfl, rfl⟩))
  go_ret2
  exact ⟨rfl, HB.out⟩
namespace M
/-- the name of a value, in capital letters -/
def nameL : Nat → Nat → Bs
  | 4, 1 => [74, 65, 78] | 4, 2 => [70, 69, 66] | 4, 3 => [77, 65, 82] | 4, 4 => [65, 80, 82] | 4, 5 => [77, 65, 89] | 4, 6 => [74, 85, 78]
  | 4, 7 => [74, 85, 76] | 4, 8 => [65, 85, 71] | 4, 9 => [83, 69, 80] | 4, 10 => [79, 67, 84] | 4, 11 => [78, 79, 86] | 4, 12 => [68, 69, 67]
  | 5, 0 => [83, 85, 78] | 5, 1 => [77, 79, 78] | 5, 2 => [84, 85, 69] | 5, 3 => [87, 69, 68] | 5, 4 => [84, 72, 85] | 5, 5 => [70, 82, 73] | 5, 6 => [83, 65, 84]
  | _, _ => []
/-- a value with a name -/
def named (k v : Nat) : Prop := (k = 4 ∧ 1 ≤ v ∧ v ≤ 12) ∨ (k = 5 ∧ v ≤ 6)
theorem named_all {P : Nat → Nat → Prop} (h : ∀ kv ∈ [(4, 1), (4, 2), (4, 3), (4, 4), (4, 5), (4, 6), (4, 7), (4, 8), (4, 9), (4, 10), (4, 11), (4, 12), (5, 0), (5, 1), (5, 2), (5, 3), (5, 4), (5, 5), (5, 6)], P kv.1 kv.2) {k v : Nat} (hn : named k v) : P k v := by
  rcases hn with ⟨rfl, h1, h2⟩ | ⟨rfl, h2⟩
  · obtain rfl | rfl | rfl | rfl | rfl | rfl | rfl | rfl | rfl | rfl | rfl | rfl : v = 1 ∨ v = 2 ∨ v = 3 ∨ v = 4 ∨ v = 5 ∨ v = 6 ∨ v = 7 ∨ v = 8 ∨ v = 9 ∨ v = 10 ∨ v = 11 ∨ v = 12 := by omega
    all_goals exact h (_, _) (by decide)
  · obtain rfl | rfl | rfl | rfl | rfl | rfl | rfl : v = 0 ∨ v = 1 ∨ v = 2 ∨ v = 3 ∨ v = 4 ∨ v = 5 ∨ v = 6 := by omega
    all_goals exact h (_, _) (by decide)
/-- the names in small letters are looked up in their own field alone -/
theorem look_named {k v : Nat} (hn : named k v) : (lookT monT ((nameL k v).map low1) = if k = 4 then some v else none) ∧ (lookT dowT ((nameL k v).map low1) = if k = 5 then some v else none) ∧ (nameL k v).length = 3 ∧ ∀ c ∈ nameL k v, 65 ≤ c.toNat ∧ c.toNat ≤ 90 :=
  named_all (P := fun k v => (lookT monT ((nameL k v).map low1) = if k = 4 then some v else none) ∧ (lookT dowT ((nameL k v).map low1) = if k = 5 then some v else none) ∧ (nameL k v).length = 3 ∧ ∀ c ∈ nameL k v, 65 ≤ c.toNat ∧ c.toNat ≤ 90) (by decide) hn
theorem num_letter {c : UInt8} {r : Bs} (h : 65 ≤ c.toNat) : num (c :: r) = none := by
  apply num_bad
  have ho : opens (c :: r) = false := by
    show (c == 43 || (c == 45 && zeros r)) = false
    have a1 : (c == 43) = false := by rw [beq_eq_false_iff_ne]; intro e; rw [e] at h; exact absurd h (by decide)
    have a2 : (c == 45) = false := by rw [beq_eq_false_iff_ne]; intro e; rw [e] at h; exact absurd h (by decide)
    rw [a1, a2]; rfl
  have hd : digits (c :: r) = false := by
    have : isDig c = false := by
      cases hc : isDig c with
      | false => rfl
      | true => have := dig_iff.1 hc; omega
    simp only [digits, List.all_cons, this, Bool.false_and, Bool.and_false]
  unfold snum
  rw [ho]
  simp only [Bool.false_eq_true, if_false]
  rw [hd]
  rfl
/-- a name with some letters in small: its value in its own field, nothing in another -/
theorem ion_named {k v : Nat} (hn : named k v) {F : ByteArray} (hF : (bs F).map low1 = (nameL k v).map low1) (h65 : ∀ c ∈ bs F, 65 ≤ c.toNat ∧ c.toNat < 128) (j : Nat) (hj : j ≤ 5) : ion (bdOf j).nm (bs F) = if j = k then some v else none := by
  obtain ⟨h1, h2, h3, h4⟩ := look_named hn
  have hlow : lower F = (nameL k v).map low1 := by rw [lower_ascii F (fun c hc => (h65 c hc).2), hF]
  have hnum : num (bs F) = none := by
    have hl : (bs F).length = 3 := by
      have := congrArg List.length hF
      rw [List.length_map, List.length_map, h3] at this
      exact this
    cases hb : bs F with
    | nil => rw [hb] at hl; cases hl
    | cons c r => exact num_letter (h65 c (by rw [hb]; exact List.mem_cons_self)).1
  have hk : k = 4 ∨ k = 5 := by rcases hn with ⟨h, _⟩ | ⟨h, _⟩ <;> omega
  obtain rfl | rfl | rfl | rfl | rfl | rfl : j = 0 ∨ j = 1 ∨ j = 2 ∨ j = 3 ∨ j = 4 ∨ j = 5 := by omega
  · rw [if_neg (by omega)]; exact hnum
  · rw [if_neg (by omega)]; exact hnum
  · rw [if_neg (by omega)]; exact hnum
  · rw [if_neg (by omega)]; exact hnum
  · show (match nmOf monT (bs F) with | some v => some v | none => num (bs F)) = _
    rw [nmOf_bs, hlow, h1]
    rcases hk with rfl | rfl
    · rfl
    · exact hnum
  · show (match nmOf dowT (bs F) with | some v => some v | none => num (bs F)) = _
    rw [nmOf_bs, hlow, h2]
    rcases hk with rfl | rfl
    · exact hnum
    · rfl
end M
end Go.Proofs.YtkjnajkbkaikaaaDoor
