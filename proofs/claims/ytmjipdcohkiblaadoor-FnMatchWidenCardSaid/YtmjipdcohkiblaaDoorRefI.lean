/-
  The program's side joined: getBestReferenceType, ZZRef, impl.ref, FamiliarString, impl.RefFamiliarText.
-/
import Derived.Test.YtmjipdcohkiblaaDoorRefH
namespace Go.Proofs.YtmjipdcohkiblaaDoor
open Go.RowKit
set_option maxRecDepth 100000
set_option linter.unusedVariables false

theorem name_pos {d p : ByteArray} (hp : p.size ≠ 0) : (refName d p).size ≠ 0 := by
  unfold refName
  split
  · exact hp
  · rw [ByteArray.size_append]; omega
set_option maxHeartbeats 2000000 in
theorem best_dig (d p t g : ByteArray) (w : World) (hz : d.size + p.size ≤ 1099511627776) (hp : p.size = 0) (hd : d.size = 0) (hg : g.size ≠ 0) :
    Calls Tryd.prog 15 #[.agg #[.iface 49 (.agg #[.string d, .string p]), .string t, .string g]] w fun e w' => e = .returned (.iface 65 (.string g)) ∧ Below w.heap.size w w' := by
  have hn : (refName d p).size = 0 := by unfold refName; rw [if_pos hd]; exact hp
  have e_n := empty_true hn
  have e_g := empty_false hg
  clear hn hp hd hg
  obtain ⟨nm, hnm⟩ : ∃ n, refName d p = n := ⟨_, rfl⟩
  have HC : Hid (∀ w : World, Calls Tryd.prog 39 #[.agg #[.string d, .string p]] w fun e w' => e = .returned (.string nm) ∧ Below w.heap.size w w') := Lib.hid (fun w => by have := name_any d p w hz; rw [hnm] at this; exact this)
  rw [hnm] at e_n
  clear hnm hz
  have HBX := Lib.hid (fun (w1 : World) (hb : Below (w.alloc (.cells #[.iface 49 (.agg #[.string d, .string p]), .string t, .string g] 54)).heap.size (w.alloc (.cells #[.iface 49 (.agg #[.string d, .string p]), .string t, .string g] 54)) w1) => heap_below hb (alloc_at w (.cells #[.iface 49 (.agg #[.string d, .string p]), .string t, .string g] 54) _ rfl))
  go_enter Tryd.func15, Tryd.ntmps15
  go_wp2_with (go_at_call 39; (with_reducible refine (HC.out _).mono ?_); rintro e w1 ⟨rfl, hb⟩; have hx := HBX.out _ hb; have c0 := row_cell hx 0 (.iface 49 (.agg #[.string d, .string p])) rfl; have c1 := row_cell hx 1 (.string t) rfl; have c2 := row_cell hx 2 (.string g) rfl; have HB1 := Lib.hid hb; clear hb hx)
  go_ret
  exact ⟨rfl, Below.up (below_alloc _ _) HB1.out⟩
set_option maxHeartbeats 2000000 in
theorem best_can (d p t g : ByteArray) (w : World) (hz : d.size + p.size ≤ 1099511627776) (hp : p.size ≠ 0) (ht : t.size = 0) (hg : g.size ≠ 0) :
    Calls Tryd.prog 15 #[.agg #[.iface 49 (.agg #[.string d, .string p]), .string t, .string g]] w fun e w' => e = .returned (.iface 67 (.agg #[.iface 49 (.agg #[.string d, .string p]), .string g])) ∧ Below w.heap.size w w' := by
  have e_n := empty_false (name_pos (d := d) hp)
  have e_t := empty_true ht
  have e_g := empty_false hg
  clear hp ht hg
  obtain ⟨nm, hnm⟩ : ∃ n, refName d p = n := ⟨_, rfl⟩
  have HC : Hid (∀ w : World, Calls Tryd.prog 39 #[.agg #[.string d, .string p]] w fun e w' => e = .returned (.string nm) ∧ Below w.heap.size w w') := Lib.hid (fun w => by have := name_any d p w hz; rw [hnm] at this; exact this)
  rw [hnm] at e_n
  clear hnm hz
  have HBX := Lib.hid (fun (w1 : World) (hb : Below (w.alloc (.cells #[.iface 49 (.agg #[.string d, .string p]), .string t, .string g] 54)).heap.size (w.alloc (.cells #[.iface 49 (.agg #[.string d, .string p]), .string t, .string g] 54)) w1) => heap_below hb (alloc_at w (.cells #[.iface 49 (.agg #[.string d, .string p]), .string t, .string g] 54) _ rfl))
  go_enter Tryd.func15, Tryd.ntmps15
  go_wp2_with (go_at_call 39; (with_reducible refine (HC.out _).mono ?_); rintro e w1 ⟨rfl, hb⟩; have hx := HBX.out _ hb; have c0 := row_cell hx 0 (.iface 49 (.agg #[.string d, .string p])) rfl; have c1 := row_cell hx 1 (.string t) rfl; have c2 := row_cell hx 2 (.string g) rfl; have HB1 := Lib.hid hb; clear hb hx)
  go_ret
  exact ⟨rfl, Below.up (below_alloc _ _) HB1.out⟩
set_option maxHeartbeats 2000000 in
theorem best_rep (d p t g : ByteArray) (w : World) (hz : d.size + p.size ≤ 1099511627776) (hp : p.size ≠ 0) (ht : t.size = 0) (hg : g.size = 0) :
    Calls Tryd.prog 15 #[.agg #[.iface 49 (.agg #[.string d, .string p]), .string t, .string g]] w fun e w' => e = .returned (.iface 49 (.agg #[.string d, .string p])) ∧ Below w.heap.size w w' := by
  have e_n := empty_false (name_pos (d := d) hp)
  have e_t := empty_true ht
  have e_g := empty_true hg
  clear hp ht hg
  obtain ⟨nm, hnm⟩ : ∃ n, refName d p = n := ⟨_, rfl⟩
  have HC : Hid (∀ w : World, Calls Tryd.prog 39 #[.agg #[.string d, .string p]] w fun e w' => e = .returned (.string nm) ∧ Below w.heap.size w w') := Lib.hid (fun w => by have := name_any d p w hz; rw [hnm] at this; exact this)
  rw [hnm] at e_n
  clear hnm hz
  have HBX := Lib.hid (fun (w1 : World) (hb : Below (w.alloc (.cells #[.iface 49 (.agg #[.string d, .string p]), .string t, .string g] 54)).heap.size (w.alloc (.cells #[.iface 49 (.agg #[.string d, .string p]), .string t, .string g] 54)) w1) => heap_below hb (alloc_at w (.cells #[.iface 49 (.agg #[.string d, .string p]), .string t, .string g] 54) _ rfl))
  go_enter Tryd.func15, Tryd.ntmps15
  go_wp2_with (go_at_call 39; (with_reducible refine (HC.out _).mono ?_); rintro e w1 ⟨rfl, hb⟩; have hx := HBX.out _ hb; have c0 := row_cell hx 0 (.iface 49 (.agg #[.string d, .string p])) rfl; have c1 := row_cell hx 1 (.string t) rfl; have c2 := row_cell hx 2 (.string g) rfl; have HB1 := Lib.hid hb; clear hb hx)
  go_ret
  exact ⟨rfl, Below.up (below_alloc _ _) HB1.out⟩
set_option maxHeartbeats 2000000 in
theorem best_tag (d p t g : ByteArray) (w : World) (hz : d.size + p.size ≤ 1099511627776) (hp : p.size ≠ 0) (ht : t.size ≠ 0) (hg : g.size = 0) :
    Calls Tryd.prog 15 #[.agg #[.iface 49 (.agg #[.string d, .string p]), .string t, .string g]] w fun e w' => e = .returned (.iface 69 (.agg #[.iface 49 (.agg #[.string d, .string p]), .string t])) ∧ Below w.heap.size w w' := by
  have e_n := empty_false (name_pos (d := d) hp)
  have e_t := empty_false ht
  have e_g := empty_true hg
  clear hp ht hg
  obtain ⟨nm, hnm⟩ : ∃ n, refName d p = n := ⟨_, rfl⟩
  have HC : Hid (∀ w : World, Calls Tryd.prog 39 #[.agg #[.string d, .string p]] w fun e w' => e = .returned (.string nm) ∧ Below w.heap.size w w') := Lib.hid (fun w => by have := name_any d p w hz; rw [hnm] at this; exact this)
  rw [hnm] at e_n
  clear hnm hz
  have HBX := Lib.hid (fun (w1 : World) (hb : Below (w.alloc (.cells #[.iface 49 (.agg #[.string d, .string p]), .string t, .string g] 54)).heap.size (w.alloc (.cells #[.iface 49 (.agg #[.string d, .string p]), .string t, .string g] 54)) w1) => heap_below hb (alloc_at w (.cells #[.iface 49 (.agg #[.string d, .string p]), .string t, .string g] 54) _ rfl))
  go_enter Tryd.func15, Tryd.ntmps15
  go_wp2_with (go_at_call 39; (with_reducible refine (HC.out _).mono ?_); rintro e w1 ⟨rfl, hb⟩; have hx := HBX.out _ hb; have c0 := row_cell hx 0 (.iface 49 (.agg #[.string d, .string p])) rfl; have c1 := row_cell hx 1 (.string t) rfl; have c2 := row_cell hx 2 (.string g) rfl; have HB1 := Lib.hid hb; clear hb hx)
  go_ret
  exact ⟨rfl, Below.up (below_alloc _ _) HB1.out⟩
set_option maxHeartbeats 2000000 in
theorem best_ref (d p t g : ByteArray) (w : World) (hz : d.size + p.size ≤ 1099511627776) (hp : p.size ≠ 0) (ht : t.size ≠ 0) (hg : g.size ≠ 0) :
    Calls Tryd.prog 15 #[.agg #[.iface 49 (.agg #[.string d, .string p]), .string t, .string g]] w fun e w' => e = .returned (.iface 54 (.agg #[.iface 49 (.agg #[.string d, .string p]), .string t, .string g])) ∧ Below w.heap.size w w' := by
  have e_n := empty_false (name_pos (d := d) hp)
  have e_t := empty_false ht
  have e_g := empty_false hg
  clear hp ht hg
  obtain ⟨nm, hnm⟩ : ∃ n, refName d p = n := ⟨_, rfl⟩
  have HC : Hid (∀ w : World, Calls Tryd.prog 39 #[.agg #[.string d, .string p]] w fun e w' => e = .returned (.string nm) ∧ Below w.heap.size w w') := Lib.hid (fun w => by have := name_any d p w hz; rw [hnm] at this; exact this)
  rw [hnm] at e_n
  clear hnm hz
  have HBX := Lib.hid (fun (w1 : World) (hb : Below (w.alloc (.cells #[.iface 49 (.agg #[.string d, .string p]), .string t, .string g] 54)).heap.size (w.alloc (.cells #[.iface 49 (.agg #[.string d, .string p]), .string t, .string g] 54)) w1) => heap_below hb (alloc_at w (.cells #[.iface 49 (.agg #[.string d, .string p]), .string t, .string g] 54) _ rfl))
  go_enter Tryd.func15, Tryd.ntmps15
  go_wp2_with (go_at_call 39; (with_reducible refine (HC.out _).mono ?_); rintro e w1 ⟨rfl, hb⟩; have hx := HBX.out _ hb; have c0 := row_cell hx 0 (.iface 49 (.agg #[.string d, .string p])) rfl; have c1 := row_cell hx 1 (.string t) rfl; have c2 := row_cell hx 2 (.string g) rfl; have HB1 := Lib.hid hb; clear hb hx)
  go_ret
  exact ⟨rfl, Below.up (below_alloc _ _) HB1.out⟩
theorem famString_dig (g : ByteArray) (w : World) : Calls Tryd.prog 13 #[.iface 65 (.string g)] w fun e w' => e = .returned (.string g) ∧ Below w.heap.size w w' := by
  have ta := fun w => run_typeAssert_lacksB (P := Tryd.prog) (z := .nilIface) (t := 65) (asserted := 61) Tryd.underlying61 (by kernel_rfl) (by kernel_rfl) (.string g) 34 w
  go_enter Tryd.func13, Tryd.ntmps13
  go_wp2_with (go_at_call 52; (with_reducible refine (drString_any g _).mono ?_); rintro e w1 ⟨rfl, rfl⟩)
  go_ret
  exact ⟨rfl, Below.refl _ _⟩
theorem famString_rep (d p : ByteArray) (w : World) (hz : d.size + p.size ≤ 65536) : Calls Tryd.prog 13 #[.iface 49 (.agg #[.string d, .string p])] w fun e w' => e = .returned (.string (refName (famD d) (famPath d p))) ∧ Below w.heap.size w w' := by
  have ta := fun w => run_typeAssert_hasB (P := Tryd.prog) (t := 49) (asserted := 61) Tryd.underlying61 (by kernel_rfl) (.agg #[.string d, .string p]) 34 w
  have h1 := famD_le d
  have h2 := famPath_le d p
  have HP := Lib.hid (show p.size ≤ 2147483647 by omega)
  have HZ := Lib.hid (show (famD d).size + (famPath d p).size ≤ 1099511627776 by omega)
  clear h1 h2 hz
  go_enter Tryd.func13, Tryd.ntmps13
  go_wp2_with (first
    | (go_at_call 38; (with_reducible refine (repoFamiliar_any d p _ HP.out).mono ?_); rintro e w1 ⟨rfl, hb⟩; have HB1 := Lib.hid hb; clear hb)
    | (go_at_call 40; (with_reducible refine (repoString_any (famD d) (famPath d p) _ HZ.out).mono ?_); rintro e w2 ⟨rfl, hb⟩; have HB2 := Lib.hid (Below.up HB1.out hb); clear hb))
  go_ret
  exact ⟨rfl, HB2.out⟩
theorem famString_can (d p g : ByteArray) (w : World) (hz : d.size + p.size + g.size ≤ 65536) : Calls Tryd.prog 13 #[.iface 67 (.agg #[.iface 49 (.agg #[.string d, .string p]), .string g])] w fun e w' => e = .returned (.string (refName (famD d) (famPath d p) ++ ⟨#[64]⟩ ++ g)) ∧ Below w.heap.size w w' := by
  have ta := fun w => run_typeAssert_hasB (P := Tryd.prog) (t := 67) (asserted := 61) Tryd.underlying61 (by kernel_rfl) (.agg #[.iface 49 (.agg #[.string d, .string p]), .string g]) 34 w
  have h1 := famD_le d
  have h2 := famPath_le d p
  have HP := Lib.hid (show p.size ≤ 2147483647 by omega)
  have HZ := Lib.hid (show (famD d).size + (famPath d p).size + g.size ≤ 1099511627776 by omega)
  clear h1 h2 hz
  go_enter Tryd.func13, Tryd.ntmps13
  go_wp2_with (first
    | (go_at_call 53; (with_reducible refine (canFamiliar_any d p g _ HP.out).mono ?_); rintro e w1 ⟨rfl, hb⟩; have HB1 := Lib.hid hb; clear hb)
    | (go_at_call 54; (with_reducible refine (canString_any (famD d) (famPath d p) g _ HZ.out).mono ?_); rintro e w2 ⟨rfl, hb⟩; have HB2 := Lib.hid (Below.up HB1.out hb); clear hb))
  go_ret
  exact ⟨rfl, HB2.out⟩
theorem famString_tag (d p t : ByteArray) (w : World) (hz : d.size + p.size + t.size ≤ 65536) : Calls Tryd.prog 13 #[.iface 69 (.agg #[.iface 49 (.agg #[.string d, .string p]), .string t])] w fun e w' => e = .returned (.string (refName (famD d) (famPath d p) ++ ⟨#[58]⟩ ++ t)) ∧ Below w.heap.size w w' := by
  have ta := fun w => run_typeAssert_hasB (P := Tryd.prog) (t := 69) (asserted := 61) Tryd.underlying61 (by kernel_rfl) (.agg #[.iface 49 (.agg #[.string d, .string p]), .string t]) 34 w
  have h1 := famD_le d
  have h2 := famPath_le d p
  have HP := Lib.hid (show p.size ≤ 2147483647 by omega)
  have HZ := Lib.hid (show (famD d).size + (famPath d p).size + t.size ≤ 1099511627776 by omega)
  clear h1 h2 hz
  go_enter Tryd.func13, Tryd.ntmps13
  go_wp2_with (first
    | (go_at_call 55; (with_reducible refine (tagFamiliar_any d p t _ HP.out).mono ?_); rintro e w1 ⟨rfl, hb⟩; have HB1 := Lib.hid hb; clear hb)
    | (go_at_call 56; (with_reducible refine (tagString_any (famD d) (famPath d p) t _ HZ.out).mono ?_); rintro e w2 ⟨rfl, hb⟩; have HB2 := Lib.hid (Below.up HB1.out hb); clear hb))
  go_ret
  exact ⟨rfl, HB2.out⟩
theorem famString_ref (d p t g : ByteArray) (w : World) (hz : d.size + p.size + t.size + g.size ≤ 65536) : Calls Tryd.prog 13 #[.iface 54 (.agg #[.iface 49 (.agg #[.string d, .string p]), .string t, .string g])] w fun e w' => e = .returned (.string (refName (famD d) (famPath d p) ++ ⟨#[58]⟩ ++ t ++ ⟨#[64]⟩ ++ g)) ∧ Below w.heap.size w w' := by
  have ta := fun w => run_typeAssert_hasB (P := Tryd.prog) (t := 54) (asserted := 61) Tryd.underlying61 (by kernel_rfl) (.agg #[.iface 49 (.agg #[.string d, .string p]), .string t, .string g]) 34 w
  have h1 := famD_le d
  have h2 := famPath_le d p
  have HP := Lib.hid (show p.size ≤ 2147483647 by omega)
  have HZ := Lib.hid (show (famD d).size + (famPath d p).size + t.size + g.size ≤ 1099511627776 by omega)
  clear h1 h2 hz
  go_enter Tryd.func13, Tryd.ntmps13
  go_wp2_with (first
    | (go_at_call 50; (with_reducible refine (refFamiliar_any d p t g _ HP.out).mono ?_); rintro e w1 ⟨rfl, hb⟩; have HB1 := Lib.hid hb; clear hb)
    | (go_at_call 51; (with_reducible refine (refString_any (famD d) (famPath d p) t g _ HZ.out).mono ?_); rintro e w2 ⟨rfl, hb⟩; have HB2 := Lib.hid (Below.up HB1.out hb); clear hb))
  go_ret
  exact ⟨rfl, HB2.out⟩
theorem app3 (a b c : ByteArray) : a ++ b ++ c = a ++ (b ++ c) := by
  apply ByteArray.ext
  simp [Array.append_assoc]
end Go.Proofs.YtmjipdcohkiblaaDoor
