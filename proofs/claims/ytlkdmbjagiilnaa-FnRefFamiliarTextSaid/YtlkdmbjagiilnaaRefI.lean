/-
  The program's side joined: getBestReferenceType, ZZRef, impl.ref, FamiliarString, impl.RefFamiliarText.
-/
import Derived.Test.YtlkdmbjagiilnaaRefH
namespace Go.Proofs.Ytlkdmbjagiilnaa
open Go.RowKit
set_option maxRecDepth 100000
set_option linter.unusedVariables false

theorem name_pos {d p : ByteArray} (hp : p.size ≠ 0) : (refName d p).size ≠ 0 := by
  unfold refName
  split
  · exact hp
  · rw [ByteArray.size_append]; omega
set_option maxHeartbeats 2000000 in
theorem best_dig (d p t g : ByteArray) (w : World) (hz : d.size + p.size ≤ 1099511627776) (hp : p.size = 0) (hd : d.size = 0) (hg : g.size ≠ 0) :
    Calls Try.prog 29 #[.agg #[.iface 60 (.agg #[.string d, .string p]), .string t, .string g]] w fun e w' => e = .returned (.iface 69 (.string g)) ∧ Below w.heap.size w w' := by
  have hn : (refName d p).size = 0 := by unfold refName; rw [if_pos hd]; exact hp
  have e_n := empty_true hn
  have e_g := empty_false hg
  clear hn hp hd hg
  obtain ⟨nm, hnm⟩ : ∃ n, refName d p = n := ⟨_, rfl⟩
  have HC : Hid (∀ w : World, Calls Try.prog 74 #[.agg #[.string d, .string p]] w fun e w' => e = .returned (.string nm) ∧ Below w.heap.size w w') := Lib.hid (fun w => by have := name_any d p w hz; rw [hnm] at this; exact this)
  rw [hnm] at e_n
  clear hnm hz
  have HBX := Lib.hid (fun (w1 : World) (hb : Below (w.alloc (.cells #[.iface 60 (.agg #[.string d, .string p]), .string t, .string g] 65)).heap.size (w.alloc (.cells #[.iface 60 (.agg #[.string d, .string p]), .string t, .string g] 65)) w1) => heap_below hb (alloc_at w (.cells #[.iface 60 (.agg #[.string d, .string p]), .string t, .string g] 65) _ rfl))
  go_enter Try.func29, Try.ntmps29
  go_wp2_with (go_at_call 74; (with_reducible refine (HC.out _).mono ?_); rintro e w1 ⟨rfl, hb⟩; have hx := HBX.out _ hb; have c0 := row_cell hx 0 (.iface 60 (.agg #[.string d, .string p])) rfl; have c1 := row_cell hx 1 (.string t) rfl; have c2 := row_cell hx 2 (.string g) rfl; have HB1 := Lib.hid hb; clear hb hx)
  go_ret
  exact ⟨rfl, Below.up (below_alloc _ _) HB1.out⟩
set_option maxHeartbeats 2000000 in
theorem best_can (d p t g : ByteArray) (w : World) (hz : d.size + p.size ≤ 1099511627776) (hp : p.size ≠ 0) (ht : t.size = 0) (hg : g.size ≠ 0) :
    Calls Try.prog 29 #[.agg #[.iface 60 (.agg #[.string d, .string p]), .string t, .string g]] w fun e w' => e = .returned (.iface 71 (.agg #[.iface 60 (.agg #[.string d, .string p]), .string g])) ∧ Below w.heap.size w w' := by
  have e_n := empty_false (name_pos (d := d) hp)
  have e_t := empty_true ht
  have e_g := empty_false hg
  clear hp ht hg
  obtain ⟨nm, hnm⟩ : ∃ n, refName d p = n := ⟨_, rfl⟩
  have HC : Hid (∀ w : World, Calls Try.prog 74 #[.agg #[.string d, .string p]] w fun e w' => e = .returned (.string nm) ∧ Below w.heap.size w w') := Lib.hid (fun w => by have := name_any d p w hz; rw [hnm] at this; exact this)
  rw [hnm] at e_n
  clear hnm hz
  have HBX := Lib.hid (fun (w1 : World) (hb : Below (w.alloc (.cells #[.iface 60 (.agg #[.string d, .string p]), .string t, .string g] 65)).heap.size (w.alloc (.cells #[.iface 60 (.agg #[.string d, .string p]), .string t, .string g] 65)) w1) => heap_below hb (alloc_at w (.cells #[.iface 60 (.agg #[.string d, .string p]), .string t, .string g] 65) _ rfl))
  go_enter Try.func29, Try.ntmps29
  go_wp2_with (go_at_call 74; (with_reducible refine (HC.out _).mono ?_); rintro e w1 ⟨rfl, hb⟩; have hx := HBX.out _ hb; have c0 := row_cell hx 0 (.iface 60 (.agg #[.string d, .string p])) rfl; have c1 := row_cell hx 1 (.string t) rfl; have c2 := row_cell hx 2 (.string g) rfl; have HB1 := Lib.hid hb; clear hb hx)
  go_ret
  exact ⟨rfl, Below.up (below_alloc _ _) HB1.out⟩
set_option maxHeartbeats 2000000 in
theorem best_rep (d p t g : ByteArray) (w : World) (hz : d.size + p.size ≤ 1099511627776) (hp : p.size ≠ 0) (ht : t.size = 0) (hg : g.size = 0) :
    Calls Try.prog 29 #[.agg #[.iface 60 (.agg #[.string d, .string p]), .string t, .string g]] w fun e w' => e = .returned (.iface 60 (.agg #[.string d, .string p])) ∧ Below w.heap.size w w' := by
  have e_n := empty_false (name_pos (d := d) hp)
  have e_t := empty_true ht
  have e_g := empty_true hg
  clear hp ht hg
  obtain ⟨nm, hnm⟩ : ∃ n, refName d p = n := ⟨_, rfl⟩
  have HC : Hid (∀ w : World, Calls Try.prog 74 #[.agg #[.string d, .string p]] w fun e w' => e = .returned (.string nm) ∧ Below w.heap.size w w') := Lib.hid (fun w => by have := name_any d p w hz; rw [hnm] at this; exact this)
  rw [hnm] at e_n
  clear hnm hz
  have HBX := Lib.hid (fun (w1 : World) (hb : Below (w.alloc (.cells #[.iface 60 (.agg #[.string d, .string p]), .string t, .string g] 65)).heap.size (w.alloc (.cells #[.iface 60 (.agg #[.string d, .string p]), .string t, .string g] 65)) w1) => heap_below hb (alloc_at w (.cells #[.iface 60 (.agg #[.string d, .string p]), .string t, .string g] 65) _ rfl))
  go_enter Try.func29, Try.ntmps29
  go_wp2_with (go_at_call 74; (with_reducible refine (HC.out _).mono ?_); rintro e w1 ⟨rfl, hb⟩; have hx := HBX.out _ hb; have c0 := row_cell hx 0 (.iface 60 (.agg #[.string d, .string p])) rfl; have c1 := row_cell hx 1 (.string t) rfl; have c2 := row_cell hx 2 (.string g) rfl; have HB1 := Lib.hid hb; clear hb hx)
  go_ret
  exact ⟨rfl, Below.up (below_alloc _ _) HB1.out⟩
set_option maxHeartbeats 2000000 in
theorem best_tag (d p t g : ByteArray) (w : World) (hz : d.size + p.size ≤ 1099511627776) (hp : p.size ≠ 0) (ht : t.size ≠ 0) (hg : g.size = 0) :
    Calls Try.prog 29 #[.agg #[.iface 60 (.agg #[.string d, .string p]), .string t, .string g]] w fun e w' => e = .returned (.iface 73 (.agg #[.iface 60 (.agg #[.string d, .string p]), .string t])) ∧ Below w.heap.size w w' := by
  have e_n := empty_false (name_pos (d := d) hp)
  have e_t := empty_false ht
  have e_g := empty_true hg
  clear hp ht hg
  obtain ⟨nm, hnm⟩ : ∃ n, refName d p = n := ⟨_, rfl⟩
  have HC : Hid (∀ w : World, Calls Try.prog 74 #[.agg #[.string d, .string p]] w fun e w' => e = .returned (.string nm) ∧ Below w.heap.size w w') := Lib.hid (fun w => by have := name_any d p w hz; rw [hnm] at this; exact this)
  rw [hnm] at e_n
  clear hnm hz
  have HBX := Lib.hid (fun (w1 : World) (hb : Below (w.alloc (.cells #[.iface 60 (.agg #[.string d, .string p]), .string t, .string g] 65)).heap.size (w.alloc (.cells #[.iface 60 (.agg #[.string d, .string p]), .string t, .string g] 65)) w1) => heap_below hb (alloc_at w (.cells #[.iface 60 (.agg #[.string d, .string p]), .string t, .string g] 65) _ rfl))
  go_enter Try.func29, Try.ntmps29
  go_wp2_with (go_at_call 74; (with_reducible refine (HC.out _).mono ?_); rintro e w1 ⟨rfl, hb⟩; have hx := HBX.out _ hb; have c0 := row_cell hx 0 (.iface 60 (.agg #[.string d, .string p])) rfl; have c1 := row_cell hx 1 (.string t) rfl; have c2 := row_cell hx 2 (.string g) rfl; have HB1 := Lib.hid hb; clear hb hx)
  go_ret
  exact ⟨rfl, Below.up (below_alloc _ _) HB1.out⟩
set_option maxHeartbeats 2000000 in
theorem best_ref (d p t g : ByteArray) (w : World) (hz : d.size + p.size ≤ 1099511627776) (hp : p.size ≠ 0) (ht : t.size ≠ 0) (hg : g.size ≠ 0) :
    Calls Try.prog 29 #[.agg #[.iface 60 (.agg #[.string d, .string p]), .string t, .string g]] w fun e w' => e = .returned (.iface 65 (.agg #[.iface 60 (.agg #[.string d, .string p]), .string t, .string g])) ∧ Below w.heap.size w w' := by
  have e_n := empty_false (name_pos (d := d) hp)
  have e_t := empty_false ht
  have e_g := empty_false hg
  clear hp ht hg
  obtain ⟨nm, hnm⟩ : ∃ n, refName d p = n := ⟨_, rfl⟩
  have HC : Hid (∀ w : World, Calls Try.prog 74 #[.agg #[.string d, .string p]] w fun e w' => e = .returned (.string nm) ∧ Below w.heap.size w w') := Lib.hid (fun w => by have := name_any d p w hz; rw [hnm] at this; exact this)
  rw [hnm] at e_n
  clear hnm hz
  have HBX := Lib.hid (fun (w1 : World) (hb : Below (w.alloc (.cells #[.iface 60 (.agg #[.string d, .string p]), .string t, .string g] 65)).heap.size (w.alloc (.cells #[.iface 60 (.agg #[.string d, .string p]), .string t, .string g] 65)) w1) => heap_below hb (alloc_at w (.cells #[.iface 60 (.agg #[.string d, .string p]), .string t, .string g] 65) _ rfl))
  go_enter Try.func29, Try.ntmps29
  go_wp2_with (go_at_call 74; (with_reducible refine (HC.out _).mono ?_); rintro e w1 ⟨rfl, hb⟩; have hx := HBX.out _ hb; have c0 := row_cell hx 0 (.iface 60 (.agg #[.string d, .string p])) rfl; have c1 := row_cell hx 1 (.string t) rfl; have c2 := row_cell hx 2 (.string g) rfl; have HB1 := Lib.hid hb; clear hb hx)
  go_ret
  exact ⟨rfl, Below.up (below_alloc _ _) HB1.out⟩
theorem famString_dig (g : ByteArray) (w : World) : Calls Try.prog 15 #[.iface 69 (.string g)] w fun e w' => e = .returned (.string g) ∧ Below w.heap.size w w' := by
  have ta := fun w => run_typeAssert_lacksB (P := Try.prog) (z := .nilIface) (t := 69) (asserted := 44) Try.underlying44 (by kernel_rfl) (by kernel_rfl) (.string g) 34 w
  go_enter Try.func15, Try.ntmps15
  go_wp2_with (go_at_call 87; (with_reducible refine (drString_any g _).mono ?_); rintro e w1 ⟨rfl, rfl⟩)
  go_ret
  exact ⟨rfl, Below.refl _ _⟩
theorem famString_rep (d p : ByteArray) (w : World) (hz : d.size + p.size ≤ 65536) : Calls Try.prog 15 #[.iface 60 (.agg #[.string d, .string p])] w fun e w' => e = .returned (.string (refName (famD d) (famPath d p))) ∧ Below w.heap.size w w' := by
  have ta := fun w => run_typeAssert_hasB (P := Try.prog) (t := 60) (asserted := 44) Try.underlying44 (by kernel_rfl) (.agg #[.string d, .string p]) 34 w
  have h1 := famD_le d
  have h2 := famPath_le d p
  have HP := Lib.hid (show p.size ≤ 2147483647 by omega)
  have HZ := Lib.hid (show (famD d).size + (famPath d p).size ≤ 1099511627776 by omega)
  clear h1 h2 hz
  go_enter Try.func15, Try.ntmps15
  go_wp2_with (first
    | (go_at_call 73; (with_reducible refine (repoFamiliar_any d p _ HP.out).mono ?_); rintro e w1 ⟨rfl, hb⟩; have HB1 := Lib.hid hb; clear hb)
    | (go_at_call 75; (with_reducible refine (repoString_any (famD d) (famPath d p) _ HZ.out).mono ?_); rintro e w2 ⟨rfl, hb⟩; have HB2 := Lib.hid (Below.up HB1.out hb); clear hb))
  go_ret
  exact ⟨rfl, HB2.out⟩
theorem famString_can (d p g : ByteArray) (w : World) (hz : d.size + p.size + g.size ≤ 65536) : Calls Try.prog 15 #[.iface 71 (.agg #[.iface 60 (.agg #[.string d, .string p]), .string g])] w fun e w' => e = .returned (.string (refName (famD d) (famPath d p) ++ ⟨#[64]⟩ ++ g)) ∧ Below w.heap.size w w' := by
  have ta := fun w => run_typeAssert_hasB (P := Try.prog) (t := 71) (asserted := 44) Try.underlying44 (by kernel_rfl) (.agg #[.iface 60 (.agg #[.string d, .string p]), .string g]) 34 w
  have h1 := famD_le d
  have h2 := famPath_le d p
  have HP := Lib.hid (show p.size ≤ 2147483647 by omega)
  have HZ := Lib.hid (show (famD d).size + (famPath d p).size + g.size ≤ 1099511627776 by omega)
  clear h1 h2 hz
  go_enter Try.func15, Try.ntmps15
  go_wp2_with (first
    | (go_at_call 88; (with_reducible refine (canFamiliar_any d p g _ HP.out).mono ?_); rintro e w1 ⟨rfl, hb⟩; have HB1 := Lib.hid hb; clear hb)
    | (go_at_call 89; (with_reducible refine (canString_any (famD d) (famPath d p) g _ HZ.out).mono ?_); rintro e w2 ⟨rfl, hb⟩; have HB2 := Lib.hid (Below.up HB1.out hb); clear hb))
  go_ret
  exact ⟨rfl, HB2.out⟩
theorem famString_tag (d p t : ByteArray) (w : World) (hz : d.size + p.size + t.size ≤ 65536) : Calls Try.prog 15 #[.iface 73 (.agg #[.iface 60 (.agg #[.string d, .string p]), .string t])] w fun e w' => e = .returned (.string (refName (famD d) (famPath d p) ++ ⟨#[58]⟩ ++ t)) ∧ Below w.heap.size w w' := by
  have ta := fun w => run_typeAssert_hasB (P := Try.prog) (t := 73) (asserted := 44) Try.underlying44 (by kernel_rfl) (.agg #[.iface 60 (.agg #[.string d, .string p]), .string t]) 34 w
  have h1 := famD_le d
  have h2 := famPath_le d p
  have HP := Lib.hid (show p.size ≤ 2147483647 by omega)
  have HZ := Lib.hid (show (famD d).size + (famPath d p).size + t.size ≤ 1099511627776 by omega)
  clear h1 h2 hz
  go_enter Try.func15, Try.ntmps15
  go_wp2_with (first
    | (go_at_call 90; (with_reducible refine (tagFamiliar_any d p t _ HP.out).mono ?_); rintro e w1 ⟨rfl, hb⟩; have HB1 := Lib.hid hb; clear hb)
    | (go_at_call 91; (with_reducible refine (tagString_any (famD d) (famPath d p) t _ HZ.out).mono ?_); rintro e w2 ⟨rfl, hb⟩; have HB2 := Lib.hid (Below.up HB1.out hb); clear hb))
  go_ret
  exact ⟨rfl, HB2.out⟩
theorem famString_ref (d p t g : ByteArray) (w : World) (hz : d.size + p.size + t.size + g.size ≤ 65536) : Calls Try.prog 15 #[.iface 65 (.agg #[.iface 60 (.agg #[.string d, .string p]), .string t, .string g])] w fun e w' => e = .returned (.string (refName (famD d) (famPath d p) ++ ⟨#[58]⟩ ++ t ++ ⟨#[64]⟩ ++ g)) ∧ Below w.heap.size w w' := by
  have ta := fun w => run_typeAssert_hasB (P := Try.prog) (t := 65) (asserted := 44) Try.underlying44 (by kernel_rfl) (.agg #[.iface 60 (.agg #[.string d, .string p]), .string t, .string g]) 34 w
  have h1 := famD_le d
  have h2 := famPath_le d p
  have HP := Lib.hid (show p.size ≤ 2147483647 by omega)
  have HZ := Lib.hid (show (famD d).size + (famPath d p).size + t.size + g.size ≤ 1099511627776 by omega)
  clear h1 h2 hz
  go_enter Try.func15, Try.ntmps15
  go_wp2_with (first
    | (go_at_call 85; (with_reducible refine (refFamiliar_any d p t g _ HP.out).mono ?_); rintro e w1 ⟨rfl, hb⟩; have HB1 := Lib.hid hb; clear hb)
    | (go_at_call 86; (with_reducible refine (refString_any (famD d) (famPath d p) t g _ HZ.out).mono ?_); rintro e w2 ⟨rfl, hb⟩; have HB2 := Lib.hid (Below.up HB1.out hb); clear hb))
  go_ret
  exact ⟨rfl, HB2.out⟩
/-- impl.RefFamiliarText, of a kind that is known -/
theorem implText (x : R) (T : TypeId) (v : Value) (z : ByteArray) (w : World)
    (HBEST : Hid (∀ w : World, Calls Try.prog 29 #[.agg #[.iface 60 (.agg #[.string x.d, .string x.p]), .string x.t, .string x.g]] w fun e w' => e = .returned (.iface T v) ∧ Below w.heap.size w w'))
    (HFAM : Hid (∀ w : World, Calls Try.prog 15 #[.iface T v] w fun e w' => e = .returned (.string z) ∧ Below w.heap.size w w')) :
    Calls Try.prog 9 #[.agg #[.string x.d, .string x.p, .string x.t, .string x.g]] w fun e w' => e = .returned (.string z) ∧ Below w.heap.size w w' := by
  have HZZ : Hid (∀ w : World, Calls Try.prog 21 #[.string x.d, .string x.p, .string x.t, .string x.g] w fun e w' => e = .returned (.iface T v) ∧ Below w.heap.size w w') := Lib.hid (fun w => by
    go_enter Try.func21, Try.ntmps21
    go_wp2_with (go_at_call 29; (with_reducible refine (HBEST.out _).mono ?_); rintro e w1 ⟨rfl, hb⟩; have HB1 := Lib.hid hb; clear hb)
    go_ret
    exact ⟨rfl, HB1.out⟩)
  have HREF : Hid (∀ w : World, Calls Try.prog 14 #[.agg #[.string x.d, .string x.p, .string x.t, .string x.g]] w fun e w' => e = .returned (.iface T v) ∧ Below w.heap.size w w') := Lib.hid (fun w => by
    go_enter Try.func14, Try.ntmps14
    go_wp2_with (go_at_call 21; (with_reducible refine (HZZ.out _).mono ?_); rintro e w1 ⟨rfl, hb⟩; have HB1 := Lib.hid hb; clear hb)
    go_ret
    exact ⟨rfl, Below.up (below_alloc _ _) HB1.out⟩)
  go_enter Try.func9, Try.ntmps9
  go_wp2_with (first
    | (go_at_call 14; (with_reducible refine (HREF.out _).mono ?_); rintro e w1 ⟨rfl, hb⟩; have HB1 := Lib.hid (Below.up (below_alloc _ _) hb); clear hb)
    | (go_at_call 15; (with_reducible refine (HFAM.out _).mono ?_); rintro e w2 ⟨rfl, hb⟩; have HB2 := Lib.hid (Below.up HB1.out hb); clear hb))
  go_ret
  exact ⟨rfl, HB2.out⟩
theorem app3 (a b c : ByteArray) : a ++ b ++ c = a ++ (b ++ c) := by
  apply ByteArray.ext
  simp [Array.append_assoc]
/-- what impl.RefFamiliarText says is the text under the familiar name -/
theorem famText_any (x : R) (w : World) (hz : x.sum ≤ 65536) (hs : x.p.size ≠ 0 ∨ x.d.size = 0) (hn : ¬ (x.p.size = 0 ∧ x.g.size = 0)) (hf : x.p.size ≠ 0 → (famPath x.d x.p).size ≠ 0) :
    Calls Try.prog 9 #[.agg #[.string x.d, .string x.p, .string x.t, .string x.g]] w fun e w' => e = .returned (.string (refText (famD x.d) (famPath x.d x.p) x.t x.g)) ∧ Below w.heap.size w w' := by
  unfold R.sum at hz
  by_cases hp : x.p.size = 0
  · have hd : x.d.size = 0 := hs.resolve_left (fun q => q hp)
    have hg : x.g.size ≠ 0 := fun q => hn ⟨hp, q⟩
    have hh : M.bs x.d ≠ M.bs hubB := by rw [(size_bs x.d).1 hd]; decide
    have e : refText (famD x.d) (famPath x.d x.p) x.t x.g = x.g := by
      unfold refText
      rw [(fam_out hh x.p).2, if_pos hp]
    rw [e]
    exact implText x _ _ _ w (Lib.hid (fun w => best_dig x.d x.p x.t x.g w (by omega) hp hd hg)) (Lib.hid (fun w => famString_dig x.g w))
  · have hfp := hf hp
    by_cases ht : x.t.size = 0
    · by_cases hg : x.g.size = 0
      · have e : refText (famD x.d) (famPath x.d x.p) x.t x.g = refName (famD x.d) (famPath x.d x.p) := by unfold refText; rw [if_neg hfp, if_pos ht, if_pos hg]
        rw [e]
        exact implText x _ _ _ w (Lib.hid (fun w => best_rep x.d x.p x.t x.g w (by omega) hp ht hg)) (Lib.hid (fun w => famString_rep x.d x.p w (by omega)))
      · have e : refText (famD x.d) (famPath x.d x.p) x.t x.g = refName (famD x.d) (famPath x.d x.p) ++ ⟨#[64]⟩ ++ x.g := by unfold refText; rw [if_neg hfp, if_pos ht, if_neg hg, app3]
        rw [e]
        exact implText x _ _ _ w (Lib.hid (fun w => best_can x.d x.p x.t x.g w (by omega) hp ht hg)) (Lib.hid (fun w => famString_can x.d x.p x.g w (by omega)))
    · by_cases hg : x.g.size = 0
      · have e : refText (famD x.d) (famPath x.d x.p) x.t x.g = refName (famD x.d) (famPath x.d x.p) ++ ⟨#[58]⟩ ++ x.t := by unfold refText; rw [if_neg hfp, if_neg ht, if_pos hg, app3]
        rw [e]
        exact implText x _ _ _ w (Lib.hid (fun w => best_tag x.d x.p x.t x.g w (by omega) hp ht hg)) (Lib.hid (fun w => famString_tag x.d x.p x.t w (by omega)))
      · have e : refText (famD x.d) (famPath x.d x.p) x.t x.g = refName (famD x.d) (famPath x.d x.p) ++ ⟨#[58]⟩ ++ x.t ++ ⟨#[64]⟩ ++ x.g := by unfold refText; rw [if_neg hfp, if_neg ht, if_neg hg, app3, app3, app3, app3, app3]
        rw [e]
        exact implText x _ _ _ w (Lib.hid (fun w => best_ref x.d x.p x.t x.g w (by omega) hp ht hg)) (Lib.hid (fun w => famString_ref x.d x.p x.t x.g w (by omega)))
end Go.Proofs.Ytlkdmbjagiilnaa
