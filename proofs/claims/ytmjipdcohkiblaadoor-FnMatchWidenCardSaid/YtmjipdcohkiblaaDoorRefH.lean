/-
  The program's side: the kinds of references, their familiar forms and their texts.
-/
import Derived.Test.YtmjipdcohkiblaaDoorRefG
import Derived.Deep.RegionHeld3
namespace Go.Proofs.YtmjipdcohkiblaaDoor
open Go.RowKit
set_option maxRecDepth 100000
set_option linter.unusedVariables false

theorem cell_keep {w w1 : World} {a : Addr} {v : Value} (hb : Below w.heap.size w w1) (h : w.cell? a = some v) : w1.cell? a = some v := (hb.cell (World.block_lt_of_cell? w a h)).trans h
theorem dgString_any (g : ByteArray) (w : World) : Calls Tryd.prog 49 #[.string g] w fun e w' => e = .returned (.string g) ∧ w = w' := by
  go_enter Tryd.func49, Tryd.ntmps49
  go_wp2
  go_ret
  exact ⟨rfl, rfl⟩
theorem drString_any (g : ByteArray) (w : World) : Calls Tryd.prog 52 #[.string g] w fun e w' => e = .returned (.string g) ∧ w = w' := by
  go_enter Tryd.func52, Tryd.ntmps52
  go_wp2_with (go_at_call 49; (with_reducible refine (dgString_any g _).mono ?_); rintro e w1 ⟨rfl, rfl⟩)
  go_ret
  exact ⟨rfl, rfl⟩
theorem repoString_any (d p : ByteArray) (w : World) (hz : d.size + p.size ≤ 1099511627776) : Calls Tryd.prog 40 #[.agg #[.string d, .string p]] w fun e w' => e = .returned (.string (refName d p)) ∧ Below w.heap.size w w' := by
  go_enter Tryd.func40, Tryd.ntmps40
  go_wp2_with (go_at_call 39; (with_reducible refine (name_any d p _ hz).mono ?_); rintro e w1 ⟨rfl, hb⟩; have HB1 := Lib.hid hb; clear hb)
  go_ret
  exact ⟨rfl, Below.up (below_alloc _ _) HB1.out⟩
theorem repoFamiliar_any (d p : ByteArray) (w : World) (hp : p.size ≤ 2147483647) : Calls Tryd.prog 38 #[.agg #[.string d, .string p]] w fun e w' => e = .returned (.iface 49 (.agg #[.string (famD d), .string (famPath d p)])) ∧ Below w.heap.size w w' := by
  go_enter Tryd.func38, Tryd.ntmps38
  go_wp2_with (go_at_call 41; (with_reducible refine (familiarize_any d p _ hp).mono ?_); rintro e w1 ⟨rfl, hb⟩; have HB1 := Lib.hid hb; clear hb)
  go_ret
  exact ⟨rfl, Below.up (below_alloc _ _) HB1.out⟩
/-! the three kinds with a tag or a digest -/
set_option maxHeartbeats 4000000 in
theorem tagString_any (d p t : ByteArray) (w : World) (hz : d.size + p.size + t.size ≤ 1099511627776) :
    Calls Tryd.prog 56 #[.agg #[.iface 49 (.agg #[.string d, .string p]), .string t]] w fun e w' => e = .returned (.string (refName d p ++ ⟨#[58]⟩ ++ t)) ∧ Below w.heap.size w w' := by
  have hname : (refName d p).size ≤ 1099511627777 := by
    unfold refName
    split
    · omega
    · rw [ByteArray.size_append, ByteArray.size_append]; show _ + 1 + _ ≤ _; omega
  obtain ⟨nm, hnm⟩ : ∃ n, refName d p = n := ⟨_, rfl⟩
  have HC : Hid (∀ w : World, Calls Tryd.prog 39 #[.agg #[.string d, .string p]] w fun e w' => e = .returned (.string nm) ∧ Below w.heap.size w w') := Lib.hid (fun w => by have := name_any d p w (by omega); rw [hnm] at this; exact this)
  rw [hnm] at hname ⊢
  have a0 := add_ok (a := nm) (b := ⟨#[58]⟩) (by show _ + 1 ≤ _; omega)
  have a1 := add_ok (a := nm ++ ⟨#[58]⟩) (b := t) (by rw [ByteArray.size_append]; show _ + 1 + _ ≤ _; omega)
  clear hname hnm hz
  go_enter Tryd.func56, Tryd.ntmps56
  go_upto_region 1 with fail
  have hx := alloc_at w (.cells #[.iface 49 (.agg #[.string d, .string p]), .string t] 69) _ rfl
  have c0 := row_cell hx 0 (.iface 49 (.agg #[.string d, .string p])) rfl
  have c1 := row_cell hx 1 (.string t) rfl
  have HB0 := Lib.hid (below_alloc w (.cells #[.iface 49 (.agg #[.string d, .string p]), .string t] 69))
  obtain ⟨N, hN⟩ : ∃ n, w.heap.size = n := ⟨_, rfl⟩
  generalize hW : (w.alloc (.cells #[.iface 49 (.agg #[.string d, .string p]), .string t] 69)) = W at *
  rw [hN] at c0 c1 ⊢
  clear hx hW hN
  go_region_with (first
    | (go_at_call 39; (with_reducible refine (HC.out _).mono ?_); rintro e w1 ⟨rfl, hb⟩; have HB1 := Lib.hid (Below.up HB0.out (Below.up (Below.refl _ _).drew hb)); have k0 := (Below.up (Below.refl _ _).drew hb : Below W.heap.size W w1); have d0 := cell_keep k0 c0; have d1 := cell_keep k0 c1; clear hb k0)
    | fail)
  all_goals
    go_wp2
    go_ret
    exact ⟨rfl, HB1.out⟩
set_option maxHeartbeats 4000000 in
theorem tagFamiliar_any (d p t : ByteArray) (w : World) (hp : p.size ≤ 2147483647) :
    Calls Tryd.prog 55 #[.agg #[.iface 49 (.agg #[.string d, .string p]), .string t]] w fun e w' => e = .returned (.iface 69 (.agg #[.iface 49 (.agg #[.string (famD d), .string (famPath d p)]), .string t])) ∧ Below w.heap.size w w' := by
  go_enter Tryd.func55, Tryd.ntmps55
  go_upto_region 1 with fail
  have hx := alloc_at w (.cells #[.iface 49 (.agg #[.string d, .string p]), .string t] 69) _ rfl
  have c0 := row_cell hx 0 (.iface 49 (.agg #[.string d, .string p])) rfl
  have c1 := row_cell hx 1 (.string t) rfl
  have HB0 := Lib.hid (below_alloc w (.cells #[.iface 49 (.agg #[.string d, .string p]), .string t] 69))
  obtain ⟨N, hN⟩ : ∃ n, w.heap.size = n := ⟨_, rfl⟩
  generalize hW : (w.alloc (.cells #[.iface 49 (.agg #[.string d, .string p]), .string t] 69)) = W at *
  rw [hN] at c0 c1 ⊢
  clear hx hW hN
  go_region_with (first
    | (go_at_call 41; (with_reducible refine (familiarize_any d p _ hp).mono ?_); rintro e w1 ⟨rfl, hb⟩; have HB1 := Lib.hid (Below.up HB0.out (Below.up (Below.refl _ _).drew hb)); have k0 := (Below.up (Below.refl _ _).drew hb : Below W.heap.size W w1); have d0 := cell_keep k0 c0; have d1 := cell_keep k0 c1; clear hb k0)
    | fail)
  all_goals
    go_wp2
    go_ret
    exact ⟨rfl, HB1.out⟩
set_option maxHeartbeats 4000000 in
theorem canString_any (d p g : ByteArray) (w : World) (hz : d.size + p.size + g.size ≤ 1099511627776) :
    Calls Tryd.prog 54 #[.agg #[.iface 49 (.agg #[.string d, .string p]), .string g]] w fun e w' => e = .returned (.string (refName d p ++ ⟨#[64]⟩ ++ g)) ∧ Below w.heap.size w w' := by
  have hname : (refName d p).size ≤ 1099511627777 := by
    unfold refName
    split
    · omega
    · rw [ByteArray.size_append, ByteArray.size_append]; show _ + 1 + _ ≤ _; omega
  obtain ⟨nm, hnm⟩ : ∃ n, refName d p = n := ⟨_, rfl⟩
  have HC : Hid (∀ w : World, Calls Tryd.prog 39 #[.agg #[.string d, .string p]] w fun e w' => e = .returned (.string nm) ∧ Below w.heap.size w w') := Lib.hid (fun w => by have := name_any d p w (by omega); rw [hnm] at this; exact this)
  rw [hnm] at hname ⊢
  have a0 := add_ok (a := nm) (b := ⟨#[64]⟩) (by show _ + 1 ≤ _; omega)
  have a1 := add_ok (a := nm ++ ⟨#[64]⟩) (b := g) (by rw [ByteArray.size_append]; show _ + 1 + _ ≤ _; omega)
  clear hname hnm hz
  go_enter Tryd.func54, Tryd.ntmps54
  go_upto_region 1 with fail
  have hx := alloc_at w (.cells #[.iface 49 (.agg #[.string d, .string p]), .string g] 67) _ rfl
  have c0 := row_cell hx 0 (.iface 49 (.agg #[.string d, .string p])) rfl
  have c1 := row_cell hx 1 (.string g) rfl
  have HB0 := Lib.hid (below_alloc w (.cells #[.iface 49 (.agg #[.string d, .string p]), .string g] 67))
  obtain ⟨N, hN⟩ : ∃ n, w.heap.size = n := ⟨_, rfl⟩
  generalize hW : (w.alloc (.cells #[.iface 49 (.agg #[.string d, .string p]), .string g] 67)) = W at *
  rw [hN] at c0 c1 ⊢
  clear hx hW hN
  go_region_with (first
    | (go_at_call 39; (with_reducible refine (HC.out _).mono ?_); rintro e w1 ⟨rfl, hb⟩; have HB1 := Lib.hid (Below.up HB0.out (Below.up (Below.refl _ _).drew hb)); have k0 := (Below.up (Below.refl _ _).drew hb : Below W.heap.size W w1); have d0 := cell_keep k0 c0; have d1 := cell_keep k0 c1; clear hb k0)
    | (go_at_call 49; (with_reducible refine (dgString_any g _).mono ?_); rintro e w2 ⟨rfl, rfl⟩)
    | fail)
  all_goals
    go_wp2
    go_ret
    exact ⟨rfl, HB1.out⟩
set_option maxHeartbeats 4000000 in
theorem canFamiliar_any (d p g : ByteArray) (w : World) (hp : p.size ≤ 2147483647) :
    Calls Tryd.prog 53 #[.agg #[.iface 49 (.agg #[.string d, .string p]), .string g]] w fun e w' => e = .returned (.iface 67 (.agg #[.iface 49 (.agg #[.string (famD d), .string (famPath d p)]), .string g])) ∧ Below w.heap.size w w' := by
  go_enter Tryd.func53, Tryd.ntmps53
  go_upto_region 1 with fail
  have hx := alloc_at w (.cells #[.iface 49 (.agg #[.string d, .string p]), .string g] 67) _ rfl
  have c0 := row_cell hx 0 (.iface 49 (.agg #[.string d, .string p])) rfl
  have c1 := row_cell hx 1 (.string g) rfl
  have HB0 := Lib.hid (below_alloc w (.cells #[.iface 49 (.agg #[.string d, .string p]), .string g] 67))
  obtain ⟨N, hN⟩ : ∃ n, w.heap.size = n := ⟨_, rfl⟩
  generalize hW : (w.alloc (.cells #[.iface 49 (.agg #[.string d, .string p]), .string g] 67)) = W at *
  rw [hN] at c0 c1 ⊢
  clear hx hW hN
  go_region_with (first
    | (go_at_call 41; (with_reducible refine (familiarize_any d p _ hp).mono ?_); rintro e w1 ⟨rfl, hb⟩; have HB1 := Lib.hid (Below.up HB0.out (Below.up (Below.refl _ _).drew hb)); have k0 := (Below.up (Below.refl _ _).drew hb : Below W.heap.size W w1); have d0 := cell_keep k0 c0; have d1 := cell_keep k0 c1; clear hb k0)
    | fail)
  all_goals
    go_wp2
    go_ret
    exact ⟨rfl, HB1.out⟩
set_option maxHeartbeats 4000000 in
theorem refString_any (d p t g : ByteArray) (w : World) (hz : d.size + p.size + t.size + g.size ≤ 1099511627776) :
    Calls Tryd.prog 51 #[.agg #[.iface 49 (.agg #[.string d, .string p]), .string t, .string g]] w fun e w' => e = .returned (.string (refName d p ++ ⟨#[58]⟩ ++ t ++ ⟨#[64]⟩ ++ g)) ∧ Below w.heap.size w w' := by
  have hname : (refName d p).size ≤ 1099511627777 := by
    unfold refName
    split
    · omega
    · rw [ByteArray.size_append, ByteArray.size_append]; show _ + 1 + _ ≤ _; omega
  obtain ⟨nm, hnm⟩ : ∃ n, refName d p = n := ⟨_, rfl⟩
  have HC : Hid (∀ w : World, Calls Tryd.prog 39 #[.agg #[.string d, .string p]] w fun e w' => e = .returned (.string nm) ∧ Below w.heap.size w w') := Lib.hid (fun w => by have := name_any d p w (by omega); rw [hnm] at this; exact this)
  rw [hnm] at hname ⊢
  have a0 := add_ok (a := nm) (b := ⟨#[58]⟩) (by show _ + 1 ≤ _; omega)
  have a1 := add_ok (a := nm ++ ⟨#[58]⟩) (b := t) (by rw [ByteArray.size_append]; show _ + 1 + _ ≤ _; omega)
  have a2 := add_ok (a := nm ++ ⟨#[58]⟩ ++ t) (b := ⟨#[64]⟩) (by rw [ByteArray.size_append, ByteArray.size_append]; show _ + 1 + _ + 1 ≤ _; omega)
  have a3 := add_ok (a := nm ++ ⟨#[58]⟩ ++ t ++ ⟨#[64]⟩) (b := g) (by rw [ByteArray.size_append, ByteArray.size_append, ByteArray.size_append]; show _ + 1 + _ + 1 + _ ≤ _; omega)
  clear hname hnm hz
  go_enter Tryd.func51, Tryd.ntmps51
  go_upto_region 1 with fail
  have hx := alloc_at w (.cells #[.iface 49 (.agg #[.string d, .string p]), .string t, .string g] 54) _ rfl
  have c0 := row_cell hx 0 (.iface 49 (.agg #[.string d, .string p])) rfl
  have c1 := row_cell hx 1 (.string t) rfl
  have c2 := row_cell hx 2 (.string g) rfl
  have HB0 := Lib.hid (below_alloc w (.cells #[.iface 49 (.agg #[.string d, .string p]), .string t, .string g] 54))
  obtain ⟨N, hN⟩ : ∃ n, w.heap.size = n := ⟨_, rfl⟩
  generalize hW : (w.alloc (.cells #[.iface 49 (.agg #[.string d, .string p]), .string t, .string g] 54)) = W at *
  rw [hN] at c0 c1 c2 ⊢
  clear hx hW hN
  go_region_with (first
    | (go_at_call 39; (with_reducible refine (HC.out _).mono ?_); rintro e w1 ⟨rfl, hb⟩; have HB1 := Lib.hid (Below.up HB0.out (Below.up (Below.refl _ _).drew hb)); have k0 := (Below.up (Below.refl _ _).drew hb : Below W.heap.size W w1); have d0 := cell_keep k0 c0; have d1 := cell_keep k0 c1; have d2 := cell_keep k0 c2; clear hb k0)
    | (go_at_call 49; (with_reducible refine (dgString_any g _).mono ?_); rintro e w2 ⟨rfl, rfl⟩)
    | fail)
  all_goals
    go_wp2
    go_ret
    exact ⟨rfl, HB1.out⟩
set_option maxHeartbeats 4000000 in
theorem refFamiliar_any (d p t g : ByteArray) (w : World) (hp : p.size ≤ 2147483647) :
    Calls Tryd.prog 50 #[.agg #[.iface 49 (.agg #[.string d, .string p]), .string t, .string g]] w fun e w' => e = .returned (.iface 54 (.agg #[.iface 49 (.agg #[.string (famD d), .string (famPath d p)]), .string t, .string g])) ∧ Below w.heap.size w w' := by
  go_enter Tryd.func50, Tryd.ntmps50
  go_upto_region 1 with fail
  have hx := alloc_at w (.cells #[.iface 49 (.agg #[.string d, .string p]), .string t, .string g] 54) _ rfl
  have c0 := row_cell hx 0 (.iface 49 (.agg #[.string d, .string p])) rfl
  have c1 := row_cell hx 1 (.string t) rfl
  have c2 := row_cell hx 2 (.string g) rfl
  have HB0 := Lib.hid (below_alloc w (.cells #[.iface 49 (.agg #[.string d, .string p]), .string t, .string g] 54))
  obtain ⟨N, hN⟩ : ∃ n, w.heap.size = n := ⟨_, rfl⟩
  generalize hW : (w.alloc (.cells #[.iface 49 (.agg #[.string d, .string p]), .string t, .string g] 54)) = W at *
  rw [hN] at c0 c1 c2 ⊢
  clear hx hW hN
  go_region_with (first
    | (go_at_call 41; (with_reducible refine (familiarize_any d p _ hp).mono ?_); rintro e w1 ⟨rfl, hb⟩; have HB1 := Lib.hid (Below.up HB0.out (Below.up (Below.refl _ _).drew hb)); have k0 := (Below.up (Below.refl _ _).drew hb : Below W.heap.size W w1); have d0 := cell_keep k0 c0; have d1 := cell_keep k0 c1; have d2 := cell_keep k0 c2; clear hb k0)
    | fail)
  all_goals
    go_wp2
    go_ret
    exact ⟨rfl, HB1.out⟩
end Go.Proofs.YtmjipdcohkiblaaDoor
