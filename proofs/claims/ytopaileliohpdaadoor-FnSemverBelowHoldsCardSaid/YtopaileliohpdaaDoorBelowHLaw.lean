/-
  laws.FnSemverBelowHolds returns true for all terms and versions.
-/
import Derived.Test.YtopaileliohpdaaDoorBelowHW
namespace Go.Proofs.YtopaileliohpdaaDoor
open Go.RowKit
set_option maxRecDepth 100000
set_option linter.unusedVariables false

set_option maxHeartbeats 4000000 in
theorem belowHolds_law (op g : Int) (a b c : Nat) (p : ByteArray) (x : V) (pre : Bool) (w : World) (hn : NumErrs w) (z0 : p.size ≤ 140737488351232) (z1 : x.p.size ≤ 140737488351232) (z2 : x.m.size ≤ 140737488351232) :
    Calls Tryd.prog 6 #[.agg #[.int .i64 op, .int .i64 g, .int .u64 a, .int .u64 b, .int .u64 c, .string p], .agg #[.int .u64 x.a, .int .u64 x.b, .int .u64 x.c, .string x.p, .string x.m], .bool pre] w fun e w' => e = .returned (.bool true) ∧ Below w.heap.size w w' := by
  have HN := Lib.hid hn
  clear hn
  go_enter Tryd.func6, Tryd.ntmps6
  go_upto_region 1 with fail
  have XT : Hid (AtT ((w.alloc (.cells #[.int .i64 op, .int .i64 g, .int .u64 a, .int .u64 b, .int .u64 c, .string p] 39)).alloc (.cells #[.int .u64 x.a, .int .u64 x.b, .int .u64 x.c, .string x.p, .string x.m] 24)) w.heap.size ⟨op, g, a, b, c, p⟩) := Lib.hid (heap_alloc_some (alloc_at _ _ _ rfl))
  have XX : Hid (AtP ((w.alloc (.cells #[.int .i64 op, .int .i64 g, .int .u64 a, .int .u64 b, .int .u64 c, .string p] 39)).alloc (.cells #[.int .u64 x.a, .int .u64 x.b, .int .u64 x.c, .string x.p, .string x.m] 24)) (w.heap.size + 1) x) := Lib.hid (alloc_at _ _ _ (by simp))
  have HW : Hid (Below w.heap.size w ((w.alloc (.cells #[.int .i64 op, .int .i64 g, .int .u64 a, .int .u64 b, .int .u64 c, .string p] 39)).alloc (.cells #[.int .u64 x.a, .int .u64 x.b, .int .u64 x.c, .string x.p, .string x.m] 24))) := Lib.hid (by (repeat (first | exact Below.refl _ _ | apply Below.drew | (apply below_alloc_on (Nat.le_refl _)))))
  generalize ((w.alloc (.cells #[.int .i64 op, .int .i64 g, .int .u64 a, .int .u64 b, .int .u64 c, .string p] 39)).alloc (.cells #[.int .u64 x.a, .int .u64 x.b, .int .u64 x.c, .string x.p, .string x.m] 24)) = W at *
  obtain ⟨x0, x1, x2, x3, x4⟩ := XX.out.cells
  obtain ⟨t0, t1, t2, t3, t4, t5⟩ := XT.out.cells
  simp only at t0 t1 t2 t3 t4 t5
  go_upto_region 3 with (first
    | (go_at_call 25; (with_reducible refine (zzFits13_is ⟨op, g, a, b, c, p⟩ (decide (p.size ≤ 2147483647)) _ z0 (Lib.hid rfl)).mono ?_); rintro e w1 ⟨rfl, hb⟩; clear x0 x1 x2 x3 x4 t0 t1 t2 t3 t4 t5; have X1 := Lib.hid (XX.out.below hb); have T1 := Lib.hid (XT.out.below hb); have HB1 := Lib.hid (Below.up HW.out hb); clear hb; obtain ⟨x0, x1, x2, x3, x4⟩ := X1.out.cells; rcases hf : decide (p.size ≤ 2147483647) with _ | _; all_goals (have HP := Lib.hid hf; clear hf))
    | (go_at_call 11; (with_reducible refine (zz_x x x.fits _ z1 z2 (Lib.hid rfl)).mono ?_); rintro e w2 ⟨rfl, hb⟩; clear x0 x1 x2 x3 x4; have X2 := Lib.hid (X1.out.below hb); have T2 := Lib.hid (T1.out.below hb); have HB2 := Lib.hid (Below.up HB1.out hb); clear hb; obtain ⟨x0, x1, x2, x3, x4⟩ := X2.out.cells; obtain ⟨t0, t1, t2, t3, t4, t5⟩ := T2.out.cells; simp only at t0 t1 t2 t3 t4 t5; rcases hf : x.fits with _ | _; all_goals (have HF := Lib.hid hf; clear hf)))
  all_goals try (go_ret; first | exact ⟨rfl, HB2.out⟩ | exact ⟨rfl, HB1.out⟩)
  have HZ := Lib.hid (V.fits_le HF.out)
  have zp : p.size ≤ 2147483647 := of_decide_eq_true HP.out
  rcases hl : (T.goodB ⟨3, g, a, b, c, p⟩ && x.law) with _ | _
  · have HL := Lib.hid hl
    clear hl
    refine wp_region_held_drew (S := (fun w' => w'.cell? ⟨w.heap.size, 0, none⟩ = some (.int .i64 op) ∧ w'.cell? ⟨w.heap.size, 1, none⟩ = some (.int .i64 g) ∧ w'.cell? ⟨w.heap.size, 2, none⟩ = some (.int .u64 a) ∧ w'.cell? ⟨w.heap.size, 3, none⟩ = some (.int .u64 b) ∧ w'.cell? ⟨w.heap.size, 4, none⟩ = some (.int .u64 c) ∧ w'.cell? ⟨w.heap.size, 5, none⟩ = some (.string p) ∧ w'.cell? ⟨w.heap.size + 1, 0, none⟩ = some (.int .u64 x.a) ∧ w'.cell? ⟨w.heap.size + 1, 1, none⟩ = some (.int .u64 x.b) ∧ w'.cell? ⟨w.heap.size + 1, 2, none⟩ = some (.int .u64 x.c) ∧ w'.cell? ⟨w.heap.size + 1, 3, none⟩ = some (.string x.p) ∧ w'.cell? ⟨w.heap.size + 1, 4, none⟩ = some (.string x.m))) (by kernel_rfl) ?_ (fun hHeld => ?_)
    · (try dsimp only); (refine ⟨?_, ?_, ?_, ?_, ?_, ?_, ?_, ?_, ?_, ?_, ?_⟩ <;> (repeat (first | with_reducible assumption | with_reducible apply cell_alloc_some | with_reducible apply cell_drew_some | with_reducible refine cell_below (by with_reducible assumption) ?_ | with_reducible refine cell_set_other (by omega) ?_)))
    refine wpAnyH_take (i := 0) (v := ?_) rfl (by kernel_rfl) (by kernel_rfl) (by kernel_rfl) (fun _ _ _ h => h) (Or.inl ⟨by rfl, ?_⟩) (by assumption) ?_
    rotate_left
    · (intro w hSw; (try dsimp only at hSw); go_simp <;> with_reducible rfl)
    try (simp only [Act.put]; (try simp only [List.setIfInBounds_toArray]); (try simp only [List.set_cons_succ]); (try simp only [List.set_cons_zero]))
    refine wpAnyH_take (i := 1) (v := ?_) rfl (by kernel_rfl) (by kernel_rfl) (by kernel_rfl) (fun _ _ _ h => h) (Or.inl ⟨by rfl, ?_⟩) (by assumption) ?_
    rotate_left
    · (intro w hSw; (try dsimp only at hSw); go_simp <;> with_reducible rfl)
    try (simp only [Act.put]; (try simp only [List.setIfInBounds_toArray]); (try simp only [List.set_cons_succ]); (try simp only [List.set_cons_zero]))
    refine wpAnyH_ready (rs := [2]) (by kernel_rfl) (by simp) ?_
    refine AllReadyH.cons rfl (fun K hK => ?_) AllReadyH.nil
    go_simp
    (go_at_call 26; (with_reducible refine (snAsked_3 op g a b c p x false _ HZ zp HL).mono ?_); rintro e w3 ⟨rfl, hb⟩; have HB3 := Lib.hid (Below.up HB2.out (Below.up (w := w2) (by (repeat (first | exact Below.refl _ _ | apply Below.drew | (apply below_alloc_on (Nat.le_refl _))))) hb)))
    refine hK.out _ _ ?_ (fun hHeld => ?_)
    · (try dsimp only); (refine ⟨?_, ?_, ?_, ?_, ?_, ?_, ?_, ?_, ?_, ?_, ?_⟩ <;> (repeat (first | with_reducible assumption | with_reducible apply cell_alloc_some | with_reducible apply cell_drew_some | with_reducible refine cell_below (by with_reducible assumption) ?_ | with_reducible refine cell_set_other (by omega) ?_)))
    clear hK K
    try (simp only [Act.put]; (try simp only [List.setIfInBounds_toArray]); (try simp only [List.set_cons_succ]); (try simp only [List.set_cons_zero]))
    refine wpAnyH_take (i := 3) (v := ?_) rfl (by kernel_rfl) (by kernel_rfl) (by kernel_rfl) (fun _ _ _ h => h) (Or.inl ⟨by rfl, ?_⟩) (by assumption) ?_
    rotate_left
    · (intro w hSw; (try dsimp only at hSw); go_simp <;> with_reducible rfl)
    try (simp only [Act.put]; (try simp only [List.setIfInBounds_toArray]); (try simp only [List.set_cons_succ]); (try simp only [List.set_cons_zero]))
    refine wpAnyH_take (i := 4) (v := ?_) rfl (by kernel_rfl) (by kernel_rfl) (by kernel_rfl) (fun _ _ _ h => h) (Or.inl ⟨by rfl, ?_⟩) (by assumption) ?_
    rotate_left
    · (intro w hSw; (try dsimp only at hSw); go_simp <;> with_reducible rfl)
    try (simp only [Act.put]; (try simp only [List.setIfInBounds_toArray]); (try simp only [List.set_cons_succ]); (try simp only [List.set_cons_zero]))
    refine wpAnyH_take (i := 5) (v := undef) rfl (by kernel_rfl) (by kernel_rfl) (by kernel_rfl) (fun _ _ _ h => h) (Or.inr ⟨by kernel_rfl, Eq.refl undef⟩) (by assumption) ?_
    try (simp only [Act.put]; (try simp only [List.setIfInBounds_toArray]); (try simp only [List.set_cons_succ]); (try simp only [List.set_cons_zero]))
    refine wpAnyH_take (i := 6) (v := undef) rfl (by kernel_rfl) (by kernel_rfl) (by kernel_rfl) (fun _ _ _ h => h) (Or.inr ⟨by kernel_rfl, Eq.refl undef⟩) (by assumption) ?_
    try (simp only [Act.put]; (try simp only [List.setIfInBounds_toArray]); (try simp only [List.set_cons_succ]); (try simp only [List.set_cons_zero]))
    refine wpAnyH_take (i := 7) (v := undef) rfl (by kernel_rfl) (by kernel_rfl) (by kernel_rfl) (fun _ _ _ h => h) (Or.inr ⟨by kernel_rfl, Eq.refl undef⟩) (by assumption) ?_
    try (simp only [Act.put]; (try simp only [List.setIfInBounds_toArray]); (try simp only [List.set_cons_succ]); (try simp only [List.set_cons_zero]))
    refine wpAnyH_take (i := 8) (v := undef) rfl (by kernel_rfl) (by kernel_rfl) (by kernel_rfl) (fun _ _ _ h => h) (Or.inr ⟨by kernel_rfl, Eq.refl undef⟩) (by assumption) ?_
    try (simp only [Act.put]; (try simp only [List.setIfInBounds_toArray]); (try simp only [List.set_cons_succ]); (try simp only [List.set_cons_zero]))
    refine wpAnyH_take (i := 9) (v := undef) rfl (by kernel_rfl) (by kernel_rfl) (by kernel_rfl) (fun _ _ _ h => h) (Or.inr ⟨by kernel_rfl, Eq.refl undef⟩) (by assumption) ?_
    try (simp only [Act.put]; (try simp only [List.setIfInBounds_toArray]); (try simp only [List.set_cons_succ]); (try simp only [List.set_cons_zero]))
    refine wpAnyH_take (i := 10) (v := undef) rfl (by kernel_rfl) (by kernel_rfl) (by kernel_rfl) (fun _ _ _ h => h) (Or.inr ⟨by kernel_rfl, Eq.refl undef⟩) (by assumption) ?_
    try (simp only [Act.put]; (try simp only [List.setIfInBounds_toArray]); (try simp only [List.set_cons_succ]); (try simp only [List.set_cons_zero]))
    refine wpAnyH_take (i := 11) (v := undef) rfl (by kernel_rfl) (by kernel_rfl) (by kernel_rfl) (fun _ _ _ h => h) (Or.inr ⟨by kernel_rfl, Eq.refl undef⟩) (by assumption) ?_
    try (simp only [Act.put]; (try simp only [List.setIfInBounds_toArray]); (try simp only [List.set_cons_succ]); (try simp only [List.set_cons_zero]))
    refine wpAnyH_take (i := 12) (v := undef) rfl (by kernel_rfl) (by kernel_rfl) (by kernel_rfl) (fun _ _ _ h => h) (Or.inr ⟨by kernel_rfl, Eq.refl undef⟩) (by assumption) ?_
    try (simp only [Act.put]; (try simp only [List.setIfInBounds_toArray]); (try simp only [List.set_cons_succ]); (try simp only [List.set_cons_zero]))
    refine wpAnyH_take (i := 13) (v := undef) rfl (by kernel_rfl) (by kernel_rfl) (by kernel_rfl) (fun _ _ _ h => h) (Or.inr ⟨by kernel_rfl, Eq.refl undef⟩) (by assumption) ?_
    try (simp only [Act.put]; (try simp only [List.setIfInBounds_toArray]); (try simp only [List.set_cons_succ]); (try simp only [List.set_cons_zero]))
    refine wpAnyH_ready (rs := [14]) (by kernel_rfl) (by simp) ?_
    refine AllReadyH.cons rfl (fun K hK => ?_) AllReadyH.nil
    go_simp
    refine hK.out _ _ ?_ (fun hHeld => ?_)
    · (try dsimp only); (refine ⟨?_, ?_, ?_, ?_, ?_, ?_, ?_, ?_, ?_, ?_, ?_⟩ <;> (repeat (first | with_reducible assumption | with_reducible apply cell_alloc_some | with_reducible apply cell_drew_some | with_reducible refine cell_below (by with_reducible assumption) ?_ | with_reducible refine cell_set_other (by omega) ?_)))
    clear hK K
    try (simp only [Act.put]; (try simp only [List.setIfInBounds_toArray]); (try simp only [List.set_cons_succ]); (try simp only [List.set_cons_zero]))
    refine wpAnyH_ready (rs := [15]) (by kernel_rfl) (by simp) ?_
    refine AllReadyH.cons rfl (fun K hK => ?_) AllReadyH.nil
    go_simp
    refine hK.out _ _ ?_ (fun hHeld => ?_)
    · (try dsimp only); (refine ⟨?_, ?_, ?_, ?_, ?_, ?_, ?_, ?_, ?_, ?_, ?_⟩ <;> (repeat (first | with_reducible assumption | with_reducible apply cell_alloc_some | with_reducible apply cell_drew_some | with_reducible refine cell_below (by with_reducible assumption) ?_ | with_reducible refine cell_set_other (by omega) ?_)))
    clear hK K
    try (simp only [Act.put]; (try simp only [List.setIfInBounds_toArray]); (try simp only [List.set_cons_succ]); (try simp only [List.set_cons_zero]))
    refine wpAnyH_done (by kernel_rfl) ?_ _
    go_wp2
    go_ret
    exact ⟨rfl, HB3.out⟩
  · have HL := Lib.hid hl
    rw [Bool.and_eq_true] at hl
    have hgood := (T.goodB_iff _).1 hl.1
    have GT := Lib.hid hgood.2.2.2.2.2.2.2
    have GX := Lib.hid (V.law_pGood hl.2)
    have G4 : Hid (g = 0 ∨ g = 1 ∨ g = 2 ∨ g = 3) := Lib.hid hgood.1
    have G3 : Hid (g = 1 ∨ g = 2 ∨ g = 3) := Lib.hid (by
      have h1 := hgood.1
      have h2 := hgood.2.2.1
      simp only at h1 h2
      rcases h1 with h | h | h | h
      · exact absurd (h2 h) (by decide)
      · exact .inl h
      · exact .inr (.inl h)
      · exact .inr (.inr h))
    have GT2 : Hid (T.ver ⟨op, g, a, b, c, p⟩).pGood := GT
    have zp2 : (T.ver ⟨op, g, a, b, c, p⟩).p.size ≤ 2147483647 := zp
    clear hl hgood GT
    obtain ⟨r, hr⟩ : ∃ r, (x.inl pre && decide (x.cmp ⟨a, b, c, p, ⟨#[]⟩⟩ < 0)) = r := ⟨_, rfl⟩
    have R1 := Lib.hid hr
    have R2 : Hid ((x.inl pre && decide (x.cmp (T.ver ⟨op, g, a, b, c, p⟩) < 0)) = r) := R1
    clear hr
    go_region_held3 (fun w' => w'.cell? ⟨w.heap.size, 0, none⟩ = some (.int .i64 op) ∧ w'.cell? ⟨w.heap.size, 1, none⟩ = some (.int .i64 g) ∧ w'.cell? ⟨w.heap.size, 2, none⟩ = some (.int .u64 a) ∧ w'.cell? ⟨w.heap.size, 3, none⟩ = some (.int .u64 b) ∧ w'.cell? ⟨w.heap.size, 4, none⟩ = some (.int .u64 c) ∧ w'.cell? ⟨w.heap.size, 5, none⟩ = some (.string p) ∧ w'.cell? ⟨w.heap.size + 1, 0, none⟩ = some (.int .u64 x.a) ∧ w'.cell? ⟨w.heap.size + 1, 1, none⟩ = some (.int .u64 x.b) ∧ w'.cell? ⟨w.heap.size + 1, 2, none⟩ = some (.int .u64 x.c) ∧ w'.cell? ⟨w.heap.size + 1, 3, none⟩ = some (.string x.p) ∧ w'.cell? ⟨w.heap.size + 1, 4, none⟩ = some (.string x.m)) (first | (refine ⟨?_, ?_, ?_, ?_, ?_, ?_, ?_, ?_, ?_, ?_, ?_⟩ <;> (repeat (first | with_reducible assumption | with_reducible apply cell_alloc_some | with_reducible apply cell_drew_some | with_reducible refine cell_below (by with_reducible assumption) ?_ | with_reducible refine cell_set_other (by omega) ?_))) | fail) (first
      | (go_at_call 26; (with_reducible refine (snAsked_3 op g a b c p x true _ HZ zp HL).mono ?_); rintro e w3 ⟨rfl, hb3⟩; have HB3 := Lib.hid (Below.up HB2.out (Below.up (w := w2) (by (repeat (first | exact Below.refl _ _ | apply Below.drew | (apply below_alloc_on (Nat.le_refl _))))) hb3)))
      | (go_at_call 27; (with_reducible refine (belowHolds_x ⟨op, g, a, b, c, p⟩ x r pre _ G4.out GX.out GT2.out (HN.out.below (Below.up HB3.out (by (repeat (first | exact Below.refl _ _ | apply Below.drew | (apply below_alloc_on (Nat.le_refl _))))))) HZ.out.1 zp2 R2).mono ?_); rintro e w4 ⟨rfl, hb4⟩; have HB4 := Lib.hid (Below.up HB3.out (Below.up (w := w3) (by (repeat (first | exact Below.refl _ _ | apply Below.drew | (apply below_alloc_on (Nat.le_refl _))))) hb4)))
      | (go_at_call 28; (with_reducible refine (snWant_3 op g a b c p x pre r _ G3.out HZ.out.1 zp R1).mono ?_); rintro e w5 ⟨rfl, hb5⟩; have HB5 := Lib.hid (Below.up HB4.out (Below.up (w := w4) (by (repeat (first | exact Below.refl _ _ | apply Below.drew | (apply below_alloc_on (Nat.le_refl _))))) hb5)))
      | fail)
    go_wp2
    go_ret
    exact ⟨ret_bool (by simp), HB5.out⟩
theorem belowHolds_walk (t : T) (x : V) (pre : Bool) (w : World) (hE : NumErrs w) (hu : t.wf) (hz : t.p.size ≤ 140737488351232) (hu2 : x.u64) (hz2 : x.p.size ≤ 140737488351232 ∧ x.m.size ≤ 140737488351232) :
    Calls Tryd.prog 6 #[t.val, x.v, .bool pre] w fun e w' => e = .returned (.bool true) ∧ Below w.heap.size w w' :=
  belowHolds_law t.op t.g t.a t.b t.c t.p x pre w hE hz hz2.1 hz2.2
end Go.Proofs.YtopaileliohpdaaDoor
