/-
  constraintLessThanEqual.
-/
import Derived.Test.YtnkdpgcfaelpkaaDoorCons
import Derived.Test.YtnkdpgcfaelpkaaDoorOpEq
namespace Go.Proofs.YtnkdpgcfaelpkaaDoor
open Go.RowKit
set_option maxRecDepth 100000
set_option linter.unusedVariables false

set_option maxHeartbeats 16000000 in
theorem mostC_any (x y : V) (o o' s : ByteArray) (N K M' : Nat) (di mi pa pre : Bool) (w : World) (I : Hid (CSt w w N K M' x y o o' s di mi pa)) (GX : Hid x.pGood) (GY : Hid y.pGood) (zx : x.p.size ≤ 2147483647) (zy : y.p.size ≤ 2147483647) (r : Bool) (HR : Hid ((x.inl pre && mostV x y di mi) = r)) :
    Calls Tryd.prog 60 #[.pointer (some ⟨N, 0, none⟩), .pointer (some ⟨K, 0, none⟩), .bool pre] w fun e w' => (∃ ev, e = .returned (.tuple #[.bool r, ev])) ∧ Below w.heap.size w w' := by
  obtain ⟨x0, x1, x2, x3, x4, x5⟩ := I.out.atx.cells; obtain ⟨y0, y1, y2, y3, y4, y5⟩ := I.out.aty.cells; obtain ⟨k0, k1, k2, k3, k4, k5⟩ := I.out.cells
  rcases hi : x.inl pre with _ | _
  · have HI := Lib.hid hi
    have hpre : pre = false := by cases pre with | false => rfl | true => simp [V.inl] at hi
    subst hpre
    have hp : x.p.toList.isEmpty = false := bs_isEmpty (by simpa [V.inl] using hi)
    clear hi
    go_enter Tryd.func60, Tryd.ntmps60
    go_wp2_with ((first
    | (go_at_call 42; (with_reducible refine (prere_b x o _).mono ?_); rintro e w' ⟨rfl, hb⟩)
    | (go_at_call 69; (with_reducible refine (compare_any x y o o' _ _ _ I.out.atx I.out.aty GX.out GY.out I.out.num zx zy).mono ?_); rintro e w' ⟨rfl, hb⟩)
    | (go_at_call 66; (with_reducible refine (errorsNew_any _ _).mono ?_); rintro e w' ⟨⟨et, ev, rfl⟩, hb⟩)
    | (go_at_call 67; (with_reducible refine (equalPtr_any x y o o' _ _ _ I.out.atx I.out.aty GX.out GY.out I.out.num zx zy).mono ?_); rintro e w' ⟨rfl, hb⟩)); clear x0 x1 x2 x3 x4 x5 y0 y1 y2 y3 y4 y5 k0 k1 k2 k3 k4 k5; replace I := Lib.hid (I.out.below hb); clear hb; obtain ⟨x0, x1, x2, x3, x4, x5⟩ := I.out.atx.cells; obtain ⟨y0, y1, y2, y3, y4, y5⟩ := I.out.aty.cells; obtain ⟨k0, k1, k2, k3, k4, k5⟩ := I.out.cells)
    refine bodyPost_ret (results_tmp2 rfl _ _ _) rfl ?_
    refine ⟨⟨_, ret_tup ?_⟩, I.out.bel⟩
    rw [← HR.out]
    rw [HI.out]; rfl
  have HI := Lib.hid hi
  have hlc : ((!x.p.toList.isEmpty) && !pre) = false := by
    cases pre with
    | true => simp
    | false =>
      have : (M.bs x.p).isEmpty = true := by simpa [V.inl] using hi
      rw [toList_bs, this]; rfl
  clear hi
  go_enter Tryd.func60, Tryd.ntmps60
  go_upto_region 1 with fail
  go_cut [17] (fun s17 wx => s17 = .bool false ∧ Hid (CSt w wx N K M' x y o o' s di mi pa))
  case first =>
    rcases empty_cases x.p with ⟨hp, hq⟩ | ⟨hp, hq⟩
    all_goals clear hq
    all_goals cases pre
    all_goals try (rw [hp] at hlc; cases hlc; done)
    all_goals clear hlc
    all_goals go_wp2_with ((first
    | (go_at_call 42; (with_reducible refine (prere_b x o _).mono ?_); rintro e w' ⟨rfl, hb⟩)
    | (go_at_call 69; (with_reducible refine (compare_any x y o o' _ _ _ I.out.atx I.out.aty GX.out GY.out I.out.num zx zy).mono ?_); rintro e w' ⟨rfl, hb⟩)
    | (go_at_call 66; (with_reducible refine (errorsNew_any _ _).mono ?_); rintro e w' ⟨⟨et, ev, rfl⟩, hb⟩)
    | (go_at_call 67; (with_reducible refine (equalPtr_any x y o o' _ _ _ I.out.atx I.out.aty GX.out GY.out I.out.num zx zy).mono ?_); rintro e w' ⟨rfl, hb⟩)); clear x0 x1 x2 x3 x4 x5 y0 y1 y2 y3 y4 y5 k0 k1 k2 k3 k4 k5; replace I := Lib.hid (I.out.below hb); clear hb; obtain ⟨x0, x1, x2, x3, x4, x5⟩ := I.out.atx.cells; obtain ⟨y0, y1, y2, y3, y4, y5⟩ := I.out.aty.cells; obtain ⟨k0, k1, k2, k3, k4, k5⟩ := I.out.cells)
    all_goals go_meet
    all_goals exact ⟨rfl, I⟩
  case rest =>
  obtain ⟨rfl, I2⟩ := hcut
  clear x0 x1 x2 x3 x4 x5 y0 y1 y2 y3 y4 y5 k0 k1 k2 k3 k4 k5
  clear I hlc
  have I := I2
  clear I2
  obtain ⟨x0, x1, x2, x3, x4, x5⟩ := I.out.atx.cells
  obtain ⟨y0, y1, y2, y3, y4, y5⟩ := I.out.aty.cells
  obtain ⟨k0, k1, k2, k3, k4, k5⟩ := I.out.cells
  cases di
  · rcases V.cmp_range x y with hk | hk | hk
    all_goals have HK := Lib.hid hk
    all_goals go_wp2_with ((first
        | (go_at_call 42; (with_reducible refine (prere_b x o _).mono ?_); rintro e w' ⟨rfl, hb⟩)
        | (go_at_call 69; (with_reducible refine (compare_any x y o o' _ _ _ I.out.atx I.out.aty GX.out GY.out I.out.num zx zy).mono ?_); rintro e w' ⟨rfl, hb⟩)
        | (go_at_call 66; (with_reducible refine (errorsNew_any _ _).mono ?_); rintro e w' ⟨⟨et, ev, rfl⟩, hb⟩)
        | (go_at_call 67; (with_reducible refine (equalPtr_any x y o o' _ _ _ I.out.atx I.out.aty GX.out GY.out I.out.num zx zy).mono ?_); rintro e w' ⟨rfl, hb⟩)); clear x0 x1 x2 x3 x4 x5 y0 y1 y2 y3 y4 y5 k0 k1 k2 k3 k4 k5; replace I := Lib.hid (I.out.below hb); clear hb; obtain ⟨x0, x1, x2, x3, x4, x5⟩ := I.out.atx.cells; obtain ⟨y0, y1, y2, y3, y4, y5⟩ := I.out.aty.cells; obtain ⟨k0, k1, k2, k3, k4, k5⟩ := I.out.cells)
    all_goals
      refine bodyPost_ret (results_tmp2 rfl _ _ _) rfl ?_
      refine ⟨⟨_, ret_tup ?_⟩, I.out.bel⟩
      rw [← HR.out]
      have hi2 := HI.out
      have f0 := HK.out
      clear HR HI I GX GY
      unfold Go.RowKit.Hid at *
      first
        | (simp_all [mostV]; done)
        | (simp_all [mostV]; omega)
        | fail
  · rcases Nat.lt_trichotomy x.a y.a with ha | ha | ha
    · have HDa := Lib.hid ha
      have ga1 : decide (y.a < x.a) = false := by simp; omega
      have ga2 : decide (x.a < y.a) = true := by simp; omega
      clear ha
      have ge : ((x.a : Int) == y.a) = false := by have := HDa.out; simp; omega
      go_upto_region 9 with ((first
          | (go_at_call 42; (with_reducible refine (prere_b x o _).mono ?_); rintro e w' ⟨rfl, hb⟩)
          | (go_at_call 69; (with_reducible refine (compare_any x y o o' _ _ _ I.out.atx I.out.aty GX.out GY.out I.out.num zx zy).mono ?_); rintro e w' ⟨rfl, hb⟩)
          | (go_at_call 66; (with_reducible refine (errorsNew_any _ _).mono ?_); rintro e w' ⟨⟨et, ev, rfl⟩, hb⟩)
          | (go_at_call 67; (with_reducible refine (equalPtr_any x y o o' _ _ _ I.out.atx I.out.aty GX.out GY.out I.out.num zx zy).mono ?_); rintro e w' ⟨rfl, hb⟩)); clear x0 x1 x2 x3 x4 x5 y0 y1 y2 y3 y4 y5 k0 k1 k2 k3 k4 k5; replace I := Lib.hid (I.out.below hb); clear hb; obtain ⟨x0, x1, x2, x3, x4, x5⟩ := I.out.atx.cells; obtain ⟨y0, y1, y2, y3, y4, y5⟩ := I.out.aty.cells; obtain ⟨k0, k1, k2, k3, k4, k5⟩ := I.out.cells)
      go_region_held3 (fun w' => w'.cell? ⟨N, 0, none⟩ = some (.int .u64 x.a) ∧ w'.cell? ⟨N, 1, none⟩ = some (.int .u64 x.b) ∧ w'.cell? ⟨N, 2, none⟩ = some (.int .u64 x.c) ∧ w'.cell? ⟨N, 3, none⟩ = some (.string x.p) ∧ w'.cell? ⟨N, 4, none⟩ = some (.string x.m) ∧ w'.cell? ⟨N, 5, none⟩ = some (.string o) ∧ w'.cell? ⟨M', 0, none⟩ = some (.int .u64 y.a) ∧ w'.cell? ⟨M', 1, none⟩ = some (.int .u64 y.b) ∧ w'.cell? ⟨M', 2, none⟩ = some (.int .u64 y.c) ∧ w'.cell? ⟨M', 3, none⟩ = some (.string y.p) ∧ w'.cell? ⟨M', 4, none⟩ = some (.string y.m) ∧ w'.cell? ⟨M', 5, none⟩ = some (.string o') ∧ w'.cell? ⟨K, 0, none⟩ = some (.pointer (some ⟨M', 0, none⟩))) (first | (refine ⟨?_, ?_, ?_, ?_, ?_, ?_, ?_, ?_, ?_, ?_, ?_, ?_, ?_⟩ <;> (repeat (first | with_reducible assumption | with_reducible apply cell_alloc_some | with_reducible apply cell_drew_some | with_reducible refine cell_below (by with_reducible assumption) ?_ | with_reducible refine cell_set_other (by omega) ?_))) | fail) (first | (go_at_call 39; (with_reducible refine (major_v x o _).mono ?_); rintro e wa1 ⟨rfl, hba⟩; (first | (have HBA1 := Lib.hid (Below.up (w := wb1) (by (repeat (first | exact Below.refl _ _ | apply Below.drew | (apply below_alloc_on (Nat.le_refl _))))) hba)) | (have HBA1 := Lib.hid (Below.up (w := w') (by (repeat (first | exact Below.refl _ _ | apply Below.drew | (apply below_alloc_on (Nat.le_refl _))))) hba)) | (have HBA1 := Lib.hid (Below.up (w := wc) (by (repeat (first | exact Below.refl _ _ | apply Below.drew | (apply below_alloc_on (Nat.le_refl _))))) hba)))) | (go_at_call 39; (with_reducible refine (major_v y o' _).mono ?_); rintro e wb1 ⟨rfl, hbb⟩; have HBB1 := Lib.hid (Below.up HBA1.out (Below.up (w := wa1) (by (repeat (first | exact Below.refl _ _ | apply Below.drew | (apply below_alloc_on (Nat.le_refl _))))) hbb))) | fail)
      replace I := Lib.hid (I.out.below HBB1.out)
      clear x0 x1 x2 x3 x4 x5 y0 y1 y2 y3 y4 y5 k0 k1 k2 k3 k4 k5
      obtain ⟨x0, x1, x2, x3, x4, x5⟩ := I.out.atx.cells
      obtain ⟨y0, y1, y2, y3, y4, y5⟩ := I.out.aty.cells
      obtain ⟨k0, k1, k2, k3, k4, k5⟩ := I.out.cells
      go_upto_region 11 with ((first
          | (go_at_call 42; (with_reducible refine (prere_b x o _).mono ?_); rintro e w' ⟨rfl, hb⟩)
          | (go_at_call 69; (with_reducible refine (compare_any x y o o' _ _ _ I.out.atx I.out.aty GX.out GY.out I.out.num zx zy).mono ?_); rintro e w' ⟨rfl, hb⟩)
          | (go_at_call 66; (with_reducible refine (errorsNew_any _ _).mono ?_); rintro e w' ⟨⟨et, ev, rfl⟩, hb⟩)
          | (go_at_call 67; (with_reducible refine (equalPtr_any x y o o' _ _ _ I.out.atx I.out.aty GX.out GY.out I.out.num zx zy).mono ?_); rintro e w' ⟨rfl, hb⟩)); clear x0 x1 x2 x3 x4 x5 y0 y1 y2 y3 y4 y5 k0 k1 k2 k3 k4 k5; replace I := Lib.hid (I.out.below hb); clear hb; obtain ⟨x0, x1, x2, x3, x4, x5⟩ := I.out.atx.cells; obtain ⟨y0, y1, y2, y3, y4, y5⟩ := I.out.aty.cells; obtain ⟨k0, k1, k2, k3, k4, k5⟩ := I.out.cells)
      refine wp_region_held_drew (S := (fun w' => w'.cell? ⟨N, 0, none⟩ = some (.int .u64 x.a) ∧ w'.cell? ⟨N, 1, none⟩ = some (.int .u64 x.b) ∧ w'.cell? ⟨N, 2, none⟩ = some (.int .u64 x.c) ∧ w'.cell? ⟨N, 3, none⟩ = some (.string x.p) ∧ w'.cell? ⟨N, 4, none⟩ = some (.string x.m) ∧ w'.cell? ⟨N, 5, none⟩ = some (.string o) ∧ w'.cell? ⟨M', 0, none⟩ = some (.int .u64 y.a) ∧ w'.cell? ⟨M', 1, none⟩ = some (.int .u64 y.b) ∧ w'.cell? ⟨M', 2, none⟩ = some (.int .u64 y.c) ∧ w'.cell? ⟨M', 3, none⟩ = some (.string y.p) ∧ w'.cell? ⟨M', 4, none⟩ = some (.string y.m) ∧ w'.cell? ⟨M', 5, none⟩ = some (.string o') ∧ w'.cell? ⟨K, 0, none⟩ = some (.pointer (some ⟨M', 0, none⟩)))) (by kernel_rfl) ?_ (fun hHeld => ?_)
      · ((try dsimp only); all_goals (refine ⟨?_, ?_, ?_, ?_, ?_, ?_, ?_, ?_, ?_, ?_, ?_, ?_, ?_⟩ <;> (repeat (first | with_reducible assumption | with_reducible apply cell_alloc_some | with_reducible apply cell_drew_some | with_reducible refine cell_below (by with_reducible assumption) ?_ | with_reducible refine cell_set_other (by omega) ?_))))
      refine wpAnyH_take (i := 0) (v := ?_) rfl (by kernel_rfl) (by kernel_rfl) (by kernel_rfl) (fun _ _ _ h => h) (Or.inl ⟨by kernel_rfl, ?_⟩) (by assumption) ?_
      rotate_left
      · (intro w hSw; (try dsimp only at hSw); go_simp <;> with_reducible rfl)
      try (simp only [Act.put]; (try simp only [List.setIfInBounds_toArray]); (try simp only [List.set_cons_succ]); (try simp only [List.set_cons_zero]))
      refine wpAnyH_take (i := 1) (v := ?_) rfl (by kernel_rfl) (by kernel_rfl) (by kernel_rfl) (fun _ _ _ h => h) (Or.inl ⟨by kernel_rfl, ?_⟩) (by assumption) ?_
      rotate_left
      · (intro w hSw; (try dsimp only at hSw); go_simp <;> with_reducible rfl)
      try (simp only [Act.put]; (try simp only [List.setIfInBounds_toArray]); (try simp only [List.set_cons_succ]); (try simp only [List.set_cons_zero]))
      refine wpAnyH_take (i := 2) (v := ?_) rfl (by kernel_rfl) (by kernel_rfl) (by kernel_rfl) (fun _ _ _ h => h) (Or.inl ⟨by kernel_rfl, ?_⟩) (by assumption) ?_
      rotate_left
      · (intro w hSw; (try dsimp only at hSw); go_simp <;> with_reducible rfl)
      try (simp only [Act.put]; (try simp only [List.setIfInBounds_toArray]); (try simp only [List.set_cons_succ]); (try simp only [List.set_cons_zero]))
      refine wpAnyH_take (i := 4) (v := ?_) rfl (by kernel_rfl) (by kernel_rfl) (by kernel_rfl) (fun _ _ _ h => h) (Or.inl ⟨by kernel_rfl, ?_⟩) (by assumption) ?_
      rotate_left
      · (intro w hSw; (try dsimp only at hSw); go_simp <;> with_reducible rfl)
      try (simp only [Act.put]; (try simp only [List.setIfInBounds_toArray]); (try simp only [List.set_cons_succ]); (try simp only [List.set_cons_zero]))
      refine wpAnyH_take (i := 5) (v := ?_) rfl (by kernel_rfl) (by kernel_rfl) (by kernel_rfl) (fun _ _ _ h => h) (Or.inl ⟨by kernel_rfl, ?_⟩) (by assumption) ?_
      rotate_left
      · (intro w hSw; (try dsimp only at hSw); go_simp <;> with_reducible rfl)
      try (simp only [Act.put]; (try simp only [List.setIfInBounds_toArray]); (try simp only [List.set_cons_succ]); (try simp only [List.set_cons_zero]))
      refine wpAnyH_take (i := 6) (v := ?_) rfl (by kernel_rfl) (by kernel_rfl) (by kernel_rfl) (fun _ _ _ h => h) (Or.inl ⟨by kernel_rfl, ?_⟩) (by assumption) ?_
      rotate_left
      · (intro w hSw; (try dsimp only at hSw); go_simp <;> with_reducible rfl)
      try (simp only [Act.put]; (try simp only [List.setIfInBounds_toArray]); (try simp only [List.set_cons_succ]); (try simp only [List.set_cons_zero]))
      refine wpAnyH_take (i := 7) (v := ?_) rfl (by kernel_rfl) (by kernel_rfl) (by kernel_rfl) (fun _ _ _ h => h) (Or.inl ⟨by kernel_rfl, ?_⟩) (by assumption) ?_
      rotate_left
      · (intro w hSw; (try dsimp only at hSw); go_simp <;> with_reducible rfl)
      try (simp only [Act.put]; (try simp only [List.setIfInBounds_toArray]); (try simp only [List.set_cons_succ]); (try simp only [List.set_cons_zero]))
      refine wpAnyH_take (i := 8) (v := ?_) rfl (by kernel_rfl) (by kernel_rfl) (by kernel_rfl) (fun _ _ _ h => h) (Or.inl ⟨by kernel_rfl, ?_⟩) (by assumption) ?_
      rotate_left
      · (intro w hSw; (try dsimp only at hSw); go_simp <;> with_reducible rfl)
      try (simp only [Act.put]; (try simp only [List.setIfInBounds_toArray]); (try simp only [List.set_cons_succ]); (try simp only [List.set_cons_zero]))
      refine wpAnyH_take (i := 9) (v := ?_) rfl (by kernel_rfl) (by kernel_rfl) (by kernel_rfl) (fun _ _ _ h => h) (Or.inl ⟨by kernel_rfl, ?_⟩) (by assumption) ?_
      rotate_left
      · (intro w hSw; (try dsimp only at hSw); go_simp <;> with_reducible rfl)
      try (simp only [Act.put]; (try simp only [List.setIfInBounds_toArray]); (try simp only [List.set_cons_succ]); (try simp only [List.set_cons_zero]))
      refine wpAnyH_ready (rs := [3]) (by kernel_rfl) (by simp) ?_
      refine AllReadyH.cons rfl (fun K hK => ?_) AllReadyH.nil
      go_simp
      (go_at_call 39; (with_reducible refine (major_v x o _).mono ?_); rintro e wa1 ⟨rfl, hba⟩; (first | (have HBA1 := Lib.hid (Below.up (w := wb1) (by (repeat (first | exact Below.refl _ _ | apply Below.drew | (apply below_alloc_on (Nat.le_refl _))))) hba)) | (have HBA1 := Lib.hid (Below.up (w := w') (by (repeat (first | exact Below.refl _ _ | apply Below.drew | (apply below_alloc_on (Nat.le_refl _))))) hba)) | (have HBA1 := Lib.hid (Below.up (w := wc) (by (repeat (first | exact Below.refl _ _ | apply Below.drew | (apply below_alloc_on (Nat.le_refl _))))) hba))))
      refine hK.out _ _ ?_ (fun hHeld => ?_)
      · ((try dsimp only); all_goals (refine ⟨?_, ?_, ?_, ?_, ?_, ?_, ?_, ?_, ?_, ?_, ?_, ?_, ?_⟩ <;> (repeat (first | with_reducible assumption | with_reducible apply cell_alloc_some | with_reducible apply cell_drew_some | with_reducible refine cell_below (by with_reducible assumption) ?_ | with_reducible refine cell_set_other (by omega) ?_))))
      clear hK K
      try (simp only [Act.put]; (try simp only [List.setIfInBounds_toArray]); (try simp only [List.set_cons_succ]); (try simp only [List.set_cons_zero]))
      refine wpAnyH_ready (rs := [10]) (by kernel_rfl) (by simp) ?_
      refine AllReadyH.cons rfl (fun K hK => ?_) AllReadyH.nil
      go_simp
      (go_at_call 39; (with_reducible refine (major_v y o' _).mono ?_); rintro e wb1 ⟨rfl, hbb⟩; have HBB1 := Lib.hid (Below.up HBA1.out (Below.up (w := wa1) (by (repeat (first | exact Below.refl _ _ | apply Below.drew | (apply below_alloc_on (Nat.le_refl _))))) hbb)))
      refine hK.out _ _ ?_ (fun hHeld => ?_)
      · ((try dsimp only); all_goals (refine ⟨?_, ?_, ?_, ?_, ?_, ?_, ?_, ?_, ?_, ?_, ?_, ?_, ?_⟩ <;> (repeat (first | with_reducible assumption | with_reducible apply cell_alloc_some | with_reducible apply cell_drew_some | with_reducible refine cell_below (by with_reducible assumption) ?_ | with_reducible refine cell_set_other (by omega) ?_))))
      clear hK K
      try (simp only [Act.put]; (try simp only [List.setIfInBounds_toArray]); (try simp only [List.set_cons_succ]); (try simp only [List.set_cons_zero]))
      refine wpAnyH_ready (rs := [11]) (by kernel_rfl) (by simp) ?_
      refine AllReadyH.cons rfl (fun K hK => ?_) AllReadyH.nil
      go_simp
      refine hK.out _ _ ?_ (fun hHeld => ?_)
      · ((try dsimp only); all_goals (refine ⟨?_, ?_, ?_, ?_, ?_, ?_, ?_, ?_, ?_, ?_, ?_, ?_, ?_⟩ <;> (repeat (first | with_reducible assumption | with_reducible apply cell_alloc_some | with_reducible apply cell_drew_some | with_reducible refine cell_below (by with_reducible assumption) ?_ | with_reducible refine cell_set_other (by omega) ?_))))
      clear hK K
      try (simp only [Act.put]; (try simp only [List.setIfInBounds_toArray]); (try simp only [List.set_cons_succ]); (try simp only [List.set_cons_zero]))
      refine wpAnyH_ready (rs := [12]) (by kernel_rfl) (by simp) ?_
      refine AllReadyH.cons rfl (fun K hK => ?_) AllReadyH.nil
      go_simp
      refine hK.out _ _ ?_ (fun hHeld => ?_)
      · ((try dsimp only); all_goals (refine ⟨?_, ?_, ?_, ?_, ?_, ?_, ?_, ?_, ?_, ?_, ?_, ?_, ?_⟩ <;> (repeat (first | with_reducible assumption | with_reducible apply cell_alloc_some | with_reducible apply cell_drew_some | with_reducible refine cell_below (by with_reducible assumption) ?_ | with_reducible refine cell_set_other (by omega) ?_))))
      clear hK K
      try (simp only [Act.put]; (try simp only [List.setIfInBounds_toArray]); (try simp only [List.set_cons_succ]); (try simp only [List.set_cons_zero]))
      refine wpAnyH_take (i := 13) (v := undef) rfl (by kernel_rfl) (by kernel_rfl) (by kernel_rfl) (fun _ _ _ h => h) (Or.inr ⟨by kernel_rfl, Eq.refl undef⟩) (by assumption) ?_
      try (simp only [Act.put]; (try simp only [List.setIfInBounds_toArray]); (try simp only [List.set_cons_succ]); (try simp only [List.set_cons_zero]))
      refine wpAnyH_take (i := 14) (v := undef) rfl (by kernel_rfl) (by kernel_rfl) (by kernel_rfl) (fun _ _ _ h => h) (Or.inr ⟨by kernel_rfl, Eq.refl undef⟩) (by assumption) ?_
      try (simp only [Act.put]; (try simp only [List.setIfInBounds_toArray]); (try simp only [List.set_cons_succ]); (try simp only [List.set_cons_zero]))
      refine wpAnyH_take (i := 15) (v := undef) rfl (by kernel_rfl) (by kernel_rfl) (by kernel_rfl) (fun _ _ _ h => h) (Or.inr ⟨by kernel_rfl, Eq.refl undef⟩) (by assumption) ?_
      try (simp only [Act.put]; (try simp only [List.setIfInBounds_toArray]); (try simp only [List.set_cons_succ]); (try simp only [List.set_cons_zero]))
      refine wpAnyH_take (i := 16) (v := undef) rfl (by kernel_rfl) (by kernel_rfl) (by kernel_rfl) (fun _ _ _ h => h) (Or.inr ⟨by kernel_rfl, Eq.refl undef⟩) (by assumption) ?_
      try (simp only [Act.put]; (try simp only [List.setIfInBounds_toArray]); (try simp only [List.set_cons_succ]); (try simp only [List.set_cons_zero]))
      refine wpAnyH_take (i := 17) (v := undef) rfl (by kernel_rfl) (by kernel_rfl) (by kernel_rfl) (fun _ _ _ h => h) (Or.inr ⟨by kernel_rfl, Eq.refl undef⟩) (by assumption) ?_
      try (simp only [Act.put]; (try simp only [List.setIfInBounds_toArray]); (try simp only [List.set_cons_succ]); (try simp only [List.set_cons_zero]))
      refine wpAnyH_take (i := 18) (v := undef) rfl (by kernel_rfl) (by kernel_rfl) (by kernel_rfl) (fun _ _ _ h => h) (Or.inr ⟨by kernel_rfl, Eq.refl undef⟩) (by assumption) ?_
      try (simp only [Act.put]; (try simp only [List.setIfInBounds_toArray]); (try simp only [List.set_cons_succ]); (try simp only [List.set_cons_zero]))
      refine wpAnyH_take (i := 19) (v := undef) rfl (by kernel_rfl) (by kernel_rfl) (by kernel_rfl) (fun _ _ _ h => h) (Or.inr ⟨by kernel_rfl, Eq.refl undef⟩) (by assumption) ?_
      try (simp only [Act.put]; (try simp only [List.setIfInBounds_toArray]); (try simp only [List.set_cons_succ]); (try simp only [List.set_cons_zero]))
      refine wpAnyH_take (i := 20) (v := undef) rfl (by kernel_rfl) (by kernel_rfl) (by kernel_rfl) (fun _ _ _ h => h) (Or.inr ⟨by kernel_rfl, Eq.refl undef⟩) (by assumption) ?_
      try (simp only [Act.put]; (try simp only [List.setIfInBounds_toArray]); (try simp only [List.set_cons_succ]); (try simp only [List.set_cons_zero]))
      refine wpAnyH_take (i := 21) (v := undef) rfl (by kernel_rfl) (by kernel_rfl) (by kernel_rfl) (fun _ _ _ h => h) (Or.inr ⟨by kernel_rfl, Eq.refl undef⟩) (by assumption) ?_
      try (simp only [Act.put]; (try simp only [List.setIfInBounds_toArray]); (try simp only [List.set_cons_succ]); (try simp only [List.set_cons_zero]))
      refine wpAnyH_take (i := 22) (v := undef) rfl (by kernel_rfl) (by kernel_rfl) (by kernel_rfl) (fun _ _ _ h => h) (Or.inr ⟨by kernel_rfl, Eq.refl undef⟩) (by assumption) ?_
      try (simp only [Act.put]; (try simp only [List.setIfInBounds_toArray]); (try simp only [List.set_cons_succ]); (try simp only [List.set_cons_zero]))
      refine wpAnyH_take (i := 23) (v := undef) rfl (by kernel_rfl) (by kernel_rfl) (by kernel_rfl) (fun _ _ _ h => h) (Or.inr ⟨by kernel_rfl, Eq.refl undef⟩) (by assumption) ?_
      try (simp only [Act.put]; (try simp only [List.setIfInBounds_toArray]); (try simp only [List.set_cons_succ]); (try simp only [List.set_cons_zero]))
      refine wpAnyH_take (i := 24) (v := undef) rfl (by kernel_rfl) (by kernel_rfl) (by kernel_rfl) (fun _ _ _ h => h) (Or.inr ⟨by kernel_rfl, Eq.refl undef⟩) (by assumption) ?_
      try (simp only [Act.put]; (try simp only [List.setIfInBounds_toArray]); (try simp only [List.set_cons_succ]); (try simp only [List.set_cons_zero]))
      refine wpAnyH_ready (rs := [25]) (by kernel_rfl) (by simp) ?_
      refine AllReadyH.cons rfl (fun K hK => ?_) AllReadyH.nil
      go_simp
      refine hK.out _ _ ?_ (fun hHeld => ?_)
      · ((try dsimp only); all_goals (refine ⟨?_, ?_, ?_, ?_, ?_, ?_, ?_, ?_, ?_, ?_, ?_, ?_, ?_⟩ <;> (repeat (first | with_reducible assumption | with_reducible apply cell_alloc_some | with_reducible apply cell_drew_some | with_reducible refine cell_below (by with_reducible assumption) ?_ | with_reducible refine cell_set_other (by omega) ?_))))
      clear hK K
      try (simp only [Act.put]; (try simp only [List.setIfInBounds_toArray]); (try simp only [List.set_cons_succ]); (try simp only [List.set_cons_zero]))
      refine wpAnyH_ready (rs := [26]) (by kernel_rfl) (by simp) ?_
      refine AllReadyH.cons rfl (fun K hK => ?_) AllReadyH.nil
      go_simp
      refine hK.out _ _ ?_ (fun hHeld => ?_)
      · ((try dsimp only); all_goals (refine ⟨?_, ?_, ?_, ?_, ?_, ?_, ?_, ?_, ?_, ?_, ?_, ?_, ?_⟩ <;> (repeat (first | with_reducible assumption | with_reducible apply cell_alloc_some | with_reducible apply cell_drew_some | with_reducible refine cell_below (by with_reducible assumption) ?_ | with_reducible refine cell_set_other (by omega) ?_))))
      clear hK K
      try (simp only [Act.put]; (try simp only [List.setIfInBounds_toArray]); (try simp only [List.set_cons_succ]); (try simp only [List.set_cons_zero]))
      refine wpAnyH_take (i := 27) (v := undef) rfl (by kernel_rfl) (by kernel_rfl) (by kernel_rfl) (fun _ _ _ h => h) (Or.inr ⟨by kernel_rfl, Eq.refl undef⟩) (by assumption) ?_
      try (simp only [Act.put]; (try simp only [List.setIfInBounds_toArray]); (try simp only [List.set_cons_succ]); (try simp only [List.set_cons_zero]))
      refine wpAnyH_take (i := 28) (v := undef) rfl (by kernel_rfl) (by kernel_rfl) (by kernel_rfl) (fun _ _ _ h => h) (Or.inr ⟨by kernel_rfl, Eq.refl undef⟩) (by assumption) ?_
      try (simp only [Act.put]; (try simp only [List.setIfInBounds_toArray]); (try simp only [List.set_cons_succ]); (try simp only [List.set_cons_zero]))
      refine wpAnyH_take (i := 29) (v := undef) rfl (by kernel_rfl) (by kernel_rfl) (by kernel_rfl) (fun _ _ _ h => h) (Or.inr ⟨by kernel_rfl, Eq.refl undef⟩) (by assumption) ?_
      try (simp only [Act.put]; (try simp only [List.setIfInBounds_toArray]); (try simp only [List.set_cons_succ]); (try simp only [List.set_cons_zero]))
      refine wpAnyH_take (i := 30) (v := undef) rfl (by kernel_rfl) (by kernel_rfl) (by kernel_rfl) (fun _ _ _ h => h) (Or.inr ⟨by kernel_rfl, Eq.refl undef⟩) (by assumption) ?_
      try (simp only [Act.put]; (try simp only [List.setIfInBounds_toArray]); (try simp only [List.set_cons_succ]); (try simp only [List.set_cons_zero]))
      refine wpAnyH_take (i := 31) (v := undef) rfl (by kernel_rfl) (by kernel_rfl) (by kernel_rfl) (fun _ _ _ h => h) (Or.inr ⟨by kernel_rfl, Eq.refl undef⟩) (by assumption) ?_
      try (simp only [Act.put]; (try simp only [List.setIfInBounds_toArray]); (try simp only [List.set_cons_succ]); (try simp only [List.set_cons_zero]))
      refine wpAnyH_ready (rs := [32]) (by kernel_rfl) (by simp) ?_
      refine AllReadyH.cons rfl (fun K hK => ?_) AllReadyH.nil
      go_simp
      refine hK.out _ _ ?_ (fun hHeld => ?_)
      · ((try dsimp only); all_goals (refine ⟨?_, ?_, ?_, ?_, ?_, ?_, ?_, ?_, ?_, ?_, ?_, ?_, ?_⟩ <;> (repeat (first | with_reducible assumption | with_reducible apply cell_alloc_some | with_reducible apply cell_drew_some | with_reducible refine cell_below (by with_reducible assumption) ?_ | with_reducible refine cell_set_other (by omega) ?_))))
      clear hK K
      try (simp only [Act.put]; (try simp only [List.setIfInBounds_toArray]); (try simp only [List.set_cons_succ]); (try simp only [List.set_cons_zero]))
      refine wpAnyH_done (by kernel_rfl) ?_ _
      replace I := Lib.hid (I.out.below HBB1.out)
      clear x0 x1 x2 x3 x4 x5 y0 y1 y2 y3 y4 y5 k0 k1 k2 k3 k4 k5
      obtain ⟨x0, x1, x2, x3, x4, x5⟩ := I.out.atx.cells
      obtain ⟨y0, y1, y2, y3, y4, y5⟩ := I.out.aty.cells
      obtain ⟨k0, k1, k2, k3, k4, k5⟩ := I.out.cells
      go_wp2_with ((first
          | (go_at_call 42; (with_reducible refine (prere_b x o _).mono ?_); rintro e w' ⟨rfl, hb⟩)
          | (go_at_call 69; (with_reducible refine (compare_any x y o o' _ _ _ I.out.atx I.out.aty GX.out GY.out I.out.num zx zy).mono ?_); rintro e w' ⟨rfl, hb⟩)
          | (go_at_call 66; (with_reducible refine (errorsNew_any _ _).mono ?_); rintro e w' ⟨⟨et, ev, rfl⟩, hb⟩)
          | (go_at_call 67; (with_reducible refine (equalPtr_any x y o o' _ _ _ I.out.atx I.out.aty GX.out GY.out I.out.num zx zy).mono ?_); rintro e w' ⟨rfl, hb⟩)); clear x0 x1 x2 x3 x4 x5 y0 y1 y2 y3 y4 y5 k0 k1 k2 k3 k4 k5; replace I := Lib.hid (I.out.below hb); clear hb; obtain ⟨x0, x1, x2, x3, x4, x5⟩ := I.out.atx.cells; obtain ⟨y0, y1, y2, y3, y4, y5⟩ := I.out.aty.cells; obtain ⟨k0, k1, k2, k3, k4, k5⟩ := I.out.cells)
      refine bodyPost_ret (results_tmp2 rfl _ _ _) rfl ?_
      refine ⟨⟨_, ret_tup ?_⟩, I.out.bel⟩
      rw [← HR.out]
      have hi2 := HI.out
      have f0 := HDa.out
      clear HR HI I GX GY
      unfold Go.RowKit.Hid at *
      first
        | (simp_all [mostV]; done)
        | (simp_all [mostV]; omega)
        | fail
    · have HDa := Lib.hid ha
      have ga1 : decide (y.a < x.a) = false := by simp; omega
      have ga2 : decide (x.a < y.a) = false := by simp; omega
      clear ha
      have ge : ((x.a : Int) == y.a) = true := by have := HDa.out; simp; omega
      go_upto_region 9 with ((first
          | (go_at_call 42; (with_reducible refine (prere_b x o _).mono ?_); rintro e w' ⟨rfl, hb⟩)
          | (go_at_call 69; (with_reducible refine (compare_any x y o o' _ _ _ I.out.atx I.out.aty GX.out GY.out I.out.num zx zy).mono ?_); rintro e w' ⟨rfl, hb⟩)
          | (go_at_call 66; (with_reducible refine (errorsNew_any _ _).mono ?_); rintro e w' ⟨⟨et, ev, rfl⟩, hb⟩)
          | (go_at_call 67; (with_reducible refine (equalPtr_any x y o o' _ _ _ I.out.atx I.out.aty GX.out GY.out I.out.num zx zy).mono ?_); rintro e w' ⟨rfl, hb⟩)); clear x0 x1 x2 x3 x4 x5 y0 y1 y2 y3 y4 y5 k0 k1 k2 k3 k4 k5; replace I := Lib.hid (I.out.below hb); clear hb; obtain ⟨x0, x1, x2, x3, x4, x5⟩ := I.out.atx.cells; obtain ⟨y0, y1, y2, y3, y4, y5⟩ := I.out.aty.cells; obtain ⟨k0, k1, k2, k3, k4, k5⟩ := I.out.cells)
      go_region_held3 (fun w' => w'.cell? ⟨N, 0, none⟩ = some (.int .u64 x.a) ∧ w'.cell? ⟨N, 1, none⟩ = some (.int .u64 x.b) ∧ w'.cell? ⟨N, 2, none⟩ = some (.int .u64 x.c) ∧ w'.cell? ⟨N, 3, none⟩ = some (.string x.p) ∧ w'.cell? ⟨N, 4, none⟩ = some (.string x.m) ∧ w'.cell? ⟨N, 5, none⟩ = some (.string o) ∧ w'.cell? ⟨M', 0, none⟩ = some (.int .u64 y.a) ∧ w'.cell? ⟨M', 1, none⟩ = some (.int .u64 y.b) ∧ w'.cell? ⟨M', 2, none⟩ = some (.int .u64 y.c) ∧ w'.cell? ⟨M', 3, none⟩ = some (.string y.p) ∧ w'.cell? ⟨M', 4, none⟩ = some (.string y.m) ∧ w'.cell? ⟨M', 5, none⟩ = some (.string o') ∧ w'.cell? ⟨K, 0, none⟩ = some (.pointer (some ⟨M', 0, none⟩))) (first | (refine ⟨?_, ?_, ?_, ?_, ?_, ?_, ?_, ?_, ?_, ?_, ?_, ?_, ?_⟩ <;> (repeat (first | with_reducible assumption | with_reducible apply cell_alloc_some | with_reducible apply cell_drew_some | with_reducible refine cell_below (by with_reducible assumption) ?_ | with_reducible refine cell_set_other (by omega) ?_))) | fail) (first | (go_at_call 39; (with_reducible refine (major_v x o _).mono ?_); rintro e wa1 ⟨rfl, hba⟩; (first | (have HBA1 := Lib.hid (Below.up (w := wb1) (by (repeat (first | exact Below.refl _ _ | apply Below.drew | (apply below_alloc_on (Nat.le_refl _))))) hba)) | (have HBA1 := Lib.hid (Below.up (w := w') (by (repeat (first | exact Below.refl _ _ | apply Below.drew | (apply below_alloc_on (Nat.le_refl _))))) hba)) | (have HBA1 := Lib.hid (Below.up (w := wc) (by (repeat (first | exact Below.refl _ _ | apply Below.drew | (apply below_alloc_on (Nat.le_refl _))))) hba)))) | (go_at_call 39; (with_reducible refine (major_v y o' _).mono ?_); rintro e wb1 ⟨rfl, hbb⟩; have HBB1 := Lib.hid (Below.up HBA1.out (Below.up (w := wa1) (by (repeat (first | exact Below.refl _ _ | apply Below.drew | (apply below_alloc_on (Nat.le_refl _))))) hbb))) | fail)
      replace I := Lib.hid (I.out.below HBB1.out)
      clear x0 x1 x2 x3 x4 x5 y0 y1 y2 y3 y4 y5 k0 k1 k2 k3 k4 k5
      obtain ⟨x0, x1, x2, x3, x4, x5⟩ := I.out.atx.cells
      obtain ⟨y0, y1, y2, y3, y4, y5⟩ := I.out.aty.cells
      obtain ⟨k0, k1, k2, k3, k4, k5⟩ := I.out.cells
      by_cases hb0 : y.b < x.b
      · have HB0 := Lib.hid hb0
        have gb : decide (y.b < x.b) = true := by simp; omega
        clear hb0
        cases mi
        · go_upto_region 11 with ((first
              | (go_at_call 42; (with_reducible refine (prere_b x o _).mono ?_); rintro e w' ⟨rfl, hb⟩)
              | (go_at_call 69; (with_reducible refine (compare_any x y o o' _ _ _ I.out.atx I.out.aty GX.out GY.out I.out.num zx zy).mono ?_); rintro e w' ⟨rfl, hb⟩)
              | (go_at_call 66; (with_reducible refine (errorsNew_any _ _).mono ?_); rintro e w' ⟨⟨et, ev, rfl⟩, hb⟩)
              | (go_at_call 67; (with_reducible refine (equalPtr_any x y o o' _ _ _ I.out.atx I.out.aty GX.out GY.out I.out.num zx zy).mono ?_); rintro e w' ⟨rfl, hb⟩)); clear x0 x1 x2 x3 x4 x5 y0 y1 y2 y3 y4 y5 k0 k1 k2 k3 k4 k5; replace I := Lib.hid (I.out.below hb); clear hb; obtain ⟨x0, x1, x2, x3, x4, x5⟩ := I.out.atx.cells; obtain ⟨y0, y1, y2, y3, y4, y5⟩ := I.out.aty.cells; obtain ⟨k0, k1, k2, k3, k4, k5⟩ := I.out.cells)
          go_region_held3 (fun w' => w'.cell? ⟨N, 0, none⟩ = some (.int .u64 x.a) ∧ w'.cell? ⟨N, 1, none⟩ = some (.int .u64 x.b) ∧ w'.cell? ⟨N, 2, none⟩ = some (.int .u64 x.c) ∧ w'.cell? ⟨N, 3, none⟩ = some (.string x.p) ∧ w'.cell? ⟨N, 4, none⟩ = some (.string x.m) ∧ w'.cell? ⟨N, 5, none⟩ = some (.string o) ∧ w'.cell? ⟨M', 0, none⟩ = some (.int .u64 y.a) ∧ w'.cell? ⟨M', 1, none⟩ = some (.int .u64 y.b) ∧ w'.cell? ⟨M', 2, none⟩ = some (.int .u64 y.c) ∧ w'.cell? ⟨M', 3, none⟩ = some (.string y.p) ∧ w'.cell? ⟨M', 4, none⟩ = some (.string y.m) ∧ w'.cell? ⟨M', 5, none⟩ = some (.string o') ∧ w'.cell? ⟨K, 0, none⟩ = some (.pointer (some ⟨M', 0, none⟩)) ∧ w'.cell? ⟨K, 3, none⟩ = some (.bool false)) (first | (refine ⟨?_, ?_, ?_, ?_, ?_, ?_, ?_, ?_, ?_, ?_, ?_, ?_, ?_, ?_⟩ <;> (repeat (first | with_reducible assumption | with_reducible apply cell_alloc_some | with_reducible apply cell_drew_some | with_reducible refine cell_below (by with_reducible assumption) ?_ | with_reducible refine cell_set_other (by omega) ?_))) | fail) (first | (go_at_call 39; (with_reducible refine (major_v x o _).mono ?_); rintro e wa1 ⟨rfl, hba⟩; (first | (have HBA1 := Lib.hid (Below.up (w := wb1) (by (repeat (first | exact Below.refl _ _ | apply Below.drew | (apply below_alloc_on (Nat.le_refl _))))) hba)) | (have HBA1 := Lib.hid (Below.up (w := w') (by (repeat (first | exact Below.refl _ _ | apply Below.drew | (apply below_alloc_on (Nat.le_refl _))))) hba)) | (have HBA1 := Lib.hid (Below.up (w := wc) (by (repeat (first | exact Below.refl _ _ | apply Below.drew | (apply below_alloc_on (Nat.le_refl _))))) hba)))) | (go_at_call 39; (with_reducible refine (major_v y o' _).mono ?_); rintro e wb1 ⟨rfl, hbb⟩; have HBB1 := Lib.hid (Below.up HBA1.out (Below.up (w := wa1) (by (repeat (first | exact Below.refl _ _ | apply Below.drew | (apply below_alloc_on (Nat.le_refl _))))) hbb))) | (go_at_call 40; (with_reducible refine (minor_v x o _).mono ?_); rintro e wc1 ⟨rfl, hbc⟩; have HBC1 := Lib.hid (Below.up HBB1.out (Below.up (w := wb1) (by (repeat (first | exact Below.refl _ _ | apply Below.drew | (apply below_alloc_on (Nat.le_refl _))))) hbc))) | (go_at_call 40; (with_reducible refine (minor_v y o' _).mono ?_); rintro e wd1 ⟨rfl, hbd⟩; have HBD1 := Lib.hid (Below.up HBC1.out (Below.up (w := wc1) (by (repeat (first | exact Below.refl _ _ | apply Below.drew | (apply below_alloc_on (Nat.le_refl _))))) hbd))) | fail)
          replace I := Lib.hid (I.out.below HBD1.out)
          clear x0 x1 x2 x3 x4 x5 y0 y1 y2 y3 y4 y5 k0 k1 k2 k3 k4 k5
          obtain ⟨x0, x1, x2, x3, x4, x5⟩ := I.out.atx.cells
          obtain ⟨y0, y1, y2, y3, y4, y5⟩ := I.out.aty.cells
          obtain ⟨k0, k1, k2, k3, k4, k5⟩ := I.out.cells
          go_wp2_with ((first
              | (go_at_call 42; (with_reducible refine (prere_b x o _).mono ?_); rintro e w' ⟨rfl, hb⟩)
              | (go_at_call 69; (with_reducible refine (compare_any x y o o' _ _ _ I.out.atx I.out.aty GX.out GY.out I.out.num zx zy).mono ?_); rintro e w' ⟨rfl, hb⟩)
              | (go_at_call 66; (with_reducible refine (errorsNew_any _ _).mono ?_); rintro e w' ⟨⟨et, ev, rfl⟩, hb⟩)
              | (go_at_call 67; (with_reducible refine (equalPtr_any x y o o' _ _ _ I.out.atx I.out.aty GX.out GY.out I.out.num zx zy).mono ?_); rintro e w' ⟨rfl, hb⟩)); clear x0 x1 x2 x3 x4 x5 y0 y1 y2 y3 y4 y5 k0 k1 k2 k3 k4 k5; replace I := Lib.hid (I.out.below hb); clear hb; obtain ⟨x0, x1, x2, x3, x4, x5⟩ := I.out.atx.cells; obtain ⟨y0, y1, y2, y3, y4, y5⟩ := I.out.aty.cells; obtain ⟨k0, k1, k2, k3, k4, k5⟩ := I.out.cells)
          refine bodyPost_ret (results_tmp2 rfl _ _ _) rfl ?_
          refine ⟨⟨_, ret_tup ?_⟩, I.out.bel⟩
          rw [← HR.out]
          have hi2 := HI.out
          have f0 := HDa.out
          have f1 := HB0.out
          clear HR HI I GX GY
          unfold Go.RowKit.Hid at *
          first
            | (simp_all [mostV]; done)
            | (simp_all [mostV]; omega)
            | fail
        · go_upto_region 11 with ((first
              | (go_at_call 42; (with_reducible refine (prere_b x o _).mono ?_); rintro e w' ⟨rfl, hb⟩)
              | (go_at_call 69; (with_reducible refine (compare_any x y o o' _ _ _ I.out.atx I.out.aty GX.out GY.out I.out.num zx zy).mono ?_); rintro e w' ⟨rfl, hb⟩)
              | (go_at_call 66; (with_reducible refine (errorsNew_any _ _).mono ?_); rintro e w' ⟨⟨et, ev, rfl⟩, hb⟩)
              | (go_at_call 67; (with_reducible refine (equalPtr_any x y o o' _ _ _ I.out.atx I.out.aty GX.out GY.out I.out.num zx zy).mono ?_); rintro e w' ⟨rfl, hb⟩)); clear x0 x1 x2 x3 x4 x5 y0 y1 y2 y3 y4 y5 k0 k1 k2 k3 k4 k5; replace I := Lib.hid (I.out.below hb); clear hb; obtain ⟨x0, x1, x2, x3, x4, x5⟩ := I.out.atx.cells; obtain ⟨y0, y1, y2, y3, y4, y5⟩ := I.out.aty.cells; obtain ⟨k0, k1, k2, k3, k4, k5⟩ := I.out.cells)
          go_region_held3 (fun w' => w'.cell? ⟨N, 0, none⟩ = some (.int .u64 x.a) ∧ w'.cell? ⟨N, 1, none⟩ = some (.int .u64 x.b) ∧ w'.cell? ⟨N, 2, none⟩ = some (.int .u64 x.c) ∧ w'.cell? ⟨N, 3, none⟩ = some (.string x.p) ∧ w'.cell? ⟨N, 4, none⟩ = some (.string x.m) ∧ w'.cell? ⟨N, 5, none⟩ = some (.string o) ∧ w'.cell? ⟨M', 0, none⟩ = some (.int .u64 y.a) ∧ w'.cell? ⟨M', 1, none⟩ = some (.int .u64 y.b) ∧ w'.cell? ⟨M', 2, none⟩ = some (.int .u64 y.c) ∧ w'.cell? ⟨M', 3, none⟩ = some (.string y.p) ∧ w'.cell? ⟨M', 4, none⟩ = some (.string y.m) ∧ w'.cell? ⟨M', 5, none⟩ = some (.string o') ∧ w'.cell? ⟨K, 0, none⟩ = some (.pointer (some ⟨M', 0, none⟩)) ∧ w'.cell? ⟨K, 3, none⟩ = some (.bool true)) (first | (refine ⟨?_, ?_, ?_, ?_, ?_, ?_, ?_, ?_, ?_, ?_, ?_, ?_, ?_, ?_⟩ <;> (repeat (first | with_reducible assumption | with_reducible apply cell_alloc_some | with_reducible apply cell_drew_some | with_reducible refine cell_below (by with_reducible assumption) ?_ | with_reducible refine cell_set_other (by omega) ?_))) | fail) (first | (go_at_call 39; (with_reducible refine (major_v x o _).mono ?_); rintro e wa1 ⟨rfl, hba⟩; (first | (have HBA1 := Lib.hid (Below.up (w := wb1) (by (repeat (first | exact Below.refl _ _ | apply Below.drew | (apply below_alloc_on (Nat.le_refl _))))) hba)) | (have HBA1 := Lib.hid (Below.up (w := w') (by (repeat (first | exact Below.refl _ _ | apply Below.drew | (apply below_alloc_on (Nat.le_refl _))))) hba)) | (have HBA1 := Lib.hid (Below.up (w := wc) (by (repeat (first | exact Below.refl _ _ | apply Below.drew | (apply below_alloc_on (Nat.le_refl _))))) hba)))) | (go_at_call 39; (with_reducible refine (major_v y o' _).mono ?_); rintro e wb1 ⟨rfl, hbb⟩; have HBB1 := Lib.hid (Below.up HBA1.out (Below.up (w := wa1) (by (repeat (first | exact Below.refl _ _ | apply Below.drew | (apply below_alloc_on (Nat.le_refl _))))) hbb))) | (go_at_call 40; (with_reducible refine (minor_v x o _).mono ?_); rintro e wc1 ⟨rfl, hbc⟩; have HBC1 := Lib.hid (Below.up HBB1.out (Below.up (w := wb1) (by (repeat (first | exact Below.refl _ _ | apply Below.drew | (apply below_alloc_on (Nat.le_refl _))))) hbc))) | (go_at_call 40; (with_reducible refine (minor_v y o' _).mono ?_); rintro e wd1 ⟨rfl, hbd⟩; have HBD1 := Lib.hid (Below.up HBC1.out (Below.up (w := wc1) (by (repeat (first | exact Below.refl _ _ | apply Below.drew | (apply below_alloc_on (Nat.le_refl _))))) hbd))) | fail)
          replace I := Lib.hid (I.out.below HBD1.out)
          clear x0 x1 x2 x3 x4 x5 y0 y1 y2 y3 y4 y5 k0 k1 k2 k3 k4 k5
          obtain ⟨x0, x1, x2, x3, x4, x5⟩ := I.out.atx.cells
          obtain ⟨y0, y1, y2, y3, y4, y5⟩ := I.out.aty.cells
          obtain ⟨k0, k1, k2, k3, k4, k5⟩ := I.out.cells
          go_wp2_with ((first
              | (go_at_call 42; (with_reducible refine (prere_b x o _).mono ?_); rintro e w' ⟨rfl, hb⟩)
              | (go_at_call 69; (with_reducible refine (compare_any x y o o' _ _ _ I.out.atx I.out.aty GX.out GY.out I.out.num zx zy).mono ?_); rintro e w' ⟨rfl, hb⟩)
              | (go_at_call 66; (with_reducible refine (errorsNew_any _ _).mono ?_); rintro e w' ⟨⟨et, ev, rfl⟩, hb⟩)
              | (go_at_call 67; (with_reducible refine (equalPtr_any x y o o' _ _ _ I.out.atx I.out.aty GX.out GY.out I.out.num zx zy).mono ?_); rintro e w' ⟨rfl, hb⟩)); clear x0 x1 x2 x3 x4 x5 y0 y1 y2 y3 y4 y5 k0 k1 k2 k3 k4 k5; replace I := Lib.hid (I.out.below hb); clear hb; obtain ⟨x0, x1, x2, x3, x4, x5⟩ := I.out.atx.cells; obtain ⟨y0, y1, y2, y3, y4, y5⟩ := I.out.aty.cells; obtain ⟨k0, k1, k2, k3, k4, k5⟩ := I.out.cells)
          refine bodyPost_ret (results_tmp2 rfl _ _ _) rfl ?_
          refine ⟨⟨_, ret_tup ?_⟩, I.out.bel⟩
          rw [← HR.out]
          have hi2 := HI.out
          have f0 := HDa.out
          have f1 := HB0.out
          clear HR HI I GX GY
          unfold Go.RowKit.Hid at *
          first
            | (simp_all [mostV]; done)
            | (simp_all [mostV]; omega)
            | fail
      · have HB0 := Lib.hid hb0
        have gb : decide (y.b < x.b) = false := by simp; omega
        clear hb0
        go_upto_region 11 with ((first
            | (go_at_call 42; (with_reducible refine (prere_b x o _).mono ?_); rintro e w' ⟨rfl, hb⟩)
            | (go_at_call 69; (with_reducible refine (compare_any x y o o' _ _ _ I.out.atx I.out.aty GX.out GY.out I.out.num zx zy).mono ?_); rintro e w' ⟨rfl, hb⟩)
            | (go_at_call 66; (with_reducible refine (errorsNew_any _ _).mono ?_); rintro e w' ⟨⟨et, ev, rfl⟩, hb⟩)
            | (go_at_call 67; (with_reducible refine (equalPtr_any x y o o' _ _ _ I.out.atx I.out.aty GX.out GY.out I.out.num zx zy).mono ?_); rintro e w' ⟨rfl, hb⟩)); clear x0 x1 x2 x3 x4 x5 y0 y1 y2 y3 y4 y5 k0 k1 k2 k3 k4 k5; replace I := Lib.hid (I.out.below hb); clear hb; obtain ⟨x0, x1, x2, x3, x4, x5⟩ := I.out.atx.cells; obtain ⟨y0, y1, y2, y3, y4, y5⟩ := I.out.aty.cells; obtain ⟨k0, k1, k2, k3, k4, k5⟩ := I.out.cells)
        refine wp_region_held_drew (S := (fun w' => w'.cell? ⟨N, 0, none⟩ = some (.int .u64 x.a) ∧ w'.cell? ⟨N, 1, none⟩ = some (.int .u64 x.b) ∧ w'.cell? ⟨N, 2, none⟩ = some (.int .u64 x.c) ∧ w'.cell? ⟨N, 3, none⟩ = some (.string x.p) ∧ w'.cell? ⟨N, 4, none⟩ = some (.string x.m) ∧ w'.cell? ⟨N, 5, none⟩ = some (.string o) ∧ w'.cell? ⟨M', 0, none⟩ = some (.int .u64 y.a) ∧ w'.cell? ⟨M', 1, none⟩ = some (.int .u64 y.b) ∧ w'.cell? ⟨M', 2, none⟩ = some (.int .u64 y.c) ∧ w'.cell? ⟨M', 3, none⟩ = some (.string y.p) ∧ w'.cell? ⟨M', 4, none⟩ = some (.string y.m) ∧ w'.cell? ⟨M', 5, none⟩ = some (.string o') ∧ w'.cell? ⟨K, 0, none⟩ = some (.pointer (some ⟨M', 0, none⟩)))) (by kernel_rfl) ?_ (fun hHeld => ?_)
        · ((try dsimp only); all_goals (refine ⟨?_, ?_, ?_, ?_, ?_, ?_, ?_, ?_, ?_, ?_, ?_, ?_, ?_⟩ <;> (repeat (first | with_reducible assumption | with_reducible apply cell_alloc_some | with_reducible apply cell_drew_some | with_reducible refine cell_below (by with_reducible assumption) ?_ | with_reducible refine cell_set_other (by omega) ?_))))
        refine wpAnyH_take (i := 0) (v := ?_) rfl (by kernel_rfl) (by kernel_rfl) (by kernel_rfl) (fun _ _ _ h => h) (Or.inl ⟨by kernel_rfl, ?_⟩) (by assumption) ?_
        rotate_left
        · (intro w hSw; (try dsimp only at hSw); go_simp <;> with_reducible rfl)
        try (simp only [Act.put]; (try simp only [List.setIfInBounds_toArray]); (try simp only [List.set_cons_succ]); (try simp only [List.set_cons_zero]))
        refine wpAnyH_take (i := 1) (v := ?_) rfl (by kernel_rfl) (by kernel_rfl) (by kernel_rfl) (fun _ _ _ h => h) (Or.inl ⟨by kernel_rfl, ?_⟩) (by assumption) ?_
        rotate_left
        · (intro w hSw; (try dsimp only at hSw); go_simp <;> with_reducible rfl)
        try (simp only [Act.put]; (try simp only [List.setIfInBounds_toArray]); (try simp only [List.set_cons_succ]); (try simp only [List.set_cons_zero]))
        refine wpAnyH_take (i := 2) (v := ?_) rfl (by kernel_rfl) (by kernel_rfl) (by kernel_rfl) (fun _ _ _ h => h) (Or.inl ⟨by kernel_rfl, ?_⟩) (by assumption) ?_
        rotate_left
        · (intro w hSw; (try dsimp only at hSw); go_simp <;> with_reducible rfl)
        try (simp only [Act.put]; (try simp only [List.setIfInBounds_toArray]); (try simp only [List.set_cons_succ]); (try simp only [List.set_cons_zero]))
        refine wpAnyH_take (i := 4) (v := ?_) rfl (by kernel_rfl) (by kernel_rfl) (by kernel_rfl) (fun _ _ _ h => h) (Or.inl ⟨by kernel_rfl, ?_⟩) (by assumption) ?_
        rotate_left
        · (intro w hSw; (try dsimp only at hSw); go_simp <;> with_reducible rfl)
        try (simp only [Act.put]; (try simp only [List.setIfInBounds_toArray]); (try simp only [List.set_cons_succ]); (try simp only [List.set_cons_zero]))
        refine wpAnyH_take (i := 5) (v := ?_) rfl (by kernel_rfl) (by kernel_rfl) (by kernel_rfl) (fun _ _ _ h => h) (Or.inl ⟨by kernel_rfl, ?_⟩) (by assumption) ?_
        rotate_left
        · (intro w hSw; (try dsimp only at hSw); go_simp <;> with_reducible rfl)
        try (simp only [Act.put]; (try simp only [List.setIfInBounds_toArray]); (try simp only [List.set_cons_succ]); (try simp only [List.set_cons_zero]))
        refine wpAnyH_take (i := 6) (v := ?_) rfl (by kernel_rfl) (by kernel_rfl) (by kernel_rfl) (fun _ _ _ h => h) (Or.inl ⟨by kernel_rfl, ?_⟩) (by assumption) ?_
        rotate_left
        · (intro w hSw; (try dsimp only at hSw); go_simp <;> with_reducible rfl)
        try (simp only [Act.put]; (try simp only [List.setIfInBounds_toArray]); (try simp only [List.set_cons_succ]); (try simp only [List.set_cons_zero]))
        refine wpAnyH_take (i := 7) (v := ?_) rfl (by kernel_rfl) (by kernel_rfl) (by kernel_rfl) (fun _ _ _ h => h) (Or.inl ⟨by kernel_rfl, ?_⟩) (by assumption) ?_
        rotate_left
        · (intro w hSw; (try dsimp only at hSw); go_simp <;> with_reducible rfl)
        try (simp only [Act.put]; (try simp only [List.setIfInBounds_toArray]); (try simp only [List.set_cons_succ]); (try simp only [List.set_cons_zero]))
        refine wpAnyH_take (i := 8) (v := ?_) rfl (by kernel_rfl) (by kernel_rfl) (by kernel_rfl) (fun _ _ _ h => h) (Or.inl ⟨by kernel_rfl, ?_⟩) (by assumption) ?_
        rotate_left
        · (intro w hSw; (try dsimp only at hSw); go_simp <;> with_reducible rfl)
        try (simp only [Act.put]; (try simp only [List.setIfInBounds_toArray]); (try simp only [List.set_cons_succ]); (try simp only [List.set_cons_zero]))
        refine wpAnyH_take (i := 9) (v := ?_) rfl (by kernel_rfl) (by kernel_rfl) (by kernel_rfl) (fun _ _ _ h => h) (Or.inl ⟨by kernel_rfl, ?_⟩) (by assumption) ?_
        rotate_left
        · (intro w hSw; (try dsimp only at hSw); go_simp <;> with_reducible rfl)
        try (simp only [Act.put]; (try simp only [List.setIfInBounds_toArray]); (try simp only [List.set_cons_succ]); (try simp only [List.set_cons_zero]))
        refine wpAnyH_ready (rs := [3]) (by kernel_rfl) (by simp) ?_
        refine AllReadyH.cons rfl (fun K hK => ?_) AllReadyH.nil
        go_simp
        (go_at_call 39; (with_reducible refine (major_v x o _).mono ?_); rintro e wa1 ⟨rfl, hba⟩; (first | (have HBA1 := Lib.hid (Below.up (w := wb1) (by (repeat (first | exact Below.refl _ _ | apply Below.drew | (apply below_alloc_on (Nat.le_refl _))))) hba)) | (have HBA1 := Lib.hid (Below.up (w := w') (by (repeat (first | exact Below.refl _ _ | apply Below.drew | (apply below_alloc_on (Nat.le_refl _))))) hba)) | (have HBA1 := Lib.hid (Below.up (w := wc) (by (repeat (first | exact Below.refl _ _ | apply Below.drew | (apply below_alloc_on (Nat.le_refl _))))) hba))))
        refine hK.out _ _ ?_ (fun hHeld => ?_)
        · ((try dsimp only); all_goals (refine ⟨?_, ?_, ?_, ?_, ?_, ?_, ?_, ?_, ?_, ?_, ?_, ?_, ?_⟩ <;> (repeat (first | with_reducible assumption | with_reducible apply cell_alloc_some | with_reducible apply cell_drew_some | with_reducible refine cell_below (by with_reducible assumption) ?_ | with_reducible refine cell_set_other (by omega) ?_))))
        clear hK K
        try (simp only [Act.put]; (try simp only [List.setIfInBounds_toArray]); (try simp only [List.set_cons_succ]); (try simp only [List.set_cons_zero]))
        refine wpAnyH_ready (rs := [10]) (by kernel_rfl) (by simp) ?_
        refine AllReadyH.cons rfl (fun K hK => ?_) AllReadyH.nil
        go_simp
        (go_at_call 39; (with_reducible refine (major_v y o' _).mono ?_); rintro e wb1 ⟨rfl, hbb⟩; have HBB1 := Lib.hid (Below.up HBA1.out (Below.up (w := wa1) (by (repeat (first | exact Below.refl _ _ | apply Below.drew | (apply below_alloc_on (Nat.le_refl _))))) hbb)))
        refine hK.out _ _ ?_ (fun hHeld => ?_)
        · ((try dsimp only); all_goals (refine ⟨?_, ?_, ?_, ?_, ?_, ?_, ?_, ?_, ?_, ?_, ?_, ?_, ?_⟩ <;> (repeat (first | with_reducible assumption | with_reducible apply cell_alloc_some | with_reducible apply cell_drew_some | with_reducible refine cell_below (by with_reducible assumption) ?_ | with_reducible refine cell_set_other (by omega) ?_))))
        clear hK K
        try (simp only [Act.put]; (try simp only [List.setIfInBounds_toArray]); (try simp only [List.set_cons_succ]); (try simp only [List.set_cons_zero]))
        refine wpAnyH_ready (rs := [11]) (by kernel_rfl) (by simp) ?_
        refine AllReadyH.cons rfl (fun K hK => ?_) AllReadyH.nil
        go_simp
        refine hK.out _ _ ?_ (fun hHeld => ?_)
        · ((try dsimp only); all_goals (refine ⟨?_, ?_, ?_, ?_, ?_, ?_, ?_, ?_, ?_, ?_, ?_, ?_, ?_⟩ <;> (repeat (first | with_reducible assumption | with_reducible apply cell_alloc_some | with_reducible apply cell_drew_some | with_reducible refine cell_below (by with_reducible assumption) ?_ | with_reducible refine cell_set_other (by omega) ?_))))
        clear hK K
        try (simp only [Act.put]; (try simp only [List.setIfInBounds_toArray]); (try simp only [List.set_cons_succ]); (try simp only [List.set_cons_zero]))
        refine wpAnyH_ready (rs := [12]) (by kernel_rfl) (by simp) ?_
        refine AllReadyH.cons rfl (fun K hK => ?_) AllReadyH.nil
        go_simp
        refine hK.out _ _ ?_ (fun hHeld => ?_)
        · ((try dsimp only); all_goals (refine ⟨?_, ?_, ?_, ?_, ?_, ?_, ?_, ?_, ?_, ?_, ?_, ?_, ?_⟩ <;> (repeat (first | with_reducible assumption | with_reducible apply cell_alloc_some | with_reducible apply cell_drew_some | with_reducible refine cell_below (by with_reducible assumption) ?_ | with_reducible refine cell_set_other (by omega) ?_))))
        clear hK K
        try (simp only [Act.put]; (try simp only [List.setIfInBounds_toArray]); (try simp only [List.set_cons_succ]); (try simp only [List.set_cons_zero]))
        refine wpAnyH_take (i := 13) (v := ?_) rfl (by kernel_rfl) (by kernel_rfl) (by kernel_rfl) (fun _ _ _ h => h) (Or.inl ⟨by kernel_rfl, ?_⟩) (by assumption) ?_
        rotate_left
        · (intro w hSw; (try dsimp only at hSw); go_simp <;> with_reducible rfl)
        try (simp only [Act.put]; (try simp only [List.setIfInBounds_toArray]); (try simp only [List.set_cons_succ]); (try simp only [List.set_cons_zero]))
        refine wpAnyH_take (i := 14) (v := ?_) rfl (by kernel_rfl) (by kernel_rfl) (by kernel_rfl) (fun _ _ _ h => h) (Or.inl ⟨by kernel_rfl, ?_⟩) (by assumption) ?_
        rotate_left
        · (intro w hSw; (try dsimp only at hSw); go_simp <;> with_reducible rfl)
        try (simp only [Act.put]; (try simp only [List.setIfInBounds_toArray]); (try simp only [List.set_cons_succ]); (try simp only [List.set_cons_zero]))
        refine wpAnyH_take (i := 15) (v := ?_) rfl (by kernel_rfl) (by kernel_rfl) (by kernel_rfl) (fun _ _ _ h => h) (Or.inl ⟨by kernel_rfl, ?_⟩) (by assumption) ?_
        rotate_left
        · (intro w hSw; (try dsimp only at hSw); go_simp <;> with_reducible rfl)
        try (simp only [Act.put]; (try simp only [List.setIfInBounds_toArray]); (try simp only [List.set_cons_succ]); (try simp only [List.set_cons_zero]))
        refine wpAnyH_take (i := 17) (v := ?_) rfl (by kernel_rfl) (by kernel_rfl) (by kernel_rfl) (fun _ _ _ h => h) (Or.inl ⟨by kernel_rfl, ?_⟩) (by assumption) ?_
        rotate_left
        · (intro w hSw; (try dsimp only at hSw); go_simp <;> with_reducible rfl)
        try (simp only [Act.put]; (try simp only [List.setIfInBounds_toArray]); (try simp only [List.set_cons_succ]); (try simp only [List.set_cons_zero]))
        refine wpAnyH_take (i := 18) (v := ?_) rfl (by kernel_rfl) (by kernel_rfl) (by kernel_rfl) (fun _ _ _ h => h) (Or.inl ⟨by kernel_rfl, ?_⟩) (by assumption) ?_
        rotate_left
        · (intro w hSw; (try dsimp only at hSw); go_simp <;> with_reducible rfl)
        try (simp only [Act.put]; (try simp only [List.setIfInBounds_toArray]); (try simp only [List.set_cons_succ]); (try simp only [List.set_cons_zero]))
        refine wpAnyH_take (i := 19) (v := ?_) rfl (by kernel_rfl) (by kernel_rfl) (by kernel_rfl) (fun _ _ _ h => h) (Or.inl ⟨by kernel_rfl, ?_⟩) (by assumption) ?_
        rotate_left
        · (intro w hSw; (try dsimp only at hSw); go_simp <;> with_reducible rfl)
        try (simp only [Act.put]; (try simp only [List.setIfInBounds_toArray]); (try simp only [List.set_cons_succ]); (try simp only [List.set_cons_zero]))
        refine wpAnyH_take (i := 20) (v := ?_) rfl (by kernel_rfl) (by kernel_rfl) (by kernel_rfl) (fun _ _ _ h => h) (Or.inl ⟨by kernel_rfl, ?_⟩) (by assumption) ?_
        rotate_left
        · (intro w hSw; (try dsimp only at hSw); go_simp <;> with_reducible rfl)
        try (simp only [Act.put]; (try simp only [List.setIfInBounds_toArray]); (try simp only [List.set_cons_succ]); (try simp only [List.set_cons_zero]))
        refine wpAnyH_take (i := 21) (v := ?_) rfl (by kernel_rfl) (by kernel_rfl) (by kernel_rfl) (fun _ _ _ h => h) (Or.inl ⟨by kernel_rfl, ?_⟩) (by assumption) ?_
        rotate_left
        · (intro w hSw; (try dsimp only at hSw); go_simp <;> with_reducible rfl)
        try (simp only [Act.put]; (try simp only [List.setIfInBounds_toArray]); (try simp only [List.set_cons_succ]); (try simp only [List.set_cons_zero]))
        refine wpAnyH_take (i := 22) (v := ?_) rfl (by kernel_rfl) (by kernel_rfl) (by kernel_rfl) (fun _ _ _ h => h) (Or.inl ⟨by kernel_rfl, ?_⟩) (by assumption) ?_
        rotate_left
        · (intro w hSw; (try dsimp only at hSw); go_simp <;> with_reducible rfl)
        try (simp only [Act.put]; (try simp only [List.setIfInBounds_toArray]); (try simp only [List.set_cons_succ]); (try simp only [List.set_cons_zero]))
        refine wpAnyH_ready (rs := [16]) (by kernel_rfl) (by simp) ?_
        refine AllReadyH.cons rfl (fun K hK => ?_) AllReadyH.nil
        go_simp
        (go_at_call 40; (with_reducible refine (minor_v x o _).mono ?_); rintro e wc1 ⟨rfl, hbc⟩; have HBC1 := Lib.hid (Below.up HBB1.out (Below.up (w := wb1) (by (repeat (first | exact Below.refl _ _ | apply Below.drew | (apply below_alloc_on (Nat.le_refl _))))) hbc)))
        refine hK.out _ _ ?_ (fun hHeld => ?_)
        · ((try dsimp only); all_goals (refine ⟨?_, ?_, ?_, ?_, ?_, ?_, ?_, ?_, ?_, ?_, ?_, ?_, ?_⟩ <;> (repeat (first | with_reducible assumption | with_reducible apply cell_alloc_some | with_reducible apply cell_drew_some | with_reducible refine cell_below (by with_reducible assumption) ?_ | with_reducible refine cell_set_other (by omega) ?_))))
        clear hK K
        try (simp only [Act.put]; (try simp only [List.setIfInBounds_toArray]); (try simp only [List.set_cons_succ]); (try simp only [List.set_cons_zero]))
        refine wpAnyH_ready (rs := [23]) (by kernel_rfl) (by simp) ?_
        refine AllReadyH.cons rfl (fun K hK => ?_) AllReadyH.nil
        go_simp
        (go_at_call 40; (with_reducible refine (minor_v y o' _).mono ?_); rintro e wd1 ⟨rfl, hbd⟩; have HBD1 := Lib.hid (Below.up HBC1.out (Below.up (w := wc1) (by (repeat (first | exact Below.refl _ _ | apply Below.drew | (apply below_alloc_on (Nat.le_refl _))))) hbd)))
        refine hK.out _ _ ?_ (fun hHeld => ?_)
        · ((try dsimp only); all_goals (refine ⟨?_, ?_, ?_, ?_, ?_, ?_, ?_, ?_, ?_, ?_, ?_, ?_, ?_⟩ <;> (repeat (first | with_reducible assumption | with_reducible apply cell_alloc_some | with_reducible apply cell_drew_some | with_reducible refine cell_below (by with_reducible assumption) ?_ | with_reducible refine cell_set_other (by omega) ?_))))
        clear hK K
        try (simp only [Act.put]; (try simp only [List.setIfInBounds_toArray]); (try simp only [List.set_cons_succ]); (try simp only [List.set_cons_zero]))
        refine wpAnyH_ready (rs := [24]) (by kernel_rfl) (by simp) ?_
        refine AllReadyH.cons rfl (fun K hK => ?_) AllReadyH.nil
        go_simp
        refine hK.out _ _ ?_ (fun hHeld => ?_)
        · ((try dsimp only); all_goals (refine ⟨?_, ?_, ?_, ?_, ?_, ?_, ?_, ?_, ?_, ?_, ?_, ?_, ?_⟩ <;> (repeat (first | with_reducible assumption | with_reducible apply cell_alloc_some | with_reducible apply cell_drew_some | with_reducible refine cell_below (by with_reducible assumption) ?_ | with_reducible refine cell_set_other (by omega) ?_))))
        clear hK K
        try (simp only [Act.put]; (try simp only [List.setIfInBounds_toArray]); (try simp only [List.set_cons_succ]); (try simp only [List.set_cons_zero]))
        refine wpAnyH_ready (rs := [25]) (by kernel_rfl) (by simp) ?_
        refine AllReadyH.cons rfl (fun K hK => ?_) AllReadyH.nil
        go_simp
        refine hK.out _ _ ?_ (fun hHeld => ?_)
        · ((try dsimp only); all_goals (refine ⟨?_, ?_, ?_, ?_, ?_, ?_, ?_, ?_, ?_, ?_, ?_, ?_, ?_⟩ <;> (repeat (first | with_reducible assumption | with_reducible apply cell_alloc_some | with_reducible apply cell_drew_some | with_reducible refine cell_below (by with_reducible assumption) ?_ | with_reducible refine cell_set_other (by omega) ?_))))
        clear hK K
        try (simp only [Act.put]; (try simp only [List.setIfInBounds_toArray]); (try simp only [List.set_cons_succ]); (try simp only [List.set_cons_zero]))
        refine wpAnyH_ready (rs := [26]) (by kernel_rfl) (by simp) ?_
        refine AllReadyH.cons rfl (fun K hK => ?_) AllReadyH.nil
        go_simp
        refine hK.out _ _ ?_ (fun hHeld => ?_)
        · ((try dsimp only); all_goals (refine ⟨?_, ?_, ?_, ?_, ?_, ?_, ?_, ?_, ?_, ?_, ?_, ?_, ?_⟩ <;> (repeat (first | with_reducible assumption | with_reducible apply cell_alloc_some | with_reducible apply cell_drew_some | with_reducible refine cell_below (by with_reducible assumption) ?_ | with_reducible refine cell_set_other (by omega) ?_))))
        clear hK K
        try (simp only [Act.put]; (try simp only [List.setIfInBounds_toArray]); (try simp only [List.set_cons_succ]); (try simp only [List.set_cons_zero]))
        refine wpAnyH_take (i := 27) (v := undef) rfl (by kernel_rfl) (by kernel_rfl) (by kernel_rfl) (fun _ _ _ h => h) (Or.inr ⟨by kernel_rfl, Eq.refl undef⟩) (by assumption) ?_
        try (simp only [Act.put]; (try simp only [List.setIfInBounds_toArray]); (try simp only [List.set_cons_succ]); (try simp only [List.set_cons_zero]))
        refine wpAnyH_take (i := 28) (v := undef) rfl (by kernel_rfl) (by kernel_rfl) (by kernel_rfl) (fun _ _ _ h => h) (Or.inr ⟨by kernel_rfl, Eq.refl undef⟩) (by assumption) ?_
        try (simp only [Act.put]; (try simp only [List.setIfInBounds_toArray]); (try simp only [List.set_cons_succ]); (try simp only [List.set_cons_zero]))
        refine wpAnyH_take (i := 29) (v := undef) rfl (by kernel_rfl) (by kernel_rfl) (by kernel_rfl) (fun _ _ _ h => h) (Or.inr ⟨by kernel_rfl, Eq.refl undef⟩) (by assumption) ?_
        try (simp only [Act.put]; (try simp only [List.setIfInBounds_toArray]); (try simp only [List.set_cons_succ]); (try simp only [List.set_cons_zero]))
        refine wpAnyH_take (i := 30) (v := undef) rfl (by kernel_rfl) (by kernel_rfl) (by kernel_rfl) (fun _ _ _ h => h) (Or.inr ⟨by kernel_rfl, Eq.refl undef⟩) (by assumption) ?_
        try (simp only [Act.put]; (try simp only [List.setIfInBounds_toArray]); (try simp only [List.set_cons_succ]); (try simp only [List.set_cons_zero]))
        refine wpAnyH_take (i := 31) (v := undef) rfl (by kernel_rfl) (by kernel_rfl) (by kernel_rfl) (fun _ _ _ h => h) (Or.inr ⟨by kernel_rfl, Eq.refl undef⟩) (by assumption) ?_
        try (simp only [Act.put]; (try simp only [List.setIfInBounds_toArray]); (try simp only [List.set_cons_succ]); (try simp only [List.set_cons_zero]))
        refine wpAnyH_ready (rs := [32]) (by kernel_rfl) (by simp) ?_
        refine AllReadyH.cons rfl (fun K hK => ?_) AllReadyH.nil
        go_simp
        refine hK.out _ _ ?_ (fun hHeld => ?_)
        · ((try dsimp only); all_goals (refine ⟨?_, ?_, ?_, ?_, ?_, ?_, ?_, ?_, ?_, ?_, ?_, ?_, ?_⟩ <;> (repeat (first | with_reducible assumption | with_reducible apply cell_alloc_some | with_reducible apply cell_drew_some | with_reducible refine cell_below (by with_reducible assumption) ?_ | with_reducible refine cell_set_other (by omega) ?_))))
        clear hK K
        try (simp only [Act.put]; (try simp only [List.setIfInBounds_toArray]); (try simp only [List.set_cons_succ]); (try simp only [List.set_cons_zero]))
        refine wpAnyH_done (by kernel_rfl) ?_ _
        replace I := Lib.hid (I.out.below HBD1.out)
        clear x0 x1 x2 x3 x4 x5 y0 y1 y2 y3 y4 y5 k0 k1 k2 k3 k4 k5
        obtain ⟨x0, x1, x2, x3, x4, x5⟩ := I.out.atx.cells
        obtain ⟨y0, y1, y2, y3, y4, y5⟩ := I.out.aty.cells
        obtain ⟨k0, k1, k2, k3, k4, k5⟩ := I.out.cells
        go_wp2_with ((first
            | (go_at_call 42; (with_reducible refine (prere_b x o _).mono ?_); rintro e w' ⟨rfl, hb⟩)
            | (go_at_call 69; (with_reducible refine (compare_any x y o o' _ _ _ I.out.atx I.out.aty GX.out GY.out I.out.num zx zy).mono ?_); rintro e w' ⟨rfl, hb⟩)
            | (go_at_call 66; (with_reducible refine (errorsNew_any _ _).mono ?_); rintro e w' ⟨⟨et, ev, rfl⟩, hb⟩)
            | (go_at_call 67; (with_reducible refine (equalPtr_any x y o o' _ _ _ I.out.atx I.out.aty GX.out GY.out I.out.num zx zy).mono ?_); rintro e w' ⟨rfl, hb⟩)); clear x0 x1 x2 x3 x4 x5 y0 y1 y2 y3 y4 y5 k0 k1 k2 k3 k4 k5; replace I := Lib.hid (I.out.below hb); clear hb; obtain ⟨x0, x1, x2, x3, x4, x5⟩ := I.out.atx.cells; obtain ⟨y0, y1, y2, y3, y4, y5⟩ := I.out.aty.cells; obtain ⟨k0, k1, k2, k3, k4, k5⟩ := I.out.cells)
        refine bodyPost_ret (results_tmp2 rfl _ _ _) rfl ?_
        refine ⟨⟨_, ret_tup ?_⟩, I.out.bel⟩
        rw [← HR.out]
        have hi2 := HI.out
        have f0 := HDa.out
        have f1 := HB0.out
        clear HR HI I GX GY
        unfold Go.RowKit.Hid at *
        first
          | (simp_all [mostV]; done)
          | (simp_all [mostV]; omega)
          | fail
    · have HDa := Lib.hid ha
      have ga1 : decide (y.a < x.a) = true := by simp; omega
      have ga2 : decide (x.a < y.a) = false := by simp; omega
      clear ha
      go_upto_region 9 with ((first
          | (go_at_call 42; (with_reducible refine (prere_b x o _).mono ?_); rintro e w' ⟨rfl, hb⟩)
          | (go_at_call 69; (with_reducible refine (compare_any x y o o' _ _ _ I.out.atx I.out.aty GX.out GY.out I.out.num zx zy).mono ?_); rintro e w' ⟨rfl, hb⟩)
          | (go_at_call 66; (with_reducible refine (errorsNew_any _ _).mono ?_); rintro e w' ⟨⟨et, ev, rfl⟩, hb⟩)
          | (go_at_call 67; (with_reducible refine (equalPtr_any x y o o' _ _ _ I.out.atx I.out.aty GX.out GY.out I.out.num zx zy).mono ?_); rintro e w' ⟨rfl, hb⟩)); clear x0 x1 x2 x3 x4 x5 y0 y1 y2 y3 y4 y5 k0 k1 k2 k3 k4 k5; replace I := Lib.hid (I.out.below hb); clear hb; obtain ⟨x0, x1, x2, x3, x4, x5⟩ := I.out.atx.cells; obtain ⟨y0, y1, y2, y3, y4, y5⟩ := I.out.aty.cells; obtain ⟨k0, k1, k2, k3, k4, k5⟩ := I.out.cells)
      go_region_held3 (fun w' => w'.cell? ⟨N, 0, none⟩ = some (.int .u64 x.a) ∧ w'.cell? ⟨N, 1, none⟩ = some (.int .u64 x.b) ∧ w'.cell? ⟨N, 2, none⟩ = some (.int .u64 x.c) ∧ w'.cell? ⟨N, 3, none⟩ = some (.string x.p) ∧ w'.cell? ⟨N, 4, none⟩ = some (.string x.m) ∧ w'.cell? ⟨N, 5, none⟩ = some (.string o) ∧ w'.cell? ⟨M', 0, none⟩ = some (.int .u64 y.a) ∧ w'.cell? ⟨M', 1, none⟩ = some (.int .u64 y.b) ∧ w'.cell? ⟨M', 2, none⟩ = some (.int .u64 y.c) ∧ w'.cell? ⟨M', 3, none⟩ = some (.string y.p) ∧ w'.cell? ⟨M', 4, none⟩ = some (.string y.m) ∧ w'.cell? ⟨M', 5, none⟩ = some (.string o') ∧ w'.cell? ⟨K, 0, none⟩ = some (.pointer (some ⟨M', 0, none⟩))) (first | (refine ⟨?_, ?_, ?_, ?_, ?_, ?_, ?_, ?_, ?_, ?_, ?_, ?_, ?_⟩ <;> (repeat (first | with_reducible assumption | with_reducible apply cell_alloc_some | with_reducible apply cell_drew_some | with_reducible refine cell_below (by with_reducible assumption) ?_ | with_reducible refine cell_set_other (by omega) ?_))) | fail) (first | (go_at_call 39; (with_reducible refine (major_v x o _).mono ?_); rintro e wa1 ⟨rfl, hba⟩; (first | (have HBA1 := Lib.hid (Below.up (w := wb1) (by (repeat (first | exact Below.refl _ _ | apply Below.drew | (apply below_alloc_on (Nat.le_refl _))))) hba)) | (have HBA1 := Lib.hid (Below.up (w := w') (by (repeat (first | exact Below.refl _ _ | apply Below.drew | (apply below_alloc_on (Nat.le_refl _))))) hba)) | (have HBA1 := Lib.hid (Below.up (w := wc) (by (repeat (first | exact Below.refl _ _ | apply Below.drew | (apply below_alloc_on (Nat.le_refl _))))) hba)))) | (go_at_call 39; (with_reducible refine (major_v y o' _).mono ?_); rintro e wb1 ⟨rfl, hbb⟩; have HBB1 := Lib.hid (Below.up HBA1.out (Below.up (w := wa1) (by (repeat (first | exact Below.refl _ _ | apply Below.drew | (apply below_alloc_on (Nat.le_refl _))))) hbb))) | fail)
      replace I := Lib.hid (I.out.below HBB1.out)
      clear x0 x1 x2 x3 x4 x5 y0 y1 y2 y3 y4 y5 k0 k1 k2 k3 k4 k5
      obtain ⟨x0, x1, x2, x3, x4, x5⟩ := I.out.atx.cells
      obtain ⟨y0, y1, y2, y3, y4, y5⟩ := I.out.aty.cells
      obtain ⟨k0, k1, k2, k3, k4, k5⟩ := I.out.cells
      go_wp2_with ((first
          | (go_at_call 42; (with_reducible refine (prere_b x o _).mono ?_); rintro e w' ⟨rfl, hb⟩)
          | (go_at_call 69; (with_reducible refine (compare_any x y o o' _ _ _ I.out.atx I.out.aty GX.out GY.out I.out.num zx zy).mono ?_); rintro e w' ⟨rfl, hb⟩)
          | (go_at_call 66; (with_reducible refine (errorsNew_any _ _).mono ?_); rintro e w' ⟨⟨et, ev, rfl⟩, hb⟩)
          | (go_at_call 67; (with_reducible refine (equalPtr_any x y o o' _ _ _ I.out.atx I.out.aty GX.out GY.out I.out.num zx zy).mono ?_); rintro e w' ⟨rfl, hb⟩)); clear x0 x1 x2 x3 x4 x5 y0 y1 y2 y3 y4 y5 k0 k1 k2 k3 k4 k5; replace I := Lib.hid (I.out.below hb); clear hb; obtain ⟨x0, x1, x2, x3, x4, x5⟩ := I.out.atx.cells; obtain ⟨y0, y1, y2, y3, y4, y5⟩ := I.out.aty.cells; obtain ⟨k0, k1, k2, k3, k4, k5⟩ := I.out.cells)
      refine bodyPost_ret (results_tmp2 rfl _ _ _) rfl ?_
      refine ⟨⟨_, ret_tup ?_⟩, I.out.bel⟩
      rw [← HR.out]
      have hi2 := HI.out
      have f0 := HDa.out
      clear HR HI I GX GY
      unfold Go.RowKit.Hid at *
      first
        | (simp_all [mostV]; done)
        | (simp_all [mostV]; omega)
        | fail
end Go.Proofs.YtnkdpgcfaelpkaaDoor
