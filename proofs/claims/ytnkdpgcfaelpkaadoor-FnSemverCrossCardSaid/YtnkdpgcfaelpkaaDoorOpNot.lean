/-
  constraintNotEqual.
-/
import Derived.Test.YtnkdpgcfaelpkaaDoorCons
import Derived.Test.YtnkdpgcfaelpkaaDoorOpEq
namespace Go.Proofs.YtnkdpgcfaelpkaaDoor
open Go.RowKit
set_option maxRecDepth 100000
set_option linter.unusedVariables false

theorem CSt.up {w wx wy wz : World} {N K M' : Nat} {x y : V} {o o' s : ByteArray} {di mi pa : Bool} (h : CSt w wx N K M' x y o o' s di mi pa) (b : Below wx.heap.size wx wy) (c : Below wy.heap.size wy wz) : CSt w wz N K M' x y o o' s di mi pa :=
  h.below (Below.up b c)
/-- what a check says of != -/
def notV (x y : V) (di mi pa : Bool) : Bool :=
  if di then
    if y.a == x.a then
      if y.b == x.b then
        if mi then false
        else if y.c == x.c then (if pa then decide (M.bs x.p ≠ []) else !decide (x.cmp y = 0))
        else if pa then decide (M.bs x.p ≠ []) else true
      else if mi then false else true
    else true
  else !decide (x.cmp y = 0)
set_option maxHeartbeats 16000000 in
theorem notC_any (x y : V) (o o' s : ByteArray) (N K M' : Nat) (di mi pa pre : Bool) (w : World) (I : Hid (CSt w w N K M' x y o o' s di mi pa)) (HP : Hid (pa = true → M.bs y.p = [])) (GX : Hid x.pGood) (GY : Hid y.pGood) (zx : x.p.size ≤ 2147483647) (zy : y.p.size ≤ 2147483647) (r : Bool) (HR : Hid ((x.inl pre && notV x y di mi pa) = r)) :
    Calls Tryd.prog 56 #[.pointer (some ⟨N, 0, none⟩), .pointer (some ⟨K, 0, none⟩), .bool pre] w fun e w' => (∃ ev, e = .returned (.tuple #[.bool r, ev])) ∧ Below w.heap.size w w' := by
  obtain ⟨x0, x1, x2, x3, x4, x5⟩ := I.out.atx.cells; obtain ⟨y0, y1, y2, y3, y4, y5⟩ := I.out.aty.cells; obtain ⟨k0, k1, k2, k3, k4, k5⟩ := I.out.cells
  rcases hi : x.inl pre with _ | _
  · have HI := Lib.hid hi
    have hpre : pre = false := by cases pre with | false => rfl | true => simp [V.inl] at hi
    subst hpre
    have hp : x.p.toList.isEmpty = false := bs_isEmpty (by simpa [V.inl] using hi)
    clear hi
    go_enter Tryd.func56, Tryd.ntmps56
    go_wp2_with ((first
    | (go_at_call 42; (with_reducible refine (prere_b x o _).mono ?_); rintro e w' ⟨rfl, hb⟩)
    | (go_at_call 69; (with_reducible refine (compare_any x y o o' _ _ _ I.out.atx I.out.aty GX.out GY.out I.out.num zx zy).mono ?_); rintro e w' ⟨rfl, hb⟩)
    | (go_at_call 66; (with_reducible refine (errorsNew_any _ _).mono ?_); rintro e w' ⟨⟨et, ev, rfl⟩, hb⟩)
    | (go_at_call 67; (with_reducible refine (equalPtr_any x y o o' _ _ _ I.out.atx I.out.aty GX.out GY.out I.out.num zx zy).mono ?_); rintro e w' ⟨rfl, hb⟩)
    | (go_at_call 42; (with_reducible refine (prere_b y o' _).mono ?_); rintro e w' ⟨rfl, hb⟩)); clear x0 x1 x2 x3 x4 x5 y0 y1 y2 y3 y4 y5 k0 k1 k2 k3 k4 k5; replace I := Lib.hid (I.out.below hb); clear hb; obtain ⟨x0, x1, x2, x3, x4, x5⟩ := I.out.atx.cells; obtain ⟨y0, y1, y2, y3, y4, y5⟩ := I.out.aty.cells; obtain ⟨k0, k1, k2, k3, k4, k5⟩ := I.out.cells)
    refine bodyPost_ret (results_tmp2 rfl _ _ _) rfl ?_
    refine ⟨⟨_, ret_tup ?_⟩, I.out.bel⟩
    rw [← HR.out]
    rw [HI.out]; rfl
  have HI := Lib.hid hi
  have hlc : ((!x.p.toList.isEmpty) && !pre) = false := by
    cases pre with
    | true => simp
    | false =>
      have : (M.bs x.p).isEmpty = true := by simpa [V.inl] using hi
      rw [toList_bs, this]; rfl
  clear hi
  go_enter Tryd.func56, Tryd.ntmps56
  go_upto_region 1 with fail
  go_cut [18] (fun s17 wx => s17 = .bool false ∧ Hid (CSt w wx N K M' x y o o' s di mi pa))
  case first =>
    rcases empty_cases x.p with ⟨hp, hq⟩ | ⟨hp, hq⟩
    all_goals clear hq
    all_goals cases pre
    all_goals try (rw [hp] at hlc; cases hlc; done)
    all_goals clear hlc
    all_goals go_wp2_with ((first
    | (go_at_call 42; (with_reducible refine (prere_b x o _).mono ?_); rintro e w' ⟨rfl, hb⟩)
    | (go_at_call 69; (with_reducible refine (compare_any x y o o' _ _ _ I.out.atx I.out.aty GX.out GY.out I.out.num zx zy).mono ?_); rintro e w' ⟨rfl, hb⟩)
    | (go_at_call 66; (with_reducible refine (errorsNew_any _ _).mono ?_); rintro e w' ⟨⟨et, ev, rfl⟩, hb⟩)
    | (go_at_call 67; (with_reducible refine (equalPtr_any x y o o' _ _ _ I.out.atx I.out.aty GX.out GY.out I.out.num zx zy).mono ?_); rintro e w' ⟨rfl, hb⟩)
    | (go_at_call 42; (with_reducible refine (prere_b y o' _).mono ?_); rintro e w' ⟨rfl, hb⟩)); clear x0 x1 x2 x3 x4 x5 y0 y1 y2 y3 y4 y5 k0 k1 k2 k3 k4 k5; replace I := Lib.hid (I.out.below hb); clear hb; obtain ⟨x0, x1, x2, x3, x4, x5⟩ := I.out.atx.cells; obtain ⟨y0, y1, y2, y3, y4, y5⟩ := I.out.aty.cells; obtain ⟨k0, k1, k2, k3, k4, k5⟩ := I.out.cells)
    all_goals go_meet
    all_goals exact ⟨rfl, I⟩
  case rest =>
  obtain ⟨rfl, I2⟩ := hcut
  clear x0 x1 x2 x3 x4 x5 y0 y1 y2 y3 y4 y5 k0 k1 k2 k3 k4 k5
  clear I hlc
  have I := I2
  clear I2
  obtain ⟨x0, x1, x2, x3, x4, x5⟩ := I.out.atx.cells
  obtain ⟨y0, y1, y2, y3, y4, y5⟩ := I.out.aty.cells
  obtain ⟨k0, k1, k2, k3, k4, k5⟩ := I.out.cells
  cases di
  · by_cases hk : x.cmp y = 0
    all_goals have HK := Lib.hid hk
    all_goals go_wp2_with ((first
        | (go_at_call 42; (with_reducible refine (prere_b x o _).mono ?_); rintro e w' ⟨rfl, hb⟩)
        | (go_at_call 69; (with_reducible refine (compare_any x y o o' _ _ _ I.out.atx I.out.aty GX.out GY.out I.out.num zx zy).mono ?_); rintro e w' ⟨rfl, hb⟩)
        | (go_at_call 66; (with_reducible refine (errorsNew_any _ _).mono ?_); rintro e w' ⟨⟨et, ev, rfl⟩, hb⟩)
        | (go_at_call 67; (with_reducible refine (equalPtr_any x y o o' _ _ _ I.out.atx I.out.aty GX.out GY.out I.out.num zx zy).mono ?_); rintro e w' ⟨rfl, hb⟩)); clear x0 x1 x2 x3 x4 x5 y0 y1 y2 y3 y4 y5 k0 k1 k2 k3 k4 k5; replace I := Lib.hid (I.out.below hb); clear hb; obtain ⟨x0, x1, x2, x3, x4, x5⟩ := I.out.atx.cells; obtain ⟨y0, y1, y2, y3, y4, y5⟩ := I.out.aty.cells; obtain ⟨k0, k1, k2, k3, k4, k5⟩ := I.out.cells)
    all_goals
      refine bodyPost_ret (results_tmp2 rfl _ _ _) rfl ?_
      refine ⟨⟨_, ret_tup ?_⟩, I.out.bel⟩
      rw [← HR.out]
      have hi2 := HI.out
      have f0 := HK.out
      clear HR HI I GX GY
      unfold Go.RowKit.Hid at *
      first
        | (simp_all [notV]; done)
        | (simp_all [notV]; omega)
        | fail
  · rcases hva : ((y.a : Int) != x.a) with _ | _
    · have HVa := Lib.hid (eq_int hva)
      go_upto_region 4 with ((first
          | (go_at_call 42; (with_reducible refine (prere_b x o _).mono ?_); rintro e w' ⟨rfl, hb⟩)
          | (go_at_call 69; (with_reducible refine (compare_any x y o o' _ _ _ I.out.atx I.out.aty GX.out GY.out I.out.num zx zy).mono ?_); rintro e w' ⟨rfl, hb⟩)
          | (go_at_call 66; (with_reducible refine (errorsNew_any _ _).mono ?_); rintro e w' ⟨⟨et, ev, rfl⟩, hb⟩)
          | (go_at_call 67; (with_reducible refine (equalPtr_any x y o o' _ _ _ I.out.atx I.out.aty GX.out GY.out I.out.num zx zy).mono ?_); rintro e w' ⟨rfl, hb⟩)
          | (go_at_call 42; (with_reducible refine (prere_b y o' _).mono ?_); rintro e w' ⟨rfl, hb⟩)); clear x0 x1 x2 x3 x4 x5 y0 y1 y2 y3 y4 y5 k0 k1 k2 k3 k4 k5; replace I := Lib.hid (I.out.below hb); clear hb; obtain ⟨x0, x1, x2, x3, x4, x5⟩ := I.out.atx.cells; obtain ⟨y0, y1, y2, y3, y4, y5⟩ := I.out.aty.cells; obtain ⟨k0, k1, k2, k3, k4, k5⟩ := I.out.cells)
      go_region_held3 (fun w' => w'.cell? ⟨N, 0, none⟩ = some (.int .u64 x.a) ∧ w'.cell? ⟨N, 1, none⟩ = some (.int .u64 x.b) ∧ w'.cell? ⟨N, 2, none⟩ = some (.int .u64 x.c) ∧ w'.cell? ⟨N, 3, none⟩ = some (.string x.p) ∧ w'.cell? ⟨N, 4, none⟩ = some (.string x.m) ∧ w'.cell? ⟨N, 5, none⟩ = some (.string o) ∧ w'.cell? ⟨M', 0, none⟩ = some (.int .u64 y.a) ∧ w'.cell? ⟨M', 1, none⟩ = some (.int .u64 y.b) ∧ w'.cell? ⟨M', 2, none⟩ = some (.int .u64 y.c) ∧ w'.cell? ⟨M', 3, none⟩ = some (.string y.p) ∧ w'.cell? ⟨M', 4, none⟩ = some (.string y.m) ∧ w'.cell? ⟨M', 5, none⟩ = some (.string o') ∧ w'.cell? ⟨K, 0, none⟩ = some (.pointer (some ⟨M', 0, none⟩))) (first | (refine ⟨?_, ?_, ?_, ?_, ?_, ?_, ?_, ?_, ?_, ?_, ?_, ?_, ?_⟩ <;> (repeat (first | with_reducible assumption | with_reducible apply cell_alloc_some | with_reducible apply cell_drew_some | with_reducible refine cell_below (by with_reducible assumption) ?_ | with_reducible refine cell_set_other (by omega) ?_))) | fail) (first | (go_at_call 39; (with_reducible refine (major_v y o' _).mono ?_); rintro e wa1 ⟨rfl, hba⟩; (first | (have HBA1 := Lib.hid (Below.up (w := wb1) (by (repeat (first | exact Below.refl _ _ | apply Below.drew | (apply below_alloc_on (Nat.le_refl _))))) hba)) | (have HBA1 := Lib.hid (Below.up (w := w') (by (repeat (first | exact Below.refl _ _ | apply Below.drew | (apply below_alloc_on (Nat.le_refl _))))) hba)) | (have HBA1 := Lib.hid (Below.up (w := wc) (by (repeat (first | exact Below.refl _ _ | apply Below.drew | (apply below_alloc_on (Nat.le_refl _))))) hba)))) | (go_at_call 39; (with_reducible refine (major_v x o _).mono ?_); rintro e wb1 ⟨rfl, hbb⟩; have HBB1 := Lib.hid (Below.up HBA1.out (Below.up (w := wa1) (by (repeat (first | exact Below.refl _ _ | apply Below.drew | (apply below_alloc_on (Nat.le_refl _))))) hbb))) | fail)
      replace I := Lib.hid (I.out.below HBB1.out)
      clear x0 x1 x2 x3 x4 x5 y0 y1 y2 y3 y4 y5 k0 k1 k2 k3 k4 k5
      obtain ⟨x0, x1, x2, x3, x4, x5⟩ := I.out.atx.cells
      obtain ⟨y0, y1, y2, y3, y4, y5⟩ := I.out.aty.cells
      obtain ⟨k0, k1, k2, k3, k4, k5⟩ := I.out.cells
      rcases hvb : ((y.b : Int) != x.b) with _ | _
      · have HVb := Lib.hid (eq_int hvb)
        go_upto_region 6 with ((first
            | (go_at_call 42; (with_reducible refine (prere_b x o _).mono ?_); rintro e w' ⟨rfl, hb⟩)
            | (go_at_call 69; (with_reducible refine (compare_any x y o o' _ _ _ I.out.atx I.out.aty GX.out GY.out I.out.num zx zy).mono ?_); rintro e w' ⟨rfl, hb⟩)
            | (go_at_call 66; (with_reducible refine (errorsNew_any _ _).mono ?_); rintro e w' ⟨⟨et, ev, rfl⟩, hb⟩)
            | (go_at_call 67; (with_reducible refine (equalPtr_any x y o o' _ _ _ I.out.atx I.out.aty GX.out GY.out I.out.num zx zy).mono ?_); rintro e w' ⟨rfl, hb⟩)
            | (go_at_call 42; (with_reducible refine (prere_b y o' _).mono ?_); rintro e w' ⟨rfl, hb⟩)); clear x0 x1 x2 x3 x4 x5 y0 y1 y2 y3 y4 y5 k0 k1 k2 k3 k4 k5; replace I := Lib.hid (I.out.below hb); clear hb; obtain ⟨x0, x1, x2, x3, x4, x5⟩ := I.out.atx.cells; obtain ⟨y0, y1, y2, y3, y4, y5⟩ := I.out.aty.cells; obtain ⟨k0, k1, k2, k3, k4, k5⟩ := I.out.cells)
        refine wp_region_held_drew (S := (fun w' => w'.cell? ⟨N, 0, none⟩ = some (.int .u64 x.a) ∧ w'.cell? ⟨N, 1, none⟩ = some (.int .u64 x.b) ∧ w'.cell? ⟨N, 2, none⟩ = some (.int .u64 x.c) ∧ w'.cell? ⟨N, 3, none⟩ = some (.string x.p) ∧ w'.cell? ⟨N, 4, none⟩ = some (.string x.m) ∧ w'.cell? ⟨N, 5, none⟩ = some (.string o) ∧ w'.cell? ⟨M', 0, none⟩ = some (.int .u64 y.a) ∧ w'.cell? ⟨M', 1, none⟩ = some (.int .u64 y.b) ∧ w'.cell? ⟨M', 2, none⟩ = some (.int .u64 y.c) ∧ w'.cell? ⟨M', 3, none⟩ = some (.string y.p) ∧ w'.cell? ⟨M', 4, none⟩ = some (.string y.m) ∧ w'.cell? ⟨M', 5, none⟩ = some (.string o') ∧ w'.cell? ⟨K, 0, none⟩ = some (.pointer (some ⟨M', 0, none⟩)))) (by kernel_rfl) ?_ (fun hHeld => ?_)
        · ((try dsimp only); all_goals (refine ⟨?_, ?_, ?_, ?_, ?_, ?_, ?_, ?_, ?_, ?_, ?_, ?_, ?_⟩ <;> (repeat (first | with_reducible assumption | with_reducible apply cell_alloc_some | with_reducible apply cell_drew_some | with_reducible refine cell_below (by with_reducible assumption) ?_ | with_reducible refine cell_set_other (by omega) ?_))))
        refine wpAnyH_take (i := 0) (v := ?_) rfl (by kernel_rfl) (by kernel_rfl) (by kernel_rfl) (fun _ _ _ h => h) (Or.inl ⟨by kernel_rfl, ?_⟩) (by assumption) ?_
        rotate_left
        · (intro w hSw; (try dsimp only at hSw); go_simp <;> with_reducible rfl)
        try (simp only [Act.put]; (try simp only [List.setIfInBounds_toArray]); (try simp only [List.set_cons_succ]); (try simp only [List.set_cons_zero]))
        refine wpAnyH_take (i := 1) (v := ?_) rfl (by kernel_rfl) (by kernel_rfl) (by kernel_rfl) (fun _ _ _ h => h) (Or.inl ⟨by kernel_rfl, ?_⟩) (by assumption) ?_
        rotate_left
        · (intro w hSw; (try dsimp only at hSw); go_simp <;> with_reducible rfl)
        try (simp only [Act.put]; (try simp only [List.setIfInBounds_toArray]); (try simp only [List.set_cons_succ]); (try simp only [List.set_cons_zero]))
        refine wpAnyH_take (i := 2) (v := ?_) rfl (by kernel_rfl) (by kernel_rfl) (by kernel_rfl) (fun _ _ _ h => h) (Or.inl ⟨by kernel_rfl, ?_⟩) (by assumption) ?_
        rotate_left
        · (intro w hSw; (try dsimp only at hSw); go_simp <;> with_reducible rfl)
        try (simp only [Act.put]; (try simp only [List.setIfInBounds_toArray]); (try simp only [List.set_cons_succ]); (try simp only [List.set_cons_zero]))
        refine wpAnyH_take (i := 3) (v := ?_) rfl (by kernel_rfl) (by kernel_rfl) (by kernel_rfl) (fun _ _ _ h => h) (Or.inl ⟨by kernel_rfl, ?_⟩) (by assumption) ?_
        rotate_left
        · (intro w hSw; (try dsimp only at hSw); go_simp <;> with_reducible rfl)
        try (simp only [Act.put]; (try simp only [List.setIfInBounds_toArray]); (try simp only [List.set_cons_succ]); (try simp only [List.set_cons_zero]))
        refine wpAnyH_take (i := 4) (v := ?_) rfl (by kernel_rfl) (by kernel_rfl) (by kernel_rfl) (fun _ _ _ h => h) (Or.inl ⟨by kernel_rfl, ?_⟩) (by assumption) ?_
        rotate_left
        · (intro w hSw; (try dsimp only at hSw); go_simp <;> with_reducible rfl)
        try (simp only [Act.put]; (try simp only [List.setIfInBounds_toArray]); (try simp only [List.set_cons_succ]); (try simp only [List.set_cons_zero]))
        refine wpAnyH_take (i := 5) (v := ?_) rfl (by kernel_rfl) (by kernel_rfl) (by kernel_rfl) (fun _ _ _ h => h) (Or.inl ⟨by kernel_rfl, ?_⟩) (by assumption) ?_
        rotate_left
        · (intro w hSw; (try dsimp only at hSw); go_simp <;> with_reducible rfl)
        try (simp only [Act.put]; (try simp only [List.setIfInBounds_toArray]); (try simp only [List.set_cons_succ]); (try simp only [List.set_cons_zero]))
        refine wpAnyH_take (i := 7) (v := ?_) rfl (by kernel_rfl) (by kernel_rfl) (by kernel_rfl) (fun _ _ _ h => h) (Or.inl ⟨by kernel_rfl, ?_⟩) (by assumption) ?_
        rotate_left
        · (intro w hSw; (try dsimp only at hSw); go_simp <;> with_reducible rfl)
        try (simp only [Act.put]; (try simp only [List.setIfInBounds_toArray]); (try simp only [List.set_cons_succ]); (try simp only [List.set_cons_zero]))
        refine wpAnyH_take (i := 8) (v := ?_) rfl (by kernel_rfl) (by kernel_rfl) (by kernel_rfl) (fun _ _ _ h => h) (Or.inl ⟨by kernel_rfl, ?_⟩) (by assumption) ?_
        rotate_left
        · (intro w hSw; (try dsimp only at hSw); go_simp <;> with_reducible rfl)
        try (simp only [Act.put]; (try simp only [List.setIfInBounds_toArray]); (try simp only [List.set_cons_succ]); (try simp only [List.set_cons_zero]))
        refine wpAnyH_take (i := 9) (v := ?_) rfl (by kernel_rfl) (by kernel_rfl) (by kernel_rfl) (fun _ _ _ h => h) (Or.inl ⟨by kernel_rfl, ?_⟩) (by assumption) ?_
        rotate_left
        · (intro w hSw; (try dsimp only at hSw); go_simp <;> with_reducible rfl)
        try (simp only [Act.put]; (try simp only [List.setIfInBounds_toArray]); (try simp only [List.set_cons_succ]); (try simp only [List.set_cons_zero]))
        refine wpAnyH_ready (rs := [6]) (by kernel_rfl) (by simp) ?_
        refine AllReadyH.cons rfl (fun K hK => ?_) AllReadyH.nil
        go_simp
        (go_at_call 40; (with_reducible refine (minor_v y o' _).mono ?_); rintro e wa1 ⟨rfl, hba⟩; (first | (have HBA1 := Lib.hid (Below.up (w := wb1) (by (repeat (first | exact Below.refl _ _ | apply Below.drew | (apply below_alloc_on (Nat.le_refl _))))) hba)) | (have HBA1 := Lib.hid (Below.up (w := w') (by (repeat (first | exact Below.refl _ _ | apply Below.drew | (apply below_alloc_on (Nat.le_refl _))))) hba)) | (have HBA1 := Lib.hid (Below.up (w := wc) (by (repeat (first | exact Below.refl _ _ | apply Below.drew | (apply below_alloc_on (Nat.le_refl _))))) hba))))
        refine hK.out _ _ ?_ (fun hHeld => ?_)
        · ((try dsimp only); all_goals (refine ⟨?_, ?_, ?_, ?_, ?_, ?_, ?_, ?_, ?_, ?_, ?_, ?_, ?_⟩ <;> (repeat (first | with_reducible assumption | with_reducible apply cell_alloc_some | with_reducible apply cell_drew_some | with_reducible refine cell_below (by with_reducible assumption) ?_ | with_reducible refine cell_set_other (by omega) ?_))))
        clear hK K
        try (simp only [Act.put]; (try simp only [List.setIfInBounds_toArray]); (try simp only [List.set_cons_succ]); (try simp only [List.set_cons_zero]))
        refine wpAnyH_ready (rs := [10]) (by kernel_rfl) (by simp) ?_
        refine AllReadyH.cons rfl (fun K hK => ?_) AllReadyH.nil
        go_simp
        (go_at_call 40; (with_reducible refine (minor_v x o _).mono ?_); rintro e wb1 ⟨rfl, hbb⟩; have HBB1 := Lib.hid (Below.up HBA1.out (Below.up (w := wa1) (by (repeat (first | exact Below.refl _ _ | apply Below.drew | (apply below_alloc_on (Nat.le_refl _))))) hbb)))
        refine hK.out _ _ ?_ (fun hHeld => ?_)
        · ((try dsimp only); all_goals (refine ⟨?_, ?_, ?_, ?_, ?_, ?_, ?_, ?_, ?_, ?_, ?_, ?_, ?_⟩ <;> (repeat (first | with_reducible assumption | with_reducible apply cell_alloc_some | with_reducible apply cell_drew_some | with_reducible refine cell_below (by with_reducible assumption) ?_ | with_reducible refine cell_set_other (by omega) ?_))))
        clear hK K
        try (simp only [Act.put]; (try simp only [List.setIfInBounds_toArray]); (try simp only [List.set_cons_succ]); (try simp only [List.set_cons_zero]))
        refine wpAnyH_ready (rs := [11]) (by kernel_rfl) (by simp) ?_
        refine AllReadyH.cons rfl (fun K hK => ?_) AllReadyH.nil
        go_simp
        refine hK.out _ _ ?_ (fun hHeld => ?_)
        · ((try dsimp only); all_goals (refine ⟨?_, ?_, ?_, ?_, ?_, ?_, ?_, ?_, ?_, ?_, ?_, ?_, ?_⟩ <;> (repeat (first | with_reducible assumption | with_reducible apply cell_alloc_some | with_reducible apply cell_drew_some | with_reducible refine cell_below (by with_reducible assumption) ?_ | with_reducible refine cell_set_other (by omega) ?_))))
        clear hK K
        try (simp only [Act.put]; (try simp only [List.setIfInBounds_toArray]); (try simp only [List.set_cons_succ]); (try simp only [List.set_cons_zero]))
        refine wpAnyH_ready (rs := [12]) (by kernel_rfl) (by simp) ?_
        refine AllReadyH.cons rfl (fun K hK => ?_) AllReadyH.nil
        go_simp
        refine hK.out _ _ ?_ (fun hHeld => ?_)
        · ((try dsimp only); all_goals (refine ⟨?_, ?_, ?_, ?_, ?_, ?_, ?_, ?_, ?_, ?_, ?_, ?_, ?_⟩ <;> (repeat (first | with_reducible assumption | with_reducible apply cell_alloc_some | with_reducible apply cell_drew_some | with_reducible refine cell_below (by with_reducible assumption) ?_ | with_reducible refine cell_set_other (by omega) ?_))))
        clear hK K
        try (simp only [Act.put]; (try simp only [List.setIfInBounds_toArray]); (try simp only [List.set_cons_succ]); (try simp only [List.set_cons_zero]))
        refine wpAnyH_take (i := 13) (v := undef) rfl (by kernel_rfl) (by kernel_rfl) (by kernel_rfl) (fun _ _ _ h => h) (Or.inr ⟨by kernel_rfl, Eq.refl undef⟩) (by assumption) ?_
        try (simp only [Act.put]; (try simp only [List.setIfInBounds_toArray]); (try simp only [List.set_cons_succ]); (try simp only [List.set_cons_zero]))
        refine wpAnyH_take (i := 14) (v := undef) rfl (by kernel_rfl) (by kernel_rfl) (by kernel_rfl) (fun _ _ _ h => h) (Or.inr ⟨by kernel_rfl, Eq.refl undef⟩) (by assumption) ?_
        try (simp only [Act.put]; (try simp only [List.setIfInBounds_toArray]); (try simp only [List.set_cons_succ]); (try simp only [List.set_cons_zero]))
        refine wpAnyH_take (i := 15) (v := undef) rfl (by kernel_rfl) (by kernel_rfl) (by kernel_rfl) (fun _ _ _ h => h) (Or.inr ⟨by kernel_rfl, Eq.refl undef⟩) (by assumption) ?_
        try (simp only [Act.put]; (try simp only [List.setIfInBounds_toArray]); (try simp only [List.set_cons_succ]); (try simp only [List.set_cons_zero]))
        refine wpAnyH_take (i := 16) (v := undef) rfl (by kernel_rfl) (by kernel_rfl) (by kernel_rfl) (fun _ _ _ h => h) (Or.inr ⟨by kernel_rfl, Eq.refl undef⟩) (by assumption) ?_
        try (simp only [Act.put]; (try simp only [List.setIfInBounds_toArray]); (try simp only [List.set_cons_succ]); (try simp only [List.set_cons_zero]))
        refine wpAnyH_take (i := 17) (v := undef) rfl (by kernel_rfl) (by kernel_rfl) (by kernel_rfl) (fun _ _ _ h => h) (Or.inr ⟨by kernel_rfl, Eq.refl undef⟩) (by assumption) ?_
        try (simp only [Act.put]; (try simp only [List.setIfInBounds_toArray]); (try simp only [List.set_cons_succ]); (try simp only [List.set_cons_zero]))
        refine wpAnyH_ready (rs := [18]) (by kernel_rfl) (by simp) ?_
        refine AllReadyH.cons rfl (fun K hK => ?_) AllReadyH.nil
        go_simp
        refine hK.out _ _ ?_ (fun hHeld => ?_)
        · ((try dsimp only); all_goals (refine ⟨?_, ?_, ?_, ?_, ?_, ?_, ?_, ?_, ?_, ?_, ?_, ?_, ?_⟩ <;> (repeat (first | with_reducible assumption | with_reducible apply cell_alloc_some | with_reducible apply cell_drew_some | with_reducible refine cell_below (by with_reducible assumption) ?_ | with_reducible refine cell_set_other (by omega) ?_))))
        clear hK K
        try (simp only [Act.put]; (try simp only [List.setIfInBounds_toArray]); (try simp only [List.set_cons_succ]); (try simp only [List.set_cons_zero]))
        refine wpAnyH_done (by kernel_rfl) ?_ _
        replace I := Lib.hid (I.out.below HBB1.out)
        clear x0 x1 x2 x3 x4 x5 y0 y1 y2 y3 y4 y5 k0 k1 k2 k3 k4 k5
        obtain ⟨x0, x1, x2, x3, x4, x5⟩ := I.out.atx.cells
        obtain ⟨y0, y1, y2, y3, y4, y5⟩ := I.out.aty.cells
        obtain ⟨k0, k1, k2, k3, k4, k5⟩ := I.out.cells
        cases mi
        · rcases hvc : ((y.c : Int) != x.c) with _ | _
          · have HVc := Lib.hid (eq_int hvc)
            go_upto_region 10 with ((first
                | (go_at_call 42; (with_reducible refine (prere_b x o _).mono ?_); rintro e w' ⟨rfl, hb⟩)
                | (go_at_call 69; (with_reducible refine (compare_any x y o o' _ _ _ I.out.atx I.out.aty GX.out GY.out I.out.num zx zy).mono ?_); rintro e w' ⟨rfl, hb⟩)
                | (go_at_call 66; (with_reducible refine (errorsNew_any _ _).mono ?_); rintro e w' ⟨⟨et, ev, rfl⟩, hb⟩)
                | (go_at_call 67; (with_reducible refine (equalPtr_any x y o o' _ _ _ I.out.atx I.out.aty GX.out GY.out I.out.num zx zy).mono ?_); rintro e w' ⟨rfl, hb⟩)
                | (go_at_call 42; (with_reducible refine (prere_b y o' _).mono ?_); rintro e w' ⟨rfl, hb⟩)); clear x0 x1 x2 x3 x4 x5 y0 y1 y2 y3 y4 y5 k0 k1 k2 k3 k4 k5; replace I := Lib.hid (I.out.below hb); clear hb; obtain ⟨x0, x1, x2, x3, x4, x5⟩ := I.out.atx.cells; obtain ⟨y0, y1, y2, y3, y4, y5⟩ := I.out.aty.cells; obtain ⟨k0, k1, k2, k3, k4, k5⟩ := I.out.cells)
            refine wp_region_held_drew (S := (fun w' => w'.cell? ⟨N, 0, none⟩ = some (.int .u64 x.a) ∧ w'.cell? ⟨N, 1, none⟩ = some (.int .u64 x.b) ∧ w'.cell? ⟨N, 2, none⟩ = some (.int .u64 x.c) ∧ w'.cell? ⟨N, 3, none⟩ = some (.string x.p) ∧ w'.cell? ⟨N, 4, none⟩ = some (.string x.m) ∧ w'.cell? ⟨N, 5, none⟩ = some (.string o) ∧ w'.cell? ⟨M', 0, none⟩ = some (.int .u64 y.a) ∧ w'.cell? ⟨M', 1, none⟩ = some (.int .u64 y.b) ∧ w'.cell? ⟨M', 2, none⟩ = some (.int .u64 y.c) ∧ w'.cell? ⟨M', 3, none⟩ = some (.string y.p) ∧ w'.cell? ⟨M', 4, none⟩ = some (.string y.m) ∧ w'.cell? ⟨M', 5, none⟩ = some (.string o') ∧ w'.cell? ⟨K, 0, none⟩ = some (.pointer (some ⟨M', 0, none⟩)))) (by kernel_rfl) ?_ (fun hHeld => ?_)
            · ((try dsimp only); all_goals (refine ⟨?_, ?_, ?_, ?_, ?_, ?_, ?_, ?_, ?_, ?_, ?_, ?_, ?_⟩ <;> (repeat (first | with_reducible assumption | with_reducible apply cell_alloc_some | with_reducible apply cell_drew_some | with_reducible refine cell_below (by with_reducible assumption) ?_ | with_reducible refine cell_set_other (by omega) ?_))))
            refine wpAnyH_take (i := 0) (v := ?_) rfl (by kernel_rfl) (by kernel_rfl) (by kernel_rfl) (fun _ _ _ h => h) (Or.inl ⟨by kernel_rfl, ?_⟩) (by assumption) ?_
            rotate_left
            · (intro w hSw; (try dsimp only at hSw); go_simp <;> with_reducible rfl)
            try (simp only [Act.put]; (try simp only [List.setIfInBounds_toArray]); (try simp only [List.set_cons_succ]); (try simp only [List.set_cons_zero]))
            refine wpAnyH_take (i := 1) (v := ?_) rfl (by kernel_rfl) (by kernel_rfl) (by kernel_rfl) (fun _ _ _ h => h) (Or.inl ⟨by kernel_rfl, ?_⟩) (by assumption) ?_
            rotate_left
            · (intro w hSw; (try dsimp only at hSw); go_simp <;> with_reducible rfl)
            try (simp only [Act.put]; (try simp only [List.setIfInBounds_toArray]); (try simp only [List.set_cons_succ]); (try simp only [List.set_cons_zero]))
            refine wpAnyH_take (i := 2) (v := ?_) rfl (by kernel_rfl) (by kernel_rfl) (by kernel_rfl) (fun _ _ _ h => h) (Or.inl ⟨by kernel_rfl, ?_⟩) (by assumption) ?_
            rotate_left
            · (intro w hSw; (try dsimp only at hSw); go_simp <;> with_reducible rfl)
            try (simp only [Act.put]; (try simp only [List.setIfInBounds_toArray]); (try simp only [List.set_cons_succ]); (try simp only [List.set_cons_zero]))
            refine wpAnyH_take (i := 3) (v := ?_) rfl (by kernel_rfl) (by kernel_rfl) (by kernel_rfl) (fun _ _ _ h => h) (Or.inl ⟨by kernel_rfl, ?_⟩) (by assumption) ?_
            rotate_left
            · (intro w hSw; (try dsimp only at hSw); go_simp <;> with_reducible rfl)
            try (simp only [Act.put]; (try simp only [List.setIfInBounds_toArray]); (try simp only [List.set_cons_succ]); (try simp only [List.set_cons_zero]))
            refine wpAnyH_take (i := 4) (v := ?_) rfl (by kernel_rfl) (by kernel_rfl) (by kernel_rfl) (fun _ _ _ h => h) (Or.inl ⟨by kernel_rfl, ?_⟩) (by assumption) ?_
            rotate_left
            · (intro w hSw; (try dsimp only at hSw); go_simp <;> with_reducible rfl)
            try (simp only [Act.put]; (try simp only [List.setIfInBounds_toArray]); (try simp only [List.set_cons_succ]); (try simp only [List.set_cons_zero]))
            refine wpAnyH_take (i := 5) (v := ?_) rfl (by kernel_rfl) (by kernel_rfl) (by kernel_rfl) (fun _ _ _ h => h) (Or.inl ⟨by kernel_rfl, ?_⟩) (by assumption) ?_
            rotate_left
            · (intro w hSw; (try dsimp only at hSw); go_simp <;> with_reducible rfl)
            try (simp only [Act.put]; (try simp only [List.setIfInBounds_toArray]); (try simp only [List.set_cons_succ]); (try simp only [List.set_cons_zero]))
            refine wpAnyH_take (i := 7) (v := ?_) rfl (by kernel_rfl) (by kernel_rfl) (by kernel_rfl) (fun _ _ _ h => h) (Or.inl ⟨by kernel_rfl, ?_⟩) (by assumption) ?_
            rotate_left
            · (intro w hSw; (try dsimp only at hSw); go_simp <;> with_reducible rfl)
            try (simp only [Act.put]; (try simp only [List.setIfInBounds_toArray]); (try simp only [List.set_cons_succ]); (try simp only [List.set_cons_zero]))
            refine wpAnyH_take (i := 8) (v := ?_) rfl (by kernel_rfl) (by kernel_rfl) (by kernel_rfl) (fun _ _ _ h => h) (Or.inl ⟨by kernel_rfl, ?_⟩) (by assumption) ?_
            rotate_left
            · (intro w hSw; (try dsimp only at hSw); go_simp <;> with_reducible rfl)
            try (simp only [Act.put]; (try simp only [List.setIfInBounds_toArray]); (try simp only [List.set_cons_succ]); (try simp only [List.set_cons_zero]))
            refine wpAnyH_take (i := 9) (v := ?_) rfl (by kernel_rfl) (by kernel_rfl) (by kernel_rfl) (fun _ _ _ h => h) (Or.inl ⟨by kernel_rfl, ?_⟩) (by assumption) ?_
            rotate_left
            · (intro w hSw; (try dsimp only at hSw); go_simp <;> with_reducible rfl)
            try (simp only [Act.put]; (try simp only [List.setIfInBounds_toArray]); (try simp only [List.set_cons_succ]); (try simp only [List.set_cons_zero]))
            refine wpAnyH_ready (rs := [6]) (by kernel_rfl) (by simp) ?_
            refine AllReadyH.cons rfl (fun K hK => ?_) AllReadyH.nil
            go_simp
            (go_at_call 41; (with_reducible refine (patch_v y o' _).mono ?_); rintro e wa1 ⟨rfl, hba⟩; (first | (have HBA1 := Lib.hid (Below.up (w := wb1) (by (repeat (first | exact Below.refl _ _ | apply Below.drew | (apply below_alloc_on (Nat.le_refl _))))) hba)) | (have HBA1 := Lib.hid (Below.up (w := w') (by (repeat (first | exact Below.refl _ _ | apply Below.drew | (apply below_alloc_on (Nat.le_refl _))))) hba)) | (have HBA1 := Lib.hid (Below.up (w := wc) (by (repeat (first | exact Below.refl _ _ | apply Below.drew | (apply below_alloc_on (Nat.le_refl _))))) hba))))
            refine hK.out _ _ ?_ (fun hHeld => ?_)
            · ((try dsimp only); all_goals (refine ⟨?_, ?_, ?_, ?_, ?_, ?_, ?_, ?_, ?_, ?_, ?_, ?_, ?_⟩ <;> (repeat (first | with_reducible assumption | with_reducible apply cell_alloc_some | with_reducible apply cell_drew_some | with_reducible refine cell_below (by with_reducible assumption) ?_ | with_reducible refine cell_set_other (by omega) ?_))))
            clear hK K
            try (simp only [Act.put]; (try simp only [List.setIfInBounds_toArray]); (try simp only [List.set_cons_succ]); (try simp only [List.set_cons_zero]))
            refine wpAnyH_ready (rs := [10]) (by kernel_rfl) (by simp) ?_
            refine AllReadyH.cons rfl (fun K hK => ?_) AllReadyH.nil
            go_simp
            (go_at_call 41; (with_reducible refine (patch_v x o _).mono ?_); rintro e wb1 ⟨rfl, hbb⟩; have HBB1 := Lib.hid (Below.up HBA1.out (Below.up (w := wa1) (by (repeat (first | exact Below.refl _ _ | apply Below.drew | (apply below_alloc_on (Nat.le_refl _))))) hbb)))
            refine hK.out _ _ ?_ (fun hHeld => ?_)
            · ((try dsimp only); all_goals (refine ⟨?_, ?_, ?_, ?_, ?_, ?_, ?_, ?_, ?_, ?_, ?_, ?_, ?_⟩ <;> (repeat (first | with_reducible assumption | with_reducible apply cell_alloc_some | with_reducible apply cell_drew_some | with_reducible refine cell_below (by with_reducible assumption) ?_ | with_reducible refine cell_set_other (by omega) ?_))))
            clear hK K
            try (simp only [Act.put]; (try simp only [List.setIfInBounds_toArray]); (try simp only [List.set_cons_succ]); (try simp only [List.set_cons_zero]))
            refine wpAnyH_ready (rs := [11]) (by kernel_rfl) (by simp) ?_
            refine AllReadyH.cons rfl (fun K hK => ?_) AllReadyH.nil
            go_simp
            refine hK.out _ _ ?_ (fun hHeld => ?_)
            · ((try dsimp only); all_goals (refine ⟨?_, ?_, ?_, ?_, ?_, ?_, ?_, ?_, ?_, ?_, ?_, ?_, ?_⟩ <;> (repeat (first | with_reducible assumption | with_reducible apply cell_alloc_some | with_reducible apply cell_drew_some | with_reducible refine cell_below (by with_reducible assumption) ?_ | with_reducible refine cell_set_other (by omega) ?_))))
            clear hK K
            try (simp only [Act.put]; (try simp only [List.setIfInBounds_toArray]); (try simp only [List.set_cons_succ]); (try simp only [List.set_cons_zero]))
            refine wpAnyH_ready (rs := [12]) (by kernel_rfl) (by simp) ?_
            refine AllReadyH.cons rfl (fun K hK => ?_) AllReadyH.nil
            go_simp
            refine hK.out _ _ ?_ (fun hHeld => ?_)
            · ((try dsimp only); all_goals (refine ⟨?_, ?_, ?_, ?_, ?_, ?_, ?_, ?_, ?_, ?_, ?_, ?_, ?_⟩ <;> (repeat (first | with_reducible assumption | with_reducible apply cell_alloc_some | with_reducible apply cell_drew_some | with_reducible refine cell_below (by with_reducible assumption) ?_ | with_reducible refine cell_set_other (by omega) ?_))))
            clear hK K
            try (simp only [Act.put]; (try simp only [List.setIfInBounds_toArray]); (try simp only [List.set_cons_succ]); (try simp only [List.set_cons_zero]))
            refine wpAnyH_take (i := 13) (v := undef) rfl (by kernel_rfl) (by kernel_rfl) (by kernel_rfl) (fun _ _ _ h => h) (Or.inr ⟨by kernel_rfl, Eq.refl undef⟩) (by assumption) ?_
            try (simp only [Act.put]; (try simp only [List.setIfInBounds_toArray]); (try simp only [List.set_cons_succ]); (try simp only [List.set_cons_zero]))
            refine wpAnyH_take (i := 14) (v := undef) rfl (by kernel_rfl) (by kernel_rfl) (by kernel_rfl) (fun _ _ _ h => h) (Or.inr ⟨by kernel_rfl, Eq.refl undef⟩) (by assumption) ?_
            try (simp only [Act.put]; (try simp only [List.setIfInBounds_toArray]); (try simp only [List.set_cons_succ]); (try simp only [List.set_cons_zero]))
            refine wpAnyH_take (i := 15) (v := undef) rfl (by kernel_rfl) (by kernel_rfl) (by kernel_rfl) (fun _ _ _ h => h) (Or.inr ⟨by kernel_rfl, Eq.refl undef⟩) (by assumption) ?_
            try (simp only [Act.put]; (try simp only [List.setIfInBounds_toArray]); (try simp only [List.set_cons_succ]); (try simp only [List.set_cons_zero]))
            refine wpAnyH_take (i := 16) (v := undef) rfl (by kernel_rfl) (by kernel_rfl) (by kernel_rfl) (fun _ _ _ h => h) (Or.inr ⟨by kernel_rfl, Eq.refl undef⟩) (by assumption) ?_
            try (simp only [Act.put]; (try simp only [List.setIfInBounds_toArray]); (try simp only [List.set_cons_succ]); (try simp only [List.set_cons_zero]))
            refine wpAnyH_take (i := 17) (v := undef) rfl (by kernel_rfl) (by kernel_rfl) (by kernel_rfl) (fun _ _ _ h => h) (Or.inr ⟨by kernel_rfl, Eq.refl undef⟩) (by assumption) ?_
            try (simp only [Act.put]; (try simp only [List.setIfInBounds_toArray]); (try simp only [List.set_cons_succ]); (try simp only [List.set_cons_zero]))
            refine wpAnyH_ready (rs := [18]) (by kernel_rfl) (by simp) ?_
            refine AllReadyH.cons rfl (fun K hK => ?_) AllReadyH.nil
            go_simp
            refine hK.out _ _ ?_ (fun hHeld => ?_)
            · ((try dsimp only); all_goals (refine ⟨?_, ?_, ?_, ?_, ?_, ?_, ?_, ?_, ?_, ?_, ?_, ?_, ?_⟩ <;> (repeat (first | with_reducible assumption | with_reducible apply cell_alloc_some | with_reducible apply cell_drew_some | with_reducible refine cell_below (by with_reducible assumption) ?_ | with_reducible refine cell_set_other (by omega) ?_))))
            clear hK K
            try (simp only [Act.put]; (try simp only [List.setIfInBounds_toArray]); (try simp only [List.set_cons_succ]); (try simp only [List.set_cons_zero]))
            refine wpAnyH_done (by kernel_rfl) ?_ _
            replace I := Lib.hid (I.out.below HBB1.out)
            clear x0 x1 x2 x3 x4 x5 y0 y1 y2 y3 y4 y5 k0 k1 k2 k3 k4 k5
            obtain ⟨x0, x1, x2, x3, x4, x5⟩ := I.out.atx.cells
            obtain ⟨y0, y1, y2, y3, y4, y5⟩ := I.out.aty.cells
            obtain ⟨k0, k1, k2, k3, k4, k5⟩ := I.out.cells
            cases pa
            · by_cases hk : x.cmp y = 0
              all_goals have HK := Lib.hid hk
              all_goals go_wp2_with ((first
                  | (go_at_call 42; (with_reducible refine (prere_b x o _).mono ?_); rintro e w' ⟨rfl, hb⟩)
                  | (go_at_call 69; (with_reducible refine (compare_any x y o o' _ _ _ I.out.atx I.out.aty GX.out GY.out I.out.num zx zy).mono ?_); rintro e w' ⟨rfl, hb⟩)
                  | (go_at_call 66; (with_reducible refine (errorsNew_any _ _).mono ?_); rintro e w' ⟨⟨et, ev, rfl⟩, hb⟩)
                  | (go_at_call 67; (with_reducible refine (equalPtr_any x y o o' _ _ _ I.out.atx I.out.aty GX.out GY.out I.out.num zx zy).mono ?_); rintro e w' ⟨rfl, hb⟩)); clear x0 x1 x2 x3 x4 x5 y0 y1 y2 y3 y4 y5 k0 k1 k2 k3 k4 k5; replace I := Lib.hid (I.out.below hb); clear hb; obtain ⟨x0, x1, x2, x3, x4, x5⟩ := I.out.atx.cells; obtain ⟨y0, y1, y2, y3, y4, y5⟩ := I.out.aty.cells; obtain ⟨k0, k1, k2, k3, k4, k5⟩ := I.out.cells)
              all_goals
                refine bodyPost_ret (results_tmp2 rfl _ _ _) rfl ?_
                refine ⟨⟨_, ret_tup ?_⟩, I.out.bel⟩
                rw [← HR.out]
                have hi2 := HI.out
                have f0 := HVa.out
                have f1 := HVb.out
                have f2 := HVc.out
                have f3 := HK.out
                clear HR HI I GX GY
                unfold Go.RowKit.Hid at *
                first
                  | (simp_all [notV]; done)
                  | (simp_all [notV]; omega)
                  | fail
            · have hye : y.p.toList = [] := empty_toList (HP.out (by first | rfl | trivial))
              by_cases hx0 : M.bs x.p = []
              · have HX := Lib.hid hx0
                have hxe : x.p.toList = [] := empty_toList hx0
                clear hx0
                go_wp2_with ((first
                    | (go_at_call 42; (with_reducible refine (prere_b x o _).mono ?_); rintro e w' ⟨rfl, hb⟩)
                    | (go_at_call 69; (with_reducible refine (compare_any x y o o' _ _ _ I.out.atx I.out.aty GX.out GY.out I.out.num zx zy).mono ?_); rintro e w' ⟨rfl, hb⟩)
                    | (go_at_call 66; (with_reducible refine (errorsNew_any _ _).mono ?_); rintro e w' ⟨⟨et, ev, rfl⟩, hb⟩)
                    | (go_at_call 67; (with_reducible refine (equalPtr_any x y o o' _ _ _ I.out.atx I.out.aty GX.out GY.out I.out.num zx zy).mono ?_); rintro e w' ⟨rfl, hb⟩)
                    | (go_at_call 42; (with_reducible refine (prere_b y o' _).mono ?_); rintro e w' ⟨rfl, hb⟩)); clear x0 x1 x2 x3 x4 x5 y0 y1 y2 y3 y4 y5 k0 k1 k2 k3 k4 k5; replace I := Lib.hid (I.out.below hb); clear hb; obtain ⟨x0, x1, x2, x3, x4, x5⟩ := I.out.atx.cells; obtain ⟨y0, y1, y2, y3, y4, y5⟩ := I.out.aty.cells; obtain ⟨k0, k1, k2, k3, k4, k5⟩ := I.out.cells)
                refine bodyPost_ret (results_tmp2 rfl _ _ _) rfl ?_
                refine ⟨⟨_, ret_tup ?_⟩, I.out.bel⟩
                rw [← HR.out]
                have hi2 := HI.out
                have f0 := HVa.out
                have f1 := HVb.out
                have f2 := HVc.out
                have f3 := HX.out
                clear HR HI I GX GY
                unfold Go.RowKit.Hid at *
                first
                  | (simp_all [notV]; done)
                  | (simp_all [notV]; omega)
                  | fail
              · have HX := Lib.hid hx0
                have HGX : Hid (M.goodPre (M.bs x.p) = true) := Lib.hid (GX.out.resolve_left hx0)
                have HYE : Hid (M.bs y.p = []) := Lib.hid (HP.out (by first | rfl | trivial))
                have hxn : x.p.toList.isEmpty = false := nonempty_toList hx0
                clear hx0
                go_upto_region 14 with ((first
                    | (go_at_call 42; (with_reducible refine (prere_b x o _).mono ?_); rintro e w' ⟨rfl, hb⟩)
                    | (go_at_call 69; (with_reducible refine (compare_any x y o o' _ _ _ I.out.atx I.out.aty GX.out GY.out I.out.num zx zy).mono ?_); rintro e w' ⟨rfl, hb⟩)
                    | (go_at_call 66; (with_reducible refine (errorsNew_any _ _).mono ?_); rintro e w' ⟨⟨et, ev, rfl⟩, hb⟩)
                    | (go_at_call 67; (with_reducible refine (equalPtr_any x y o o' _ _ _ I.out.atx I.out.aty GX.out GY.out I.out.num zx zy).mono ?_); rintro e w' ⟨rfl, hb⟩)
                    | (go_at_call 42; (with_reducible refine (prere_b y o' _).mono ?_); rintro e w' ⟨rfl, hb⟩)); clear x0 x1 x2 x3 x4 x5 y0 y1 y2 y3 y4 y5 k0 k1 k2 k3 k4 k5; replace I := Lib.hid (I.out.below hb); clear hb; obtain ⟨x0, x1, x2, x3, x4, x5⟩ := I.out.atx.cells; obtain ⟨y0, y1, y2, y3, y4, y5⟩ := I.out.aty.cells; obtain ⟨k0, k1, k2, k3, k4, k5⟩ := I.out.cells)
                go_region_held3 (fun w' => w'.cell? ⟨N, 0, none⟩ = some (.int .u64 x.a) ∧ w'.cell? ⟨N, 1, none⟩ = some (.int .u64 x.b) ∧ w'.cell? ⟨N, 2, none⟩ = some (.int .u64 x.c) ∧ w'.cell? ⟨N, 3, none⟩ = some (.string x.p) ∧ w'.cell? ⟨N, 4, none⟩ = some (.string x.m) ∧ w'.cell? ⟨N, 5, none⟩ = some (.string o) ∧ w'.cell? ⟨M', 0, none⟩ = some (.int .u64 y.a) ∧ w'.cell? ⟨M', 1, none⟩ = some (.int .u64 y.b) ∧ w'.cell? ⟨M', 2, none⟩ = some (.int .u64 y.c) ∧ w'.cell? ⟨M', 3, none⟩ = some (.string y.p) ∧ w'.cell? ⟨M', 4, none⟩ = some (.string y.m) ∧ w'.cell? ⟨M', 5, none⟩ = some (.string o') ∧ w'.cell? ⟨K, 0, none⟩ = some (.pointer (some ⟨M', 0, none⟩))) (first | (refine ⟨?_, ?_, ?_, ?_, ?_, ?_, ?_, ?_, ?_, ?_, ?_, ?_, ?_⟩ <;> (repeat (first | with_reducible assumption | with_reducible apply cell_alloc_some | with_reducible apply cell_drew_some | with_reducible refine cell_below (by with_reducible assumption) ?_ | with_reducible refine cell_set_other (by omega) ?_))) | fail) (first | (go_at_call 42; (with_reducible refine (prere_b x o _).mono ?_); rintro e wa1 ⟨rfl, hba⟩; have IA := Lib.hid (CSt.up I.out (by (repeat (first | exact Below.refl _ _ | apply Below.drew | (apply below_alloc_on (Nat.le_refl _))))) hba)) | (go_at_call 42; (with_reducible refine (prere_b y o' _).mono ?_); rintro e wb1 ⟨rfl, hbb⟩; have IB := Lib.hid (CSt.up IA.out (by (repeat (first | exact Below.refl _ _ | apply Below.drew | (apply below_alloc_on (Nat.le_refl _))))) hbb)) | (go_at_call 68; (with_reducible refine (compPre_nil x.p y.p _ HGX.out HYE.out (IB.out.num.below (by (repeat (first | exact Below.refl _ _ | apply Below.drew | (apply below_alloc_on (Nat.le_refl _)))))) zx zy).mono ?_); rintro e wc1 ⟨rfl, hbc⟩; have IC := Lib.hid (CSt.up IB.out (by (repeat (first | exact Below.refl _ _ | apply Below.drew | (apply below_alloc_on (Nat.le_refl _))))) hbc)) | fail)
                replace I := IC
                clear x0 x1 x2 x3 x4 x5 y0 y1 y2 y3 y4 y5 k0 k1 k2 k3 k4 k5
                obtain ⟨x0, x1, x2, x3, x4, x5⟩ := I.out.atx.cells
                obtain ⟨y0, y1, y2, y3, y4, y5⟩ := I.out.aty.cells
                obtain ⟨k0, k1, k2, k3, k4, k5⟩ := I.out.cells
                go_wp2_with ((first
                    | (go_at_call 42; (with_reducible refine (prere_b x o _).mono ?_); rintro e w' ⟨rfl, hb⟩)
                    | (go_at_call 69; (with_reducible refine (compare_any x y o o' _ _ _ I.out.atx I.out.aty GX.out GY.out I.out.num zx zy).mono ?_); rintro e w' ⟨rfl, hb⟩)
                    | (go_at_call 66; (with_reducible refine (errorsNew_any _ _).mono ?_); rintro e w' ⟨⟨et, ev, rfl⟩, hb⟩)
                    | (go_at_call 67; (with_reducible refine (equalPtr_any x y o o' _ _ _ I.out.atx I.out.aty GX.out GY.out I.out.num zx zy).mono ?_); rintro e w' ⟨rfl, hb⟩)
                    | (go_at_call 42; (with_reducible refine (prere_b y o' _).mono ?_); rintro e w' ⟨rfl, hb⟩)); clear x0 x1 x2 x3 x4 x5 y0 y1 y2 y3 y4 y5 k0 k1 k2 k3 k4 k5; replace I := Lib.hid (I.out.below hb); clear hb; obtain ⟨x0, x1, x2, x3, x4, x5⟩ := I.out.atx.cells; obtain ⟨y0, y1, y2, y3, y4, y5⟩ := I.out.aty.cells; obtain ⟨k0, k1, k2, k3, k4, k5⟩ := I.out.cells)
                refine bodyPost_ret (results_tmp2 rfl _ _ _) rfl ?_
                refine ⟨⟨_, ret_tup ?_⟩, I.out.bel⟩
                rw [← HR.out]
                have hi2 := HI.out
                have f0 := HVa.out
                have f1 := HVb.out
                have f2 := HVc.out
                have f3 := HX.out
                have f4 := HYE.out
                clear HR HI I GX GY
                unfold Go.RowKit.Hid at *
                first
                  | (simp_all [notV]; done)
                  | (simp_all [notV]; omega)
                  | fail
          · have HVc := Lib.hid (ne_int hvc)
            cases pa
            · go_upto_region 10 with ((first
                  | (go_at_call 42; (with_reducible refine (prere_b x o _).mono ?_); rintro e w' ⟨rfl, hb⟩)
                  | (go_at_call 69; (with_reducible refine (compare_any x y o o' _ _ _ I.out.atx I.out.aty GX.out GY.out I.out.num zx zy).mono ?_); rintro e w' ⟨rfl, hb⟩)
                  | (go_at_call 66; (with_reducible refine (errorsNew_any _ _).mono ?_); rintro e w' ⟨⟨et, ev, rfl⟩, hb⟩)
                  | (go_at_call 67; (with_reducible refine (equalPtr_any x y o o' _ _ _ I.out.atx I.out.aty GX.out GY.out I.out.num zx zy).mono ?_); rintro e w' ⟨rfl, hb⟩)
                  | (go_at_call 42; (with_reducible refine (prere_b y o' _).mono ?_); rintro e w' ⟨rfl, hb⟩)); clear x0 x1 x2 x3 x4 x5 y0 y1 y2 y3 y4 y5 k0 k1 k2 k3 k4 k5; replace I := Lib.hid (I.out.below hb); clear hb; obtain ⟨x0, x1, x2, x3, x4, x5⟩ := I.out.atx.cells; obtain ⟨y0, y1, y2, y3, y4, y5⟩ := I.out.aty.cells; obtain ⟨k0, k1, k2, k3, k4, k5⟩ := I.out.cells)
              go_region_held3 (fun w' => w'.cell? ⟨N, 0, none⟩ = some (.int .u64 x.a) ∧ w'.cell? ⟨N, 1, none⟩ = some (.int .u64 x.b) ∧ w'.cell? ⟨N, 2, none⟩ = some (.int .u64 x.c) ∧ w'.cell? ⟨N, 3, none⟩ = some (.string x.p) ∧ w'.cell? ⟨N, 4, none⟩ = some (.string x.m) ∧ w'.cell? ⟨N, 5, none⟩ = some (.string o) ∧ w'.cell? ⟨M', 0, none⟩ = some (.int .u64 y.a) ∧ w'.cell? ⟨M', 1, none⟩ = some (.int .u64 y.b) ∧ w'.cell? ⟨M', 2, none⟩ = some (.int .u64 y.c) ∧ w'.cell? ⟨M', 3, none⟩ = some (.string y.p) ∧ w'.cell? ⟨M', 4, none⟩ = some (.string y.m) ∧ w'.cell? ⟨M', 5, none⟩ = some (.string o') ∧ w'.cell? ⟨K, 0, none⟩ = some (.pointer (some ⟨M', 0, none⟩)) ∧ w'.cell? ⟨K, 5, none⟩ = some (.bool false)) (first | (refine ⟨?_, ?_, ?_, ?_, ?_, ?_, ?_, ?_, ?_, ?_, ?_, ?_, ?_, ?_⟩ <;> (repeat (first | with_reducible assumption | with_reducible apply cell_alloc_some | with_reducible apply cell_drew_some | with_reducible refine cell_below (by with_reducible assumption) ?_ | with_reducible refine cell_set_other (by omega) ?_))) | fail) (first | (go_at_call 41; (with_reducible refine (patch_v y o' _).mono ?_); rintro e wa1 ⟨rfl, hba⟩; (first | (have HBA1 := Lib.hid (Below.up (w := wb1) (by (repeat (first | exact Below.refl _ _ | apply Below.drew | (apply below_alloc_on (Nat.le_refl _))))) hba)) | (have HBA1 := Lib.hid (Below.up (w := w') (by (repeat (first | exact Below.refl _ _ | apply Below.drew | (apply below_alloc_on (Nat.le_refl _))))) hba)) | (have HBA1 := Lib.hid (Below.up (w := wc) (by (repeat (first | exact Below.refl _ _ | apply Below.drew | (apply below_alloc_on (Nat.le_refl _))))) hba)))) | (go_at_call 41; (with_reducible refine (patch_v x o _).mono ?_); rintro e wb1 ⟨rfl, hbb⟩; have HBB1 := Lib.hid (Below.up HBA1.out (Below.up (w := wa1) (by (repeat (first | exact Below.refl _ _ | apply Below.drew | (apply below_alloc_on (Nat.le_refl _))))) hbb))) | fail)
              replace I := Lib.hid (I.out.below HBB1.out)
              clear x0 x1 x2 x3 x4 x5 y0 y1 y2 y3 y4 y5 k0 k1 k2 k3 k4 k5
              obtain ⟨x0, x1, x2, x3, x4, x5⟩ := I.out.atx.cells
              obtain ⟨y0, y1, y2, y3, y4, y5⟩ := I.out.aty.cells
              obtain ⟨k0, k1, k2, k3, k4, k5⟩ := I.out.cells
              go_wp2_with ((first
                  | (go_at_call 42; (with_reducible refine (prere_b x o _).mono ?_); rintro e w' ⟨rfl, hb⟩)
                  | (go_at_call 69; (with_reducible refine (compare_any x y o o' _ _ _ I.out.atx I.out.aty GX.out GY.out I.out.num zx zy).mono ?_); rintro e w' ⟨rfl, hb⟩)
                  | (go_at_call 66; (with_reducible refine (errorsNew_any _ _).mono ?_); rintro e w' ⟨⟨et, ev, rfl⟩, hb⟩)
                  | (go_at_call 67; (with_reducible refine (equalPtr_any x y o o' _ _ _ I.out.atx I.out.aty GX.out GY.out I.out.num zx zy).mono ?_); rintro e w' ⟨rfl, hb⟩)
                  | (go_at_call 42; (with_reducible refine (prere_b y o' _).mono ?_); rintro e w' ⟨rfl, hb⟩)); clear x0 x1 x2 x3 x4 x5 y0 y1 y2 y3 y4 y5 k0 k1 k2 k3 k4 k5; replace I := Lib.hid (I.out.below hb); clear hb; obtain ⟨x0, x1, x2, x3, x4, x5⟩ := I.out.atx.cells; obtain ⟨y0, y1, y2, y3, y4, y5⟩ := I.out.aty.cells; obtain ⟨k0, k1, k2, k3, k4, k5⟩ := I.out.cells)
              refine bodyPost_ret (results_tmp2 rfl _ _ _) rfl ?_
              refine ⟨⟨_, ret_tup ?_⟩, I.out.bel⟩
              rw [← HR.out]
              have hi2 := HI.out
              have f0 := HVa.out
              have f1 := HVb.out
              have f2 := HVc.out
              clear HR HI I GX GY
              unfold Go.RowKit.Hid at *
              first
                | (simp_all [notV]; done)
                | (simp_all [notV]; omega)
                | fail
            · go_upto_region 10 with ((first
                  | (go_at_call 42; (with_reducible refine (prere_b x o _).mono ?_); rintro e w' ⟨rfl, hb⟩)
                  | (go_at_call 69; (with_reducible refine (compare_any x y o o' _ _ _ I.out.atx I.out.aty GX.out GY.out I.out.num zx zy).mono ?_); rintro e w' ⟨rfl, hb⟩)
                  | (go_at_call 66; (with_reducible refine (errorsNew_any _ _).mono ?_); rintro e w' ⟨⟨et, ev, rfl⟩, hb⟩)
                  | (go_at_call 67; (with_reducible refine (equalPtr_any x y o o' _ _ _ I.out.atx I.out.aty GX.out GY.out I.out.num zx zy).mono ?_); rintro e w' ⟨rfl, hb⟩)
                  | (go_at_call 42; (with_reducible refine (prere_b y o' _).mono ?_); rintro e w' ⟨rfl, hb⟩)); clear x0 x1 x2 x3 x4 x5 y0 y1 y2 y3 y4 y5 k0 k1 k2 k3 k4 k5; replace I := Lib.hid (I.out.below hb); clear hb; obtain ⟨x0, x1, x2, x3, x4, x5⟩ := I.out.atx.cells; obtain ⟨y0, y1, y2, y3, y4, y5⟩ := I.out.aty.cells; obtain ⟨k0, k1, k2, k3, k4, k5⟩ := I.out.cells)
              go_region_held3 (fun w' => w'.cell? ⟨N, 0, none⟩ = some (.int .u64 x.a) ∧ w'.cell? ⟨N, 1, none⟩ = some (.int .u64 x.b) ∧ w'.cell? ⟨N, 2, none⟩ = some (.int .u64 x.c) ∧ w'.cell? ⟨N, 3, none⟩ = some (.string x.p) ∧ w'.cell? ⟨N, 4, none⟩ = some (.string x.m) ∧ w'.cell? ⟨N, 5, none⟩ = some (.string o) ∧ w'.cell? ⟨M', 0, none⟩ = some (.int .u64 y.a) ∧ w'.cell? ⟨M', 1, none⟩ = some (.int .u64 y.b) ∧ w'.cell? ⟨M', 2, none⟩ = some (.int .u64 y.c) ∧ w'.cell? ⟨M', 3, none⟩ = some (.string y.p) ∧ w'.cell? ⟨M', 4, none⟩ = some (.string y.m) ∧ w'.cell? ⟨M', 5, none⟩ = some (.string o') ∧ w'.cell? ⟨K, 0, none⟩ = some (.pointer (some ⟨M', 0, none⟩)) ∧ w'.cell? ⟨K, 5, none⟩ = some (.bool true)) (first | (refine ⟨?_, ?_, ?_, ?_, ?_, ?_, ?_, ?_, ?_, ?_, ?_, ?_, ?_, ?_⟩ <;> (repeat (first | with_reducible assumption | with_reducible apply cell_alloc_some | with_reducible apply cell_drew_some | with_reducible refine cell_below (by with_reducible assumption) ?_ | with_reducible refine cell_set_other (by omega) ?_))) | fail) (first | (go_at_call 41; (with_reducible refine (patch_v y o' _).mono ?_); rintro e wa1 ⟨rfl, hba⟩; (first | (have HBA1 := Lib.hid (Below.up (w := wb1) (by (repeat (first | exact Below.refl _ _ | apply Below.drew | (apply below_alloc_on (Nat.le_refl _))))) hba)) | (have HBA1 := Lib.hid (Below.up (w := w') (by (repeat (first | exact Below.refl _ _ | apply Below.drew | (apply below_alloc_on (Nat.le_refl _))))) hba)) | (have HBA1 := Lib.hid (Below.up (w := wc) (by (repeat (first | exact Below.refl _ _ | apply Below.drew | (apply below_alloc_on (Nat.le_refl _))))) hba)))) | (go_at_call 41; (with_reducible refine (patch_v x o _).mono ?_); rintro e wb1 ⟨rfl, hbb⟩; have HBB1 := Lib.hid (Below.up HBA1.out (Below.up (w := wa1) (by (repeat (first | exact Below.refl _ _ | apply Below.drew | (apply below_alloc_on (Nat.le_refl _))))) hbb))) | fail)
              replace I := Lib.hid (I.out.below HBB1.out)
              clear x0 x1 x2 x3 x4 x5 y0 y1 y2 y3 y4 y5 k0 k1 k2 k3 k4 k5
              obtain ⟨x0, x1, x2, x3, x4, x5⟩ := I.out.atx.cells
              obtain ⟨y0, y1, y2, y3, y4, y5⟩ := I.out.aty.cells
              obtain ⟨k0, k1, k2, k3, k4, k5⟩ := I.out.cells
              have hye : y.p.toList = [] := empty_toList (HP.out (by first | rfl | trivial))
              by_cases hx0 : M.bs x.p = []
              · have HX := Lib.hid hx0
                have hxe : x.p.toList = [] := empty_toList hx0
                clear hx0
                go_wp2_with ((first
                    | (go_at_call 42; (with_reducible refine (prere_b x o _).mono ?_); rintro e w' ⟨rfl, hb⟩)
                    | (go_at_call 69; (with_reducible refine (compare_any x y o o' _ _ _ I.out.atx I.out.aty GX.out GY.out I.out.num zx zy).mono ?_); rintro e w' ⟨rfl, hb⟩)
                    | (go_at_call 66; (with_reducible refine (errorsNew_any _ _).mono ?_); rintro e w' ⟨⟨et, ev, rfl⟩, hb⟩)
                    | (go_at_call 67; (with_reducible refine (equalPtr_any x y o o' _ _ _ I.out.atx I.out.aty GX.out GY.out I.out.num zx zy).mono ?_); rintro e w' ⟨rfl, hb⟩)
                    | (go_at_call 42; (with_reducible refine (prere_b y o' _).mono ?_); rintro e w' ⟨rfl, hb⟩)); clear x0 x1 x2 x3 x4 x5 y0 y1 y2 y3 y4 y5 k0 k1 k2 k3 k4 k5; replace I := Lib.hid (I.out.below hb); clear hb; obtain ⟨x0, x1, x2, x3, x4, x5⟩ := I.out.atx.cells; obtain ⟨y0, y1, y2, y3, y4, y5⟩ := I.out.aty.cells; obtain ⟨k0, k1, k2, k3, k4, k5⟩ := I.out.cells)
                refine bodyPost_ret (results_tmp2 rfl _ _ _) rfl ?_
                refine ⟨⟨_, ret_tup ?_⟩, I.out.bel⟩
                rw [← HR.out]
                have hi2 := HI.out
                have f0 := HVa.out
                have f1 := HVb.out
                have f2 := HVc.out
                have f3 := HX.out
                clear HR HI I GX GY
                unfold Go.RowKit.Hid at *
                first
                  | (simp_all [notV]; done)
                  | (simp_all [notV]; omega)
                  | fail
              · have HX := Lib.hid hx0
                have HGX : Hid (M.goodPre (M.bs x.p) = true) := Lib.hid (GX.out.resolve_left hx0)
                have HYE : Hid (M.bs y.p = []) := Lib.hid (HP.out (by first | rfl | trivial))
                have hxn : x.p.toList.isEmpty = false := nonempty_toList hx0
                clear hx0
                go_upto_region 14 with ((first
                    | (go_at_call 42; (with_reducible refine (prere_b x o _).mono ?_); rintro e w' ⟨rfl, hb⟩)
                    | (go_at_call 69; (with_reducible refine (compare_any x y o o' _ _ _ I.out.atx I.out.aty GX.out GY.out I.out.num zx zy).mono ?_); rintro e w' ⟨rfl, hb⟩)
                    | (go_at_call 66; (with_reducible refine (errorsNew_any _ _).mono ?_); rintro e w' ⟨⟨et, ev, rfl⟩, hb⟩)
                    | (go_at_call 67; (with_reducible refine (equalPtr_any x y o o' _ _ _ I.out.atx I.out.aty GX.out GY.out I.out.num zx zy).mono ?_); rintro e w' ⟨rfl, hb⟩)
                    | (go_at_call 42; (with_reducible refine (prere_b y o' _).mono ?_); rintro e w' ⟨rfl, hb⟩)); clear x0 x1 x2 x3 x4 x5 y0 y1 y2 y3 y4 y5 k0 k1 k2 k3 k4 k5; replace I := Lib.hid (I.out.below hb); clear hb; obtain ⟨x0, x1, x2, x3, x4, x5⟩ := I.out.atx.cells; obtain ⟨y0, y1, y2, y3, y4, y5⟩ := I.out.aty.cells; obtain ⟨k0, k1, k2, k3, k4, k5⟩ := I.out.cells)
                go_region_held3 (fun w' => w'.cell? ⟨N, 0, none⟩ = some (.int .u64 x.a) ∧ w'.cell? ⟨N, 1, none⟩ = some (.int .u64 x.b) ∧ w'.cell? ⟨N, 2, none⟩ = some (.int .u64 x.c) ∧ w'.cell? ⟨N, 3, none⟩ = some (.string x.p) ∧ w'.cell? ⟨N, 4, none⟩ = some (.string x.m) ∧ w'.cell? ⟨N, 5, none⟩ = some (.string o) ∧ w'.cell? ⟨M', 0, none⟩ = some (.int .u64 y.a) ∧ w'.cell? ⟨M', 1, none⟩ = some (.int .u64 y.b) ∧ w'.cell? ⟨M', 2, none⟩ = some (.int .u64 y.c) ∧ w'.cell? ⟨M', 3, none⟩ = some (.string y.p) ∧ w'.cell? ⟨M', 4, none⟩ = some (.string y.m) ∧ w'.cell? ⟨M', 5, none⟩ = some (.string o') ∧ w'.cell? ⟨K, 0, none⟩ = some (.pointer (some ⟨M', 0, none⟩))) (first | (refine ⟨?_, ?_, ?_, ?_, ?_, ?_, ?_, ?_, ?_, ?_, ?_, ?_, ?_⟩ <;> (repeat (first | with_reducible assumption | with_reducible apply cell_alloc_some | with_reducible apply cell_drew_some | with_reducible refine cell_below (by with_reducible assumption) ?_ | with_reducible refine cell_set_other (by omega) ?_))) | fail) (first | (go_at_call 42; (with_reducible refine (prere_b x o _).mono ?_); rintro e wa1 ⟨rfl, hba⟩; have IA := Lib.hid (CSt.up I.out (by (repeat (first | exact Below.refl _ _ | apply Below.drew | (apply below_alloc_on (Nat.le_refl _))))) hba)) | (go_at_call 42; (with_reducible refine (prere_b y o' _).mono ?_); rintro e wb1 ⟨rfl, hbb⟩; have IB := Lib.hid (CSt.up IA.out (by (repeat (first | exact Below.refl _ _ | apply Below.drew | (apply below_alloc_on (Nat.le_refl _))))) hbb)) | (go_at_call 68; (with_reducible refine (compPre_nil x.p y.p _ HGX.out HYE.out (IB.out.num.below (by (repeat (first | exact Below.refl _ _ | apply Below.drew | (apply below_alloc_on (Nat.le_refl _)))))) zx zy).mono ?_); rintro e wc1 ⟨rfl, hbc⟩; have IC := Lib.hid (CSt.up IB.out (by (repeat (first | exact Below.refl _ _ | apply Below.drew | (apply below_alloc_on (Nat.le_refl _))))) hbc)) | fail)
                replace I := IC
                clear x0 x1 x2 x3 x4 x5 y0 y1 y2 y3 y4 y5 k0 k1 k2 k3 k4 k5
                obtain ⟨x0, x1, x2, x3, x4, x5⟩ := I.out.atx.cells
                obtain ⟨y0, y1, y2, y3, y4, y5⟩ := I.out.aty.cells
                obtain ⟨k0, k1, k2, k3, k4, k5⟩ := I.out.cells
                go_wp2_with ((first
                    | (go_at_call 42; (with_reducible refine (prere_b x o _).mono ?_); rintro e w' ⟨rfl, hb⟩)
                    | (go_at_call 69; (with_reducible refine (compare_any x y o o' _ _ _ I.out.atx I.out.aty GX.out GY.out I.out.num zx zy).mono ?_); rintro e w' ⟨rfl, hb⟩)
                    | (go_at_call 66; (with_reducible refine (errorsNew_any _ _).mono ?_); rintro e w' ⟨⟨et, ev, rfl⟩, hb⟩)
                    | (go_at_call 67; (with_reducible refine (equalPtr_any x y o o' _ _ _ I.out.atx I.out.aty GX.out GY.out I.out.num zx zy).mono ?_); rintro e w' ⟨rfl, hb⟩)
                    | (go_at_call 42; (with_reducible refine (prere_b y o' _).mono ?_); rintro e w' ⟨rfl, hb⟩)); clear x0 x1 x2 x3 x4 x5 y0 y1 y2 y3 y4 y5 k0 k1 k2 k3 k4 k5; replace I := Lib.hid (I.out.below hb); clear hb; obtain ⟨x0, x1, x2, x3, x4, x5⟩ := I.out.atx.cells; obtain ⟨y0, y1, y2, y3, y4, y5⟩ := I.out.aty.cells; obtain ⟨k0, k1, k2, k3, k4, k5⟩ := I.out.cells)
                refine bodyPost_ret (results_tmp2 rfl _ _ _) rfl ?_
                refine ⟨⟨_, ret_tup ?_⟩, I.out.bel⟩
                rw [← HR.out]
                have hi2 := HI.out
                have f0 := HVa.out
                have f1 := HVb.out
                have f2 := HVc.out
                have f3 := HX.out
                have f4 := HYE.out
                clear HR HI I GX GY
                unfold Go.RowKit.Hid at *
                first
                  | (simp_all [notV]; done)
                  | (simp_all [notV]; omega)
                  | fail
        · go_wp2_with ((first
              | (go_at_call 42; (with_reducible refine (prere_b x o _).mono ?_); rintro e w' ⟨rfl, hb⟩)
              | (go_at_call 69; (with_reducible refine (compare_any x y o o' _ _ _ I.out.atx I.out.aty GX.out GY.out I.out.num zx zy).mono ?_); rintro e w' ⟨rfl, hb⟩)
              | (go_at_call 66; (with_reducible refine (errorsNew_any _ _).mono ?_); rintro e w' ⟨⟨et, ev, rfl⟩, hb⟩)
              | (go_at_call 67; (with_reducible refine (equalPtr_any x y o o' _ _ _ I.out.atx I.out.aty GX.out GY.out I.out.num zx zy).mono ?_); rintro e w' ⟨rfl, hb⟩)
              | (go_at_call 42; (with_reducible refine (prere_b y o' _).mono ?_); rintro e w' ⟨rfl, hb⟩)); clear x0 x1 x2 x3 x4 x5 y0 y1 y2 y3 y4 y5 k0 k1 k2 k3 k4 k5; replace I := Lib.hid (I.out.below hb); clear hb; obtain ⟨x0, x1, x2, x3, x4, x5⟩ := I.out.atx.cells; obtain ⟨y0, y1, y2, y3, y4, y5⟩ := I.out.aty.cells; obtain ⟨k0, k1, k2, k3, k4, k5⟩ := I.out.cells)
          refine bodyPost_ret (results_tmp2 rfl _ _ _) rfl ?_
          refine ⟨⟨_, ret_tup ?_⟩, I.out.bel⟩
          rw [← HR.out]
          have hi2 := HI.out
          have f0 := HVa.out
          have f1 := HVb.out
          clear HR HI I GX GY
          unfold Go.RowKit.Hid at *
          first
            | (simp_all [notV]; done)
            | (simp_all [notV]; omega)
            | fail
      · have HVb := Lib.hid (ne_int hvb)
        cases mi
        · go_upto_region 6 with ((first
              | (go_at_call 42; (with_reducible refine (prere_b x o _).mono ?_); rintro e w' ⟨rfl, hb⟩)
              | (go_at_call 69; (with_reducible refine (compare_any x y o o' _ _ _ I.out.atx I.out.aty GX.out GY.out I.out.num zx zy).mono ?_); rintro e w' ⟨rfl, hb⟩)
              | (go_at_call 66; (with_reducible refine (errorsNew_any _ _).mono ?_); rintro e w' ⟨⟨et, ev, rfl⟩, hb⟩)
              | (go_at_call 67; (with_reducible refine (equalPtr_any x y o o' _ _ _ I.out.atx I.out.aty GX.out GY.out I.out.num zx zy).mono ?_); rintro e w' ⟨rfl, hb⟩)
              | (go_at_call 42; (with_reducible refine (prere_b y o' _).mono ?_); rintro e w' ⟨rfl, hb⟩)); clear x0 x1 x2 x3 x4 x5 y0 y1 y2 y3 y4 y5 k0 k1 k2 k3 k4 k5; replace I := Lib.hid (I.out.below hb); clear hb; obtain ⟨x0, x1, x2, x3, x4, x5⟩ := I.out.atx.cells; obtain ⟨y0, y1, y2, y3, y4, y5⟩ := I.out.aty.cells; obtain ⟨k0, k1, k2, k3, k4, k5⟩ := I.out.cells)
          go_region_held3 (fun w' => w'.cell? ⟨N, 0, none⟩ = some (.int .u64 x.a) ∧ w'.cell? ⟨N, 1, none⟩ = some (.int .u64 x.b) ∧ w'.cell? ⟨N, 2, none⟩ = some (.int .u64 x.c) ∧ w'.cell? ⟨N, 3, none⟩ = some (.string x.p) ∧ w'.cell? ⟨N, 4, none⟩ = some (.string x.m) ∧ w'.cell? ⟨N, 5, none⟩ = some (.string o) ∧ w'.cell? ⟨M', 0, none⟩ = some (.int .u64 y.a) ∧ w'.cell? ⟨M', 1, none⟩ = some (.int .u64 y.b) ∧ w'.cell? ⟨M', 2, none⟩ = some (.int .u64 y.c) ∧ w'.cell? ⟨M', 3, none⟩ = some (.string y.p) ∧ w'.cell? ⟨M', 4, none⟩ = some (.string y.m) ∧ w'.cell? ⟨M', 5, none⟩ = some (.string o') ∧ w'.cell? ⟨K, 0, none⟩ = some (.pointer (some ⟨M', 0, none⟩)) ∧ w'.cell? ⟨K, 3, none⟩ = some (.bool false)) (first | (refine ⟨?_, ?_, ?_, ?_, ?_, ?_, ?_, ?_, ?_, ?_, ?_, ?_, ?_, ?_⟩ <;> (repeat (first | with_reducible assumption | with_reducible apply cell_alloc_some | with_reducible apply cell_drew_some | with_reducible refine cell_below (by with_reducible assumption) ?_ | with_reducible refine cell_set_other (by omega) ?_))) | fail) (first | (go_at_call 40; (with_reducible refine (minor_v y o' _).mono ?_); rintro e wa1 ⟨rfl, hba⟩; (first | (have HBA1 := Lib.hid (Below.up (w := wb1) (by (repeat (first | exact Below.refl _ _ | apply Below.drew | (apply below_alloc_on (Nat.le_refl _))))) hba)) | (have HBA1 := Lib.hid (Below.up (w := w') (by (repeat (first | exact Below.refl _ _ | apply Below.drew | (apply below_alloc_on (Nat.le_refl _))))) hba)) | (have HBA1 := Lib.hid (Below.up (w := wc) (by (repeat (first | exact Below.refl _ _ | apply Below.drew | (apply below_alloc_on (Nat.le_refl _))))) hba)))) | (go_at_call 40; (with_reducible refine (minor_v x o _).mono ?_); rintro e wb1 ⟨rfl, hbb⟩; have HBB1 := Lib.hid (Below.up HBA1.out (Below.up (w := wa1) (by (repeat (first | exact Below.refl _ _ | apply Below.drew | (apply below_alloc_on (Nat.le_refl _))))) hbb))) | fail)
          replace I := Lib.hid (I.out.below HBB1.out)
          clear x0 x1 x2 x3 x4 x5 y0 y1 y2 y3 y4 y5 k0 k1 k2 k3 k4 k5
          obtain ⟨x0, x1, x2, x3, x4, x5⟩ := I.out.atx.cells
          obtain ⟨y0, y1, y2, y3, y4, y5⟩ := I.out.aty.cells
          obtain ⟨k0, k1, k2, k3, k4, k5⟩ := I.out.cells
          go_wp2_with ((first
              | (go_at_call 42; (with_reducible refine (prere_b x o _).mono ?_); rintro e w' ⟨rfl, hb⟩)
              | (go_at_call 69; (with_reducible refine (compare_any x y o o' _ _ _ I.out.atx I.out.aty GX.out GY.out I.out.num zx zy).mono ?_); rintro e w' ⟨rfl, hb⟩)
              | (go_at_call 66; (with_reducible refine (errorsNew_any _ _).mono ?_); rintro e w' ⟨⟨et, ev, rfl⟩, hb⟩)
              | (go_at_call 67; (with_reducible refine (equalPtr_any x y o o' _ _ _ I.out.atx I.out.aty GX.out GY.out I.out.num zx zy).mono ?_); rintro e w' ⟨rfl, hb⟩)
              | (go_at_call 42; (with_reducible refine (prere_b y o' _).mono ?_); rintro e w' ⟨rfl, hb⟩)); clear x0 x1 x2 x3 x4 x5 y0 y1 y2 y3 y4 y5 k0 k1 k2 k3 k4 k5; replace I := Lib.hid (I.out.below hb); clear hb; obtain ⟨x0, x1, x2, x3, x4, x5⟩ := I.out.atx.cells; obtain ⟨y0, y1, y2, y3, y4, y5⟩ := I.out.aty.cells; obtain ⟨k0, k1, k2, k3, k4, k5⟩ := I.out.cells)
          refine bodyPost_ret (results_tmp2 rfl _ _ _) rfl ?_
          refine ⟨⟨_, ret_tup ?_⟩, I.out.bel⟩
          rw [← HR.out]
          have hi2 := HI.out
          have f0 := HVa.out
          have f1 := HVb.out
          clear HR HI I GX GY
          unfold Go.RowKit.Hid at *
          first
            | (simp_all [notV]; done)
            | (simp_all [notV]; omega)
            | fail
        · go_upto_region 6 with ((first
              | (go_at_call 42; (with_reducible refine (prere_b x o _).mono ?_); rintro e w' ⟨rfl, hb⟩)
              | (go_at_call 69; (with_reducible refine (compare_any x y o o' _ _ _ I.out.atx I.out.aty GX.out GY.out I.out.num zx zy).mono ?_); rintro e w' ⟨rfl, hb⟩)
              | (go_at_call 66; (with_reducible refine (errorsNew_any _ _).mono ?_); rintro e w' ⟨⟨et, ev, rfl⟩, hb⟩)
              | (go_at_call 67; (with_reducible refine (equalPtr_any x y o o' _ _ _ I.out.atx I.out.aty GX.out GY.out I.out.num zx zy).mono ?_); rintro e w' ⟨rfl, hb⟩)
              | (go_at_call 42; (with_reducible refine (prere_b y o' _).mono ?_); rintro e w' ⟨rfl, hb⟩)); clear x0 x1 x2 x3 x4 x5 y0 y1 y2 y3 y4 y5 k0 k1 k2 k3 k4 k5; replace I := Lib.hid (I.out.below hb); clear hb; obtain ⟨x0, x1, x2, x3, x4, x5⟩ := I.out.atx.cells; obtain ⟨y0, y1, y2, y3, y4, y5⟩ := I.out.aty.cells; obtain ⟨k0, k1, k2, k3, k4, k5⟩ := I.out.cells)
          go_region_held3 (fun w' => w'.cell? ⟨N, 0, none⟩ = some (.int .u64 x.a) ∧ w'.cell? ⟨N, 1, none⟩ = some (.int .u64 x.b) ∧ w'.cell? ⟨N, 2, none⟩ = some (.int .u64 x.c) ∧ w'.cell? ⟨N, 3, none⟩ = some (.string x.p) ∧ w'.cell? ⟨N, 4, none⟩ = some (.string x.m) ∧ w'.cell? ⟨N, 5, none⟩ = some (.string o) ∧ w'.cell? ⟨M', 0, none⟩ = some (.int .u64 y.a) ∧ w'.cell? ⟨M', 1, none⟩ = some (.int .u64 y.b) ∧ w'.cell? ⟨M', 2, none⟩ = some (.int .u64 y.c) ∧ w'.cell? ⟨M', 3, none⟩ = some (.string y.p) ∧ w'.cell? ⟨M', 4, none⟩ = some (.string y.m) ∧ w'.cell? ⟨M', 5, none⟩ = some (.string o') ∧ w'.cell? ⟨K, 0, none⟩ = some (.pointer (some ⟨M', 0, none⟩)) ∧ w'.cell? ⟨K, 3, none⟩ = some (.bool true)) (first | (refine ⟨?_, ?_, ?_, ?_, ?_, ?_, ?_, ?_, ?_, ?_, ?_, ?_, ?_, ?_⟩ <;> (repeat (first | with_reducible assumption | with_reducible apply cell_alloc_some | with_reducible apply cell_drew_some | with_reducible refine cell_below (by with_reducible assumption) ?_ | with_reducible refine cell_set_other (by omega) ?_))) | fail) (first | (go_at_call 40; (with_reducible refine (minor_v y o' _).mono ?_); rintro e wa1 ⟨rfl, hba⟩; (first | (have HBA1 := Lib.hid (Below.up (w := wb1) (by (repeat (first | exact Below.refl _ _ | apply Below.drew | (apply below_alloc_on (Nat.le_refl _))))) hba)) | (have HBA1 := Lib.hid (Below.up (w := w') (by (repeat (first | exact Below.refl _ _ | apply Below.drew | (apply below_alloc_on (Nat.le_refl _))))) hba)) | (have HBA1 := Lib.hid (Below.up (w := wc) (by (repeat (first | exact Below.refl _ _ | apply Below.drew | (apply below_alloc_on (Nat.le_refl _))))) hba)))) | (go_at_call 40; (with_reducible refine (minor_v x o _).mono ?_); rintro e wb1 ⟨rfl, hbb⟩; have HBB1 := Lib.hid (Below.up HBA1.out (Below.up (w := wa1) (by (repeat (first | exact Below.refl _ _ | apply Below.drew | (apply below_alloc_on (Nat.le_refl _))))) hbb))) | fail)
          replace I := Lib.hid (I.out.below HBB1.out)
          clear x0 x1 x2 x3 x4 x5 y0 y1 y2 y3 y4 y5 k0 k1 k2 k3 k4 k5
          obtain ⟨x0, x1, x2, x3, x4, x5⟩ := I.out.atx.cells
          obtain ⟨y0, y1, y2, y3, y4, y5⟩ := I.out.aty.cells
          obtain ⟨k0, k1, k2, k3, k4, k5⟩ := I.out.cells
          go_wp2_with ((first
              | (go_at_call 42; (with_reducible refine (prere_b x o _).mono ?_); rintro e w' ⟨rfl, hb⟩)
              | (go_at_call 69; (with_reducible refine (compare_any x y o o' _ _ _ I.out.atx I.out.aty GX.out GY.out I.out.num zx zy).mono ?_); rintro e w' ⟨rfl, hb⟩)
              | (go_at_call 66; (with_reducible refine (errorsNew_any _ _).mono ?_); rintro e w' ⟨⟨et, ev, rfl⟩, hb⟩)
              | (go_at_call 67; (with_reducible refine (equalPtr_any x y o o' _ _ _ I.out.atx I.out.aty GX.out GY.out I.out.num zx zy).mono ?_); rintro e w' ⟨rfl, hb⟩)
              | (go_at_call 42; (with_reducible refine (prere_b y o' _).mono ?_); rintro e w' ⟨rfl, hb⟩)); clear x0 x1 x2 x3 x4 x5 y0 y1 y2 y3 y4 y5 k0 k1 k2 k3 k4 k5; replace I := Lib.hid (I.out.below hb); clear hb; obtain ⟨x0, x1, x2, x3, x4, x5⟩ := I.out.atx.cells; obtain ⟨y0, y1, y2, y3, y4, y5⟩ := I.out.aty.cells; obtain ⟨k0, k1, k2, k3, k4, k5⟩ := I.out.cells)
          refine bodyPost_ret (results_tmp2 rfl _ _ _) rfl ?_
          refine ⟨⟨_, ret_tup ?_⟩, I.out.bel⟩
          rw [← HR.out]
          have hi2 := HI.out
          have f0 := HVa.out
          have f1 := HVb.out
          clear HR HI I GX GY
          unfold Go.RowKit.Hid at *
          first
            | (simp_all [notV]; done)
            | (simp_all [notV]; omega)
            | fail
    · have HVa := Lib.hid (ne_int hva)
      go_upto_region 4 with ((first
          | (go_at_call 42; (with_reducible refine (prere_b x o _).mono ?_); rintro e w' ⟨rfl, hb⟩)
          | (go_at_call 69; (with_reducible refine (compare_any x y o o' _ _ _ I.out.atx I.out.aty GX.out GY.out I.out.num zx zy).mono ?_); rintro e w' ⟨rfl, hb⟩)
          | (go_at_call 66; (with_reducible refine (errorsNew_any _ _).mono ?_); rintro e w' ⟨⟨et, ev, rfl⟩, hb⟩)
          | (go_at_call 67; (with_reducible refine (equalPtr_any x y o o' _ _ _ I.out.atx I.out.aty GX.out GY.out I.out.num zx zy).mono ?_); rintro e w' ⟨rfl, hb⟩)
          | (go_at_call 42; (with_reducible refine (prere_b y o' _).mono ?_); rintro e w' ⟨rfl, hb⟩)); clear x0 x1 x2 x3 x4 x5 y0 y1 y2 y3 y4 y5 k0 k1 k2 k3 k4 k5; replace I := Lib.hid (I.out.below hb); clear hb; obtain ⟨x0, x1, x2, x3, x4, x5⟩ := I.out.atx.cells; obtain ⟨y0, y1, y2, y3, y4, y5⟩ := I.out.aty.cells; obtain ⟨k0, k1, k2, k3, k4, k5⟩ := I.out.cells)
      go_region_held3 (fun w' => w'.cell? ⟨N, 0, none⟩ = some (.int .u64 x.a) ∧ w'.cell? ⟨N, 1, none⟩ = some (.int .u64 x.b) ∧ w'.cell? ⟨N, 2, none⟩ = some (.int .u64 x.c) ∧ w'.cell? ⟨N, 3, none⟩ = some (.string x.p) ∧ w'.cell? ⟨N, 4, none⟩ = some (.string x.m) ∧ w'.cell? ⟨N, 5, none⟩ = some (.string o) ∧ w'.cell? ⟨M', 0, none⟩ = some (.int .u64 y.a) ∧ w'.cell? ⟨M', 1, none⟩ = some (.int .u64 y.b) ∧ w'.cell? ⟨M', 2, none⟩ = some (.int .u64 y.c) ∧ w'.cell? ⟨M', 3, none⟩ = some (.string y.p) ∧ w'.cell? ⟨M', 4, none⟩ = some (.string y.m) ∧ w'.cell? ⟨M', 5, none⟩ = some (.string o') ∧ w'.cell? ⟨K, 0, none⟩ = some (.pointer (some ⟨M', 0, none⟩))) (first | (refine ⟨?_, ?_, ?_, ?_, ?_, ?_, ?_, ?_, ?_, ?_, ?_, ?_, ?_⟩ <;> (repeat (first | with_reducible assumption | with_reducible apply cell_alloc_some | with_reducible apply cell_drew_some | with_reducible refine cell_below (by with_reducible assumption) ?_ | with_reducible refine cell_set_other (by omega) ?_))) | fail) (first | (go_at_call 39; (with_reducible refine (major_v y o' _).mono ?_); rintro e wa1 ⟨rfl, hba⟩; (first | (have HBA1 := Lib.hid (Below.up (w := wb1) (by (repeat (first | exact Below.refl _ _ | apply Below.drew | (apply below_alloc_on (Nat.le_refl _))))) hba)) | (have HBA1 := Lib.hid (Below.up (w := w') (by (repeat (first | exact Below.refl _ _ | apply Below.drew | (apply below_alloc_on (Nat.le_refl _))))) hba)) | (have HBA1 := Lib.hid (Below.up (w := wc) (by (repeat (first | exact Below.refl _ _ | apply Below.drew | (apply below_alloc_on (Nat.le_refl _))))) hba)))) | (go_at_call 39; (with_reducible refine (major_v x o _).mono ?_); rintro e wb1 ⟨rfl, hbb⟩; have HBB1 := Lib.hid (Below.up HBA1.out (Below.up (w := wa1) (by (repeat (first | exact Below.refl _ _ | apply Below.drew | (apply below_alloc_on (Nat.le_refl _))))) hbb))) | fail)
      replace I := Lib.hid (I.out.below HBB1.out)
      clear x0 x1 x2 x3 x4 x5 y0 y1 y2 y3 y4 y5 k0 k1 k2 k3 k4 k5
      obtain ⟨x0, x1, x2, x3, x4, x5⟩ := I.out.atx.cells
      obtain ⟨y0, y1, y2, y3, y4, y5⟩ := I.out.aty.cells
      obtain ⟨k0, k1, k2, k3, k4, k5⟩ := I.out.cells
      go_wp2_with ((first
          | (go_at_call 42; (with_reducible refine (prere_b x o _).mono ?_); rintro e w' ⟨rfl, hb⟩)
          | (go_at_call 69; (with_reducible refine (compare_any x y o o' _ _ _ I.out.atx I.out.aty GX.out GY.out I.out.num zx zy).mono ?_); rintro e w' ⟨rfl, hb⟩)
          | (go_at_call 66; (with_reducible refine (errorsNew_any _ _).mono ?_); rintro e w' ⟨⟨et, ev, rfl⟩, hb⟩)
          | (go_at_call 67; (with_reducible refine (equalPtr_any x y o o' _ _ _ I.out.atx I.out.aty GX.out GY.out I.out.num zx zy).mono ?_); rintro e w' ⟨rfl, hb⟩)
          | (go_at_call 42; (with_reducible refine (prere_b y o' _).mono ?_); rintro e w' ⟨rfl, hb⟩)); clear x0 x1 x2 x3 x4 x5 y0 y1 y2 y3 y4 y5 k0 k1 k2 k3 k4 k5; replace I := Lib.hid (I.out.below hb); clear hb; obtain ⟨x0, x1, x2, x3, x4, x5⟩ := I.out.atx.cells; obtain ⟨y0, y1, y2, y3, y4, y5⟩ := I.out.aty.cells; obtain ⟨k0, k1, k2, k3, k4, k5⟩ := I.out.cells)
      refine bodyPost_ret (results_tmp2 rfl _ _ _) rfl ?_
      refine ⟨⟨_, ret_tup ?_⟩, I.out.bel⟩
      rw [← HR.out]
      have hi2 := HI.out
      have f0 := HVa.out
      clear HR HI I GX GY
      unfold Go.RowKit.Hid at *
      first
        | (simp_all [notV]; done)
        | (simp_all [notV]; omega)
        | fail
end Go.Proofs.YtnkdpgcfaelpkaaDoor
