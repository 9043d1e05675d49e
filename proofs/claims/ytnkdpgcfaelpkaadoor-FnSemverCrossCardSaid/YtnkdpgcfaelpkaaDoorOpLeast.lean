/-
  constraintGreaterThanEqual.
-/
import Derived.Test.YtnkdpgcfaelpkaaDoorCons
import Derived.Test.YtnkdpgcfaelpkaaDoorOpEq
namespace Go.Proofs.YtnkdpgcfaelpkaaDoor
open Go.RowKit
set_option maxRecDepth 100000
set_option linter.unusedVariables false

set_option maxHeartbeats 16000000 in
theorem leastC_any (x y : V) (o o' s : ByteArray) (N K M' : Nat) (di mi pa pre : Bool) (w : World) (I : Hid (CSt w w N K M' x y o o' s di mi pa)) (GX : Hid x.pGood) (GY : Hid y.pGood) (zx : x.p.size ≤ 2147483647) (zy : y.p.size ≤ 2147483647) (r : Bool) (HR : Hid ((x.inl pre && decide (x.cmp y ≥ 0)) = r)) :
    Calls Tryd.prog 59 #[.pointer (some ⟨N, 0, none⟩), .pointer (some ⟨K, 0, none⟩), .bool pre] w fun e w' => (∃ ev, e = .returned (.tuple #[.bool r, ev])) ∧ Below w.heap.size w w' := by
  obtain ⟨x0, x1, x2, x3, x4, x5⟩ := I.out.atx.cells; obtain ⟨y0, y1, y2, y3, y4, y5⟩ := I.out.aty.cells; obtain ⟨k0, k1, k2, k3, k4, k5⟩ := I.out.cells
  rcases hi : x.inl pre with _ | _
  · have HI := Lib.hid hi
    have hpre : pre = false := by cases pre with | false => rfl | true => simp [V.inl] at hi
    subst hpre
    have hp : x.p.toList.isEmpty = false := bs_isEmpty (by simpa [V.inl] using hi)
    clear hi
    go_enter Tryd.func59, Tryd.ntmps59
    go_wp2_with ((first
    | (go_at_call 42; (with_reducible refine (prere_b x o _).mono ?_); rintro e w' ⟨rfl, hb⟩)
    | (go_at_call 69; (with_reducible refine (compare_any x y o o' _ _ _ I.out.atx I.out.aty GX.out GY.out I.out.num zx zy).mono ?_); rintro e w' ⟨rfl, hb⟩)
    | (go_at_call 66; (with_reducible refine (errorsNew_any _ _).mono ?_); rintro e w' ⟨⟨et, ev, rfl⟩, hb⟩)
    | (go_at_call 67; (with_reducible refine (equalPtr_any x y o o' _ _ _ I.out.atx I.out.aty GX.out GY.out I.out.num zx zy).mono ?_); rintro e w' ⟨rfl, hb⟩)); clear x0 x1 x2 x3 x4 x5 y0 y1 y2 y3 y4 y5 k0 k1 k2 k3 k4 k5; replace I := Lib.hid (I.out.below hb); clear hb; obtain ⟨x0, x1, x2, x3, x4, x5⟩ := I.out.atx.cells; obtain ⟨y0, y1, y2, y3, y4, y5⟩ := I.out.aty.cells; obtain ⟨k0, k1, k2, k3, k4, k5⟩ := I.out.cells)
    refine bodyPost_ret (results_tmp2 rfl _ _ _) rfl ?_
    refine ⟨⟨_, ret_tup ?_⟩, I.out.bel⟩
    rw [← HR.out]
    rw [HI.out]; rfl
  have HI := Lib.hid hi
  have hlc : ((!x.p.toList.isEmpty) && !pre) = false := by
    cases pre with
    | true => simp
    | false =>
      have : (M.bs x.p).isEmpty = true := by simpa [V.inl] using hi
      rw [toList_bs, this]; rfl
  clear hi
  go_enter Tryd.func59, Tryd.ntmps59
  go_upto_region 1 with fail
  go_cut [17] (fun s17 wx => s17 = .bool false ∧ Hid (CSt w wx N K M' x y o o' s di mi pa))
  case first =>
    rcases empty_cases x.p with ⟨hp, hq⟩ | ⟨hp, hq⟩
    all_goals clear hq
    all_goals cases pre
    all_goals try (rw [hp] at hlc; cases hlc; done)
    all_goals clear hlc
    all_goals go_wp2_with ((first
    | (go_at_call 42; (with_reducible refine (prere_b x o _).mono ?_); rintro e w' ⟨rfl, hb⟩)
    | (go_at_call 69; (with_reducible refine (compare_any x y o o' _ _ _ I.out.atx I.out.aty GX.out GY.out I.out.num zx zy).mono ?_); rintro e w' ⟨rfl, hb⟩)
    | (go_at_call 66; (with_reducible refine (errorsNew_any _ _).mono ?_); rintro e w' ⟨⟨et, ev, rfl⟩, hb⟩)
    | (go_at_call 67; (with_reducible refine (equalPtr_any x y o o' _ _ _ I.out.atx I.out.aty GX.out GY.out I.out.num zx zy).mono ?_); rintro e w' ⟨rfl, hb⟩)); clear x0 x1 x2 x3 x4 x5 y0 y1 y2 y3 y4 y5 k0 k1 k2 k3 k4 k5; replace I := Lib.hid (I.out.below hb); clear hb; obtain ⟨x0, x1, x2, x3, x4, x5⟩ := I.out.atx.cells; obtain ⟨y0, y1, y2, y3, y4, y5⟩ := I.out.aty.cells; obtain ⟨k0, k1, k2, k3, k4, k5⟩ := I.out.cells)
    all_goals go_meet
    all_goals exact ⟨rfl, I⟩
  case rest =>
  obtain ⟨rfl, I2⟩ := hcut
  clear x0 x1 x2 x3 x4 x5 y0 y1 y2 y3 y4 y5 k0 k1 k2 k3 k4 k5
  clear I hlc
  have I := I2
  clear I2
  obtain ⟨x0, x1, x2, x3, x4, x5⟩ := I.out.atx.cells
  obtain ⟨y0, y1, y2, y3, y4, y5⟩ := I.out.aty.cells
  obtain ⟨k0, k1, k2, k3, k4, k5⟩ := I.out.cells
  rcases V.cmp_range x y with hk | hk | hk
  all_goals have HK := Lib.hid hk
  all_goals go_wp2_with ((first
      | (go_at_call 42; (with_reducible refine (prere_b x o _).mono ?_); rintro e w' ⟨rfl, hb⟩)
      | (go_at_call 69; (with_reducible refine (compare_any x y o o' _ _ _ I.out.atx I.out.aty GX.out GY.out I.out.num zx zy).mono ?_); rintro e w' ⟨rfl, hb⟩)
      | (go_at_call 66; (with_reducible refine (errorsNew_any _ _).mono ?_); rintro e w' ⟨⟨et, ev, rfl⟩, hb⟩)
      | (go_at_call 67; (with_reducible refine (equalPtr_any x y o o' _ _ _ I.out.atx I.out.aty GX.out GY.out I.out.num zx zy).mono ?_); rintro e w' ⟨rfl, hb⟩)); clear x0 x1 x2 x3 x4 x5 y0 y1 y2 y3 y4 y5 k0 k1 k2 k3 k4 k5; replace I := Lib.hid (I.out.below hb); clear hb; obtain ⟨x0, x1, x2, x3, x4, x5⟩ := I.out.atx.cells; obtain ⟨y0, y1, y2, y3, y4, y5⟩ := I.out.aty.cells; obtain ⟨k0, k1, k2, k3, k4, k5⟩ := I.out.cells)
  all_goals
    refine bodyPost_ret (results_tmp2 rfl _ _ _) rfl ?_
    refine ⟨⟨_, ret_tup ?_⟩, I.out.bel⟩
    rw [← HR.out]
    have hi2 := HI.out
    have f0 := HK.out
    clear HR HI I GX GY
    unfold Go.RowKit.Hid at *
    first
      | (simp_all [V.inl]; done)
      | (simp_all [V.inl]; omega)
      | fail
end Go.Proofs.YtnkdpgcfaelpkaaDoor
