/-
  constraintCaret.
-/
import Derived.Test.YtnkdpgcfaelpkaaDoorCons
import Derived.Deep.DeepCutAuto
namespace Go.Proofs.YtnkdpgcfaelpkaaDoor
open Go.RowKit
set_option maxRecDepth 100000
set_option linter.unusedVariables false

theorem beq_no {a b : Nat} (h : ((a : Int) == b) = false) : (a == b) = false := by
  have k : ¬ (a : Int) = b := by simpa using h
  simp
  omega
theorem beq_yes {a b : Nat} (h : ((a : Int) == b) = true) : (a == b) = true := by
  have k : (a : Int) = b := by simpa using h
  simp
  omega
set_option maxHeartbeats 16000000 in
theorem caret_any (x y : V) (o o' s : ByteArray) (N K M' : Nat) (di mi pa pre : Bool) (w : World) (I : Hid (CSt w w N K M' x y o o' s di mi pa)) (GX : Hid x.pGood) (GY : Hid y.pGood) (zx : x.p.size ≤ 2147483647) (zy : y.p.size ≤ 2147483647) (r : Bool) (HR : Hid ((x.inl pre && caretV x y mi pa) = r)) :
    Calls Tryd.prog 62 #[.pointer (some ⟨N, 0, none⟩), .pointer (some ⟨K, 0, none⟩), .bool pre] w fun e w' => (∃ ev, e = .returned (.tuple #[.bool r, ev])) ∧ Below w.heap.size w w' := by
  obtain ⟨x0, x1, x2, x3, x4, x5⟩ := I.out.atx.cells; obtain ⟨y0, y1, y2, y3, y4, y5⟩ := I.out.aty.cells; obtain ⟨k0, k1, k2, k3, k4, k5⟩ := I.out.cells
  rcases hi : x.inl pre with _ | _
  · have HI := Lib.hid hi
    have hpre : pre = false := by cases pre with | false => rfl | true => simp [V.inl] at hi
    subst hpre
    have hp : x.p.toList.isEmpty = false := bs_isEmpty (by simpa [V.inl] using hi)
    clear hi
    go_enter Tryd.func62, Tryd.ntmps62
    go_wp2_with (first
    | (go_at_call 42; (with_reducible refine (prere_b x o _).mono ?_); rintro e w' ⟨rfl, hb⟩; clear x0 x1 x2 x3 x4 x5 y0 y1 y2 y3 y4 y5 k0 k1 k2 k3 k4 k5; replace I := Lib.hid (I.out.below hb); clear hb; obtain ⟨x0, x1, x2, x3, x4, x5⟩ := I.out.atx.cells; obtain ⟨y0, y1, y2, y3, y4, y5⟩ := I.out.aty.cells; obtain ⟨k0, k1, k2, k3, k4, k5⟩ := I.out.cells)
    | (go_at_call 39; (with_reducible refine (major_b x o _).mono ?_); rintro e w' ⟨⟨n, rfl, hn⟩, hb⟩; have HM := Lib.hid hn; clear hn; clear x0 x1 x2 x3 x4 x5 y0 y1 y2 y3 y4 y5 k0 k1 k2 k3 k4 k5; replace I := Lib.hid (I.out.below hb); clear hb; obtain ⟨x0, x1, x2, x3, x4, x5⟩ := I.out.atx.cells; obtain ⟨y0, y1, y2, y3, y4, y5⟩ := I.out.aty.cells; obtain ⟨k0, k1, k2, k3, k4, k5⟩ := I.out.cells)
    | (go_at_call 40; (with_reducible refine (minor_b x o _).mono ?_); rintro e w' ⟨⟨n, rfl, hn⟩, hb⟩; have HM := Lib.hid hn; clear hn; clear x0 x1 x2 x3 x4 x5 y0 y1 y2 y3 y4 y5 k0 k1 k2 k3 k4 k5; replace I := Lib.hid (I.out.below hb); clear hb; obtain ⟨x0, x1, x2, x3, x4, x5⟩ := I.out.atx.cells; obtain ⟨y0, y1, y2, y3, y4, y5⟩ := I.out.aty.cells; obtain ⟨k0, k1, k2, k3, k4, k5⟩ := I.out.cells)
    | (go_at_call 41; (with_reducible refine (patch_b x o _).mono ?_); rintro e w' ⟨⟨n, rfl, hn⟩, hb⟩; have HM := Lib.hid hn; clear hn; clear x0 x1 x2 x3 x4 x5 y0 y1 y2 y3 y4 y5 k0 k1 k2 k3 k4 k5; replace I := Lib.hid (I.out.below hb); clear hb; obtain ⟨x0, x1, x2, x3, x4, x5⟩ := I.out.atx.cells; obtain ⟨y0, y1, y2, y3, y4, y5⟩ := I.out.aty.cells; obtain ⟨k0, k1, k2, k3, k4, k5⟩ := I.out.cells)
    | (go_at_call 39; (with_reducible refine (major_b y o' _).mono ?_); rintro e w' ⟨⟨n, rfl, hn⟩, hb⟩; have HM := Lib.hid hn; clear hn; clear x0 x1 x2 x3 x4 x5 y0 y1 y2 y3 y4 y5 k0 k1 k2 k3 k4 k5; replace I := Lib.hid (I.out.below hb); clear hb; obtain ⟨x0, x1, x2, x3, x4, x5⟩ := I.out.atx.cells; obtain ⟨y0, y1, y2, y3, y4, y5⟩ := I.out.aty.cells; obtain ⟨k0, k1, k2, k3, k4, k5⟩ := I.out.cells)
    | (go_at_call 40; (with_reducible refine (minor_b y o' _).mono ?_); rintro e w' ⟨⟨n, rfl, hn⟩, hb⟩; have HM := Lib.hid hn; clear hn; clear x0 x1 x2 x3 x4 x5 y0 y1 y2 y3 y4 y5 k0 k1 k2 k3 k4 k5; replace I := Lib.hid (I.out.below hb); clear hb; obtain ⟨x0, x1, x2, x3, x4, x5⟩ := I.out.atx.cells; obtain ⟨y0, y1, y2, y3, y4, y5⟩ := I.out.aty.cells; obtain ⟨k0, k1, k2, k3, k4, k5⟩ := I.out.cells)
    | (go_at_call 41; (with_reducible refine (patch_b y o' _).mono ?_); rintro e w' ⟨⟨n, rfl, hn⟩, hb⟩; have HM := Lib.hid hn; clear hn; clear x0 x1 x2 x3 x4 x5 y0 y1 y2 y3 y4 y5 k0 k1 k2 k3 k4 k5; replace I := Lib.hid (I.out.below hb); clear hb; obtain ⟨x0, x1, x2, x3, x4, x5⟩ := I.out.atx.cells; obtain ⟨y0, y1, y2, y3, y4, y5⟩ := I.out.aty.cells; obtain ⟨k0, k1, k2, k3, k4, k5⟩ := I.out.cells)
    | (go_at_call 70; (with_reducible refine (lessPtr_any x y o o' _ _ _ I.out.atx I.out.aty GX.out GY.out I.out.num zx zy).mono ?_); rintro e w' ⟨rfl, hb⟩; clear x0 x1 x2 x3 x4 x5 y0 y1 y2 y3 y4 y5 k0 k1 k2 k3 k4 k5; replace I := Lib.hid (I.out.below hb); clear hb; obtain ⟨x0, x1, x2, x3, x4, x5⟩ := I.out.atx.cells; obtain ⟨y0, y1, y2, y3, y4, y5⟩ := I.out.aty.cells; obtain ⟨k0, k1, k2, k3, k4, k5⟩ := I.out.cells)
    | (go_at_call 69; (with_reducible refine (compare_any x y o o' _ _ _ I.out.atx I.out.aty GX.out GY.out I.out.num zx zy).mono ?_); rintro e w' ⟨rfl, hb⟩; clear x0 x1 x2 x3 x4 x5 y0 y1 y2 y3 y4 y5 k0 k1 k2 k3 k4 k5; replace I := Lib.hid (I.out.below hb); clear hb; obtain ⟨x0, x1, x2, x3, x4, x5⟩ := I.out.atx.cells; obtain ⟨y0, y1, y2, y3, y4, y5⟩ := I.out.aty.cells; obtain ⟨k0, k1, k2, k3, k4, k5⟩ := I.out.cells)
    | (go_at_call 66; (with_reducible refine (errorsNew_any _ _).mono ?_); rintro e w' ⟨⟨et, ev, rfl⟩, hb⟩; clear x0 x1 x2 x3 x4 x5 y0 y1 y2 y3 y4 y5 k0 k1 k2 k3 k4 k5; replace I := Lib.hid (I.out.below hb); clear hb; obtain ⟨x0, x1, x2, x3, x4, x5⟩ := I.out.atx.cells; obtain ⟨y0, y1, y2, y3, y4, y5⟩ := I.out.aty.cells; obtain ⟨k0, k1, k2, k3, k4, k5⟩ := I.out.cells))
    refine bodyPost_ret (results_tmp2 rfl _ _ _) rfl ?_
    refine ⟨⟨_, ret_tup ?_⟩, I.out.bel⟩
    rw [← HR.out]
    rw [HI.out]; rfl
  have HI := Lib.hid hi
  have hlc : ((!x.p.toList.isEmpty) && !pre) = false := by
    cases pre with
    | true => simp
    | false =>
      have : (M.bs x.p).isEmpty = true := by simpa [V.inl] using hi
      rw [toList_bs, this]; rfl
  clear hi
  go_enter Tryd.func62, Tryd.ntmps62
  go_upto_region 1 with fail
  go_cut [17] (fun s17 wx => s17 = .bool false ∧ Hid (CSt w wx N K M' x y o o' s di mi pa))
  case first =>
    rcases empty_cases x.p with ⟨hp, hq⟩ | ⟨hp, hq⟩
    all_goals clear hq
    all_goals cases pre
    all_goals try (rw [hp] at hlc; cases hlc; done)
    all_goals clear hlc
    all_goals go_wp2_with (first
    | (go_at_call 42; (with_reducible refine (prere_b x o _).mono ?_); rintro e w' ⟨rfl, hb⟩; clear x0 x1 x2 x3 x4 x5 y0 y1 y2 y3 y4 y5 k0 k1 k2 k3 k4 k5; replace I := Lib.hid (I.out.below hb); clear hb; obtain ⟨x0, x1, x2, x3, x4, x5⟩ := I.out.atx.cells; obtain ⟨y0, y1, y2, y3, y4, y5⟩ := I.out.aty.cells; obtain ⟨k0, k1, k2, k3, k4, k5⟩ := I.out.cells)
    | (go_at_call 39; (with_reducible refine (major_b x o _).mono ?_); rintro e w' ⟨⟨n, rfl, hn⟩, hb⟩; have HM := Lib.hid hn; clear hn; clear x0 x1 x2 x3 x4 x5 y0 y1 y2 y3 y4 y5 k0 k1 k2 k3 k4 k5; replace I := Lib.hid (I.out.below hb); clear hb; obtain ⟨x0, x1, x2, x3, x4, x5⟩ := I.out.atx.cells; obtain ⟨y0, y1, y2, y3, y4, y5⟩ := I.out.aty.cells; obtain ⟨k0, k1, k2, k3, k4, k5⟩ := I.out.cells)
    | (go_at_call 40; (with_reducible refine (minor_b x o _).mono ?_); rintro e w' ⟨⟨n, rfl, hn⟩, hb⟩; have HM := Lib.hid hn; clear hn; clear x0 x1 x2 x3 x4 x5 y0 y1 y2 y3 y4 y5 k0 k1 k2 k3 k4 k5; replace I := Lib.hid (I.out.below hb); clear hb; obtain ⟨x0, x1, x2, x3, x4, x5⟩ := I.out.atx.cells; obtain ⟨y0, y1, y2, y3, y4, y5⟩ := I.out.aty.cells; obtain ⟨k0, k1, k2, k3, k4, k5⟩ := I.out.cells)
    | (go_at_call 41; (with_reducible refine (patch_b x o _).mono ?_); rintro e w' ⟨⟨n, rfl, hn⟩, hb⟩; have HM := Lib.hid hn; clear hn; clear x0 x1 x2 x3 x4 x5 y0 y1 y2 y3 y4 y5 k0 k1 k2 k3 k4 k5; replace I := Lib.hid (I.out.below hb); clear hb; obtain ⟨x0, x1, x2, x3, x4, x5⟩ := I.out.atx.cells; obtain ⟨y0, y1, y2, y3, y4, y5⟩ := I.out.aty.cells; obtain ⟨k0, k1, k2, k3, k4, k5⟩ := I.out.cells)
    | (go_at_call 39; (with_reducible refine (major_b y o' _).mono ?_); rintro e w' ⟨⟨n, rfl, hn⟩, hb⟩; have HM := Lib.hid hn; clear hn; clear x0 x1 x2 x3 x4 x5 y0 y1 y2 y3 y4 y5 k0 k1 k2 k3 k4 k5; replace I := Lib.hid (I.out.below hb); clear hb; obtain ⟨x0, x1, x2, x3, x4, x5⟩ := I.out.atx.cells; obtain ⟨y0, y1, y2, y3, y4, y5⟩ := I.out.aty.cells; obtain ⟨k0, k1, k2, k3, k4, k5⟩ := I.out.cells)
    | (go_at_call 40; (with_reducible refine (minor_b y o' _).mono ?_); rintro e w' ⟨⟨n, rfl, hn⟩, hb⟩; have HM := Lib.hid hn; clear hn; clear x0 x1 x2 x3 x4 x5 y0 y1 y2 y3 y4 y5 k0 k1 k2 k3 k4 k5; replace I := Lib.hid (I.out.below hb); clear hb; obtain ⟨x0, x1, x2, x3, x4, x5⟩ := I.out.atx.cells; obtain ⟨y0, y1, y2, y3, y4, y5⟩ := I.out.aty.cells; obtain ⟨k0, k1, k2, k3, k4, k5⟩ := I.out.cells)
    | (go_at_call 41; (with_reducible refine (patch_b y o' _).mono ?_); rintro e w' ⟨⟨n, rfl, hn⟩, hb⟩; have HM := Lib.hid hn; clear hn; clear x0 x1 x2 x3 x4 x5 y0 y1 y2 y3 y4 y5 k0 k1 k2 k3 k4 k5; replace I := Lib.hid (I.out.below hb); clear hb; obtain ⟨x0, x1, x2, x3, x4, x5⟩ := I.out.atx.cells; obtain ⟨y0, y1, y2, y3, y4, y5⟩ := I.out.aty.cells; obtain ⟨k0, k1, k2, k3, k4, k5⟩ := I.out.cells)
    | (go_at_call 70; (with_reducible refine (lessPtr_any x y o o' _ _ _ I.out.atx I.out.aty GX.out GY.out I.out.num zx zy).mono ?_); rintro e w' ⟨rfl, hb⟩; clear x0 x1 x2 x3 x4 x5 y0 y1 y2 y3 y4 y5 k0 k1 k2 k3 k4 k5; replace I := Lib.hid (I.out.below hb); clear hb; obtain ⟨x0, x1, x2, x3, x4, x5⟩ := I.out.atx.cells; obtain ⟨y0, y1, y2, y3, y4, y5⟩ := I.out.aty.cells; obtain ⟨k0, k1, k2, k3, k4, k5⟩ := I.out.cells)
    | (go_at_call 69; (with_reducible refine (compare_any x y o o' _ _ _ I.out.atx I.out.aty GX.out GY.out I.out.num zx zy).mono ?_); rintro e w' ⟨rfl, hb⟩; clear x0 x1 x2 x3 x4 x5 y0 y1 y2 y3 y4 y5 k0 k1 k2 k3 k4 k5; replace I := Lib.hid (I.out.below hb); clear hb; obtain ⟨x0, x1, x2, x3, x4, x5⟩ := I.out.atx.cells; obtain ⟨y0, y1, y2, y3, y4, y5⟩ := I.out.aty.cells; obtain ⟨k0, k1, k2, k3, k4, k5⟩ := I.out.cells)
    | (go_at_call 66; (with_reducible refine (errorsNew_any _ _).mono ?_); rintro e w' ⟨⟨et, ev, rfl⟩, hb⟩; clear x0 x1 x2 x3 x4 x5 y0 y1 y2 y3 y4 y5 k0 k1 k2 k3 k4 k5; replace I := Lib.hid (I.out.below hb); clear hb; obtain ⟨x0, x1, x2, x3, x4, x5⟩ := I.out.atx.cells; obtain ⟨y0, y1, y2, y3, y4, y5⟩ := I.out.aty.cells; obtain ⟨k0, k1, k2, k3, k4, k5⟩ := I.out.cells))
    all_goals go_meet
    all_goals exact ⟨rfl, I⟩
  case rest =>
  obtain ⟨rfl, I2⟩ := hcut
  clear x0 x1 x2 x3 x4 x5 y0 y1 y2 y3 y4 y5 k0 k1 k2 k3 k4 k5
  clear I hlc
  have I := I2
  clear I2
  obtain ⟨x0, x1, x2, x3, x4, x5⟩ := I.out.atx.cells
  obtain ⟨y0, y1, y2, y3, y4, y5⟩ := I.out.aty.cells
  obtain ⟨k0, k1, k2, k3, k4, k5⟩ := I.out.cells
  by_cases hc : x.cmp y < 0
  · have HC := Lib.hid hc
    go_wp2_with (first
    | (go_at_call 42; (with_reducible refine (prere_b x o _).mono ?_); rintro e w' ⟨rfl, hb⟩; clear x0 x1 x2 x3 x4 x5 y0 y1 y2 y3 y4 y5 k0 k1 k2 k3 k4 k5; replace I := Lib.hid (I.out.below hb); clear hb; obtain ⟨x0, x1, x2, x3, x4, x5⟩ := I.out.atx.cells; obtain ⟨y0, y1, y2, y3, y4, y5⟩ := I.out.aty.cells; obtain ⟨k0, k1, k2, k3, k4, k5⟩ := I.out.cells)
    | (go_at_call 39; (with_reducible refine (major_b x o _).mono ?_); rintro e w' ⟨⟨n, rfl, hn⟩, hb⟩; have HM := Lib.hid hn; clear hn; clear x0 x1 x2 x3 x4 x5 y0 y1 y2 y3 y4 y5 k0 k1 k2 k3 k4 k5; replace I := Lib.hid (I.out.below hb); clear hb; obtain ⟨x0, x1, x2, x3, x4, x5⟩ := I.out.atx.cells; obtain ⟨y0, y1, y2, y3, y4, y5⟩ := I.out.aty.cells; obtain ⟨k0, k1, k2, k3, k4, k5⟩ := I.out.cells)
    | (go_at_call 40; (with_reducible refine (minor_b x o _).mono ?_); rintro e w' ⟨⟨n, rfl, hn⟩, hb⟩; have HM := Lib.hid hn; clear hn; clear x0 x1 x2 x3 x4 x5 y0 y1 y2 y3 y4 y5 k0 k1 k2 k3 k4 k5; replace I := Lib.hid (I.out.below hb); clear hb; obtain ⟨x0, x1, x2, x3, x4, x5⟩ := I.out.atx.cells; obtain ⟨y0, y1, y2, y3, y4, y5⟩ := I.out.aty.cells; obtain ⟨k0, k1, k2, k3, k4, k5⟩ := I.out.cells)
    | (go_at_call 41; (with_reducible refine (patch_b x o _).mono ?_); rintro e w' ⟨⟨n, rfl, hn⟩, hb⟩; have HM := Lib.hid hn; clear hn; clear x0 x1 x2 x3 x4 x5 y0 y1 y2 y3 y4 y5 k0 k1 k2 k3 k4 k5; replace I := Lib.hid (I.out.below hb); clear hb; obtain ⟨x0, x1, x2, x3, x4, x5⟩ := I.out.atx.cells; obtain ⟨y0, y1, y2, y3, y4, y5⟩ := I.out.aty.cells; obtain ⟨k0, k1, k2, k3, k4, k5⟩ := I.out.cells)
    | (go_at_call 39; (with_reducible refine (major_b y o' _).mono ?_); rintro e w' ⟨⟨n, rfl, hn⟩, hb⟩; have HM := Lib.hid hn; clear hn; clear x0 x1 x2 x3 x4 x5 y0 y1 y2 y3 y4 y5 k0 k1 k2 k3 k4 k5; replace I := Lib.hid (I.out.below hb); clear hb; obtain ⟨x0, x1, x2, x3, x4, x5⟩ := I.out.atx.cells; obtain ⟨y0, y1, y2, y3, y4, y5⟩ := I.out.aty.cells; obtain ⟨k0, k1, k2, k3, k4, k5⟩ := I.out.cells)
    | (go_at_call 40; (with_reducible refine (minor_b y o' _).mono ?_); rintro e w' ⟨⟨n, rfl, hn⟩, hb⟩; have HM := Lib.hid hn; clear hn; clear x0 x1 x2 x3 x4 x5 y0 y1 y2 y3 y4 y5 k0 k1 k2 k3 k4 k5; replace I := Lib.hid (I.out.below hb); clear hb; obtain ⟨x0, x1, x2, x3, x4, x5⟩ := I.out.atx.cells; obtain ⟨y0, y1, y2, y3, y4, y5⟩ := I.out.aty.cells; obtain ⟨k0, k1, k2, k3, k4, k5⟩ := I.out.cells)
    | (go_at_call 41; (with_reducible refine (patch_b y o' _).mono ?_); rintro e w' ⟨⟨n, rfl, hn⟩, hb⟩; have HM := Lib.hid hn; clear hn; clear x0 x1 x2 x3 x4 x5 y0 y1 y2 y3 y4 y5 k0 k1 k2 k3 k4 k5; replace I := Lib.hid (I.out.below hb); clear hb; obtain ⟨x0, x1, x2, x3, x4, x5⟩ := I.out.atx.cells; obtain ⟨y0, y1, y2, y3, y4, y5⟩ := I.out.aty.cells; obtain ⟨k0, k1, k2, k3, k4, k5⟩ := I.out.cells)
    | (go_at_call 70; (with_reducible refine (lessPtr_any x y o o' _ _ _ I.out.atx I.out.aty GX.out GY.out I.out.num zx zy).mono ?_); rintro e w' ⟨rfl, hb⟩; clear x0 x1 x2 x3 x4 x5 y0 y1 y2 y3 y4 y5 k0 k1 k2 k3 k4 k5; replace I := Lib.hid (I.out.below hb); clear hb; obtain ⟨x0, x1, x2, x3, x4, x5⟩ := I.out.atx.cells; obtain ⟨y0, y1, y2, y3, y4, y5⟩ := I.out.aty.cells; obtain ⟨k0, k1, k2, k3, k4, k5⟩ := I.out.cells)
    | (go_at_call 69; (with_reducible refine (compare_any x y o o' _ _ _ I.out.atx I.out.aty GX.out GY.out I.out.num zx zy).mono ?_); rintro e w' ⟨rfl, hb⟩; clear x0 x1 x2 x3 x4 x5 y0 y1 y2 y3 y4 y5 k0 k1 k2 k3 k4 k5; replace I := Lib.hid (I.out.below hb); clear hb; obtain ⟨x0, x1, x2, x3, x4, x5⟩ := I.out.atx.cells; obtain ⟨y0, y1, y2, y3, y4, y5⟩ := I.out.aty.cells; obtain ⟨k0, k1, k2, k3, k4, k5⟩ := I.out.cells)
    | (go_at_call 66; (with_reducible refine (errorsNew_any _ _).mono ?_); rintro e w' ⟨⟨et, ev, rfl⟩, hb⟩; clear x0 x1 x2 x3 x4 x5 y0 y1 y2 y3 y4 y5 k0 k1 k2 k3 k4 k5; replace I := Lib.hid (I.out.below hb); clear hb; obtain ⟨x0, x1, x2, x3, x4, x5⟩ := I.out.atx.cells; obtain ⟨y0, y1, y2, y3, y4, y5⟩ := I.out.aty.cells; obtain ⟨k0, k1, k2, k3, k4, k5⟩ := I.out.cells))
    refine bodyPost_ret (results_tmp2 rfl _ _ _) rfl ?_
    refine ⟨⟨_, ret_tup ?_⟩, I.out.bel⟩
    rw [← HR.out]
    rw [HI.out]; unfold caretV; rw [decide_eq_true HC.out]; rfl
  have HC := Lib.hid hc
  go_upto_region 6 with (first
    | (go_at_call 42; (with_reducible refine (prere_b x o _).mono ?_); rintro e w' ⟨rfl, hb⟩; clear x0 x1 x2 x3 x4 x5 y0 y1 y2 y3 y4 y5 k0 k1 k2 k3 k4 k5; replace I := Lib.hid (I.out.below hb); clear hb; obtain ⟨x0, x1, x2, x3, x4, x5⟩ := I.out.atx.cells; obtain ⟨y0, y1, y2, y3, y4, y5⟩ := I.out.aty.cells; obtain ⟨k0, k1, k2, k3, k4, k5⟩ := I.out.cells)
    | (go_at_call 39; (with_reducible refine (major_b x o _).mono ?_); rintro e w' ⟨⟨n, rfl, hn⟩, hb⟩; have HM := Lib.hid hn; clear hn; clear x0 x1 x2 x3 x4 x5 y0 y1 y2 y3 y4 y5 k0 k1 k2 k3 k4 k5; replace I := Lib.hid (I.out.below hb); clear hb; obtain ⟨x0, x1, x2, x3, x4, x5⟩ := I.out.atx.cells; obtain ⟨y0, y1, y2, y3, y4, y5⟩ := I.out.aty.cells; obtain ⟨k0, k1, k2, k3, k4, k5⟩ := I.out.cells)
    | (go_at_call 40; (with_reducible refine (minor_b x o _).mono ?_); rintro e w' ⟨⟨n, rfl, hn⟩, hb⟩; have HM := Lib.hid hn; clear hn; clear x0 x1 x2 x3 x4 x5 y0 y1 y2 y3 y4 y5 k0 k1 k2 k3 k4 k5; replace I := Lib.hid (I.out.below hb); clear hb; obtain ⟨x0, x1, x2, x3, x4, x5⟩ := I.out.atx.cells; obtain ⟨y0, y1, y2, y3, y4, y5⟩ := I.out.aty.cells; obtain ⟨k0, k1, k2, k3, k4, k5⟩ := I.out.cells)
    | (go_at_call 41; (with_reducible refine (patch_b x o _).mono ?_); rintro e w' ⟨⟨n, rfl, hn⟩, hb⟩; have HM := Lib.hid hn; clear hn; clear x0 x1 x2 x3 x4 x5 y0 y1 y2 y3 y4 y5 k0 k1 k2 k3 k4 k5; replace I := Lib.hid (I.out.below hb); clear hb; obtain ⟨x0, x1, x2, x3, x4, x5⟩ := I.out.atx.cells; obtain ⟨y0, y1, y2, y3, y4, y5⟩ := I.out.aty.cells; obtain ⟨k0, k1, k2, k3, k4, k5⟩ := I.out.cells)
    | (go_at_call 39; (with_reducible refine (major_b y o' _).mono ?_); rintro e w' ⟨⟨n, rfl, hn⟩, hb⟩; have HM := Lib.hid hn; clear hn; clear x0 x1 x2 x3 x4 x5 y0 y1 y2 y3 y4 y5 k0 k1 k2 k3 k4 k5; replace I := Lib.hid (I.out.below hb); clear hb; obtain ⟨x0, x1, x2, x3, x4, x5⟩ := I.out.atx.cells; obtain ⟨y0, y1, y2, y3, y4, y5⟩ := I.out.aty.cells; obtain ⟨k0, k1, k2, k3, k4, k5⟩ := I.out.cells)
    | (go_at_call 40; (with_reducible refine (minor_b y o' _).mono ?_); rintro e w' ⟨⟨n, rfl, hn⟩, hb⟩; have HM := Lib.hid hn; clear hn; clear x0 x1 x2 x3 x4 x5 y0 y1 y2 y3 y4 y5 k0 k1 k2 k3 k4 k5; replace I := Lib.hid (I.out.below hb); clear hb; obtain ⟨x0, x1, x2, x3, x4, x5⟩ := I.out.atx.cells; obtain ⟨y0, y1, y2, y3, y4, y5⟩ := I.out.aty.cells; obtain ⟨k0, k1, k2, k3, k4, k5⟩ := I.out.cells)
    | (go_at_call 41; (with_reducible refine (patch_b y o' _).mono ?_); rintro e w' ⟨⟨n, rfl, hn⟩, hb⟩; have HM := Lib.hid hn; clear hn; clear x0 x1 x2 x3 x4 x5 y0 y1 y2 y3 y4 y5 k0 k1 k2 k3 k4 k5; replace I := Lib.hid (I.out.below hb); clear hb; obtain ⟨x0, x1, x2, x3, x4, x5⟩ := I.out.atx.cells; obtain ⟨y0, y1, y2, y3, y4, y5⟩ := I.out.aty.cells; obtain ⟨k0, k1, k2, k3, k4, k5⟩ := I.out.cells)
    | (go_at_call 70; (with_reducible refine (lessPtr_any x y o o' _ _ _ I.out.atx I.out.aty GX.out GY.out I.out.num zx zy).mono ?_); rintro e w' ⟨rfl, hb⟩; clear x0 x1 x2 x3 x4 x5 y0 y1 y2 y3 y4 y5 k0 k1 k2 k3 k4 k5; replace I := Lib.hid (I.out.below hb); clear hb; obtain ⟨x0, x1, x2, x3, x4, x5⟩ := I.out.atx.cells; obtain ⟨y0, y1, y2, y3, y4, y5⟩ := I.out.aty.cells; obtain ⟨k0, k1, k2, k3, k4, k5⟩ := I.out.cells)
    | (go_at_call 69; (with_reducible refine (compare_any x y o o' _ _ _ I.out.atx I.out.aty GX.out GY.out I.out.num zx zy).mono ?_); rintro e w' ⟨rfl, hb⟩; clear x0 x1 x2 x3 x4 x5 y0 y1 y2 y3 y4 y5 k0 k1 k2 k3 k4 k5; replace I := Lib.hid (I.out.below hb); clear hb; obtain ⟨x0, x1, x2, x3, x4, x5⟩ := I.out.atx.cells; obtain ⟨y0, y1, y2, y3, y4, y5⟩ := I.out.aty.cells; obtain ⟨k0, k1, k2, k3, k4, k5⟩ := I.out.cells)
    | (go_at_call 66; (with_reducible refine (errorsNew_any _ _).mono ?_); rintro e w' ⟨⟨et, ev, rfl⟩, hb⟩; clear x0 x1 x2 x3 x4 x5 y0 y1 y2 y3 y4 y5 k0 k1 k2 k3 k4 k5; replace I := Lib.hid (I.out.below hb); clear hb; obtain ⟨x0, x1, x2, x3, x4, x5⟩ := I.out.atx.cells; obtain ⟨y0, y1, y2, y3, y4, y5⟩ := I.out.aty.cells; obtain ⟨k0, k1, k2, k3, k4, k5⟩ := I.out.cells))
  cases mi
  · rcases Nat.eq_zero_or_pos y.a with fz | fz
    · have FYA := Lib.hid fz
      clear fz
      rcases Nat.eq_zero_or_pos x.a with fz | fz
      · have FXA := Lib.hid fz
        clear fz
        cases pa
        · rcases Nat.eq_zero_or_pos y.b with fz | fz
          · have FYB := Lib.hid fz
            clear fz
            rcases Nat.eq_zero_or_pos x.b with fz | fz
            · have FXB := Lib.hid fz
              clear fz
              go_upto_region 20 with (first
                  | (go_at_call 39; (with_reducible refine (major_b y o' _).mono ?_); rintro e w' ⟨⟨n, rfl, hn⟩, hb⟩; (first | (have hs : (0 : Int) < n := (by have := FYA.out; omega)) | (have hs : n = 0 := (by have := FYA.out; omega)) | skip); have HM := Lib.hid hn; clear hn; clear x0 x1 x2 x3 x4 x5 y0 y1 y2 y3 y4 y5 k0 k1 k2 k3 k4 k5; replace I := Lib.hid (I.out.below hb); clear hb; obtain ⟨x0, x1, x2, x3, x4, x5⟩ := I.out.atx.cells; obtain ⟨y0, y1, y2, y3, y4, y5⟩ := I.out.aty.cells; obtain ⟨k0, k1, k2, k3, k4, k5⟩ := I.out.cells)
                  | (go_at_call 40; (with_reducible refine (minor_b y o' _).mono ?_); rintro e w' ⟨⟨n, rfl, hn⟩, hb⟩; (first | (have hs : (0 : Int) < n := (by have := FYB.out; omega)) | (have hs : n = 0 := (by have := FYB.out; omega)) | skip); have HM := Lib.hid hn; clear hn; clear x0 x1 x2 x3 x4 x5 y0 y1 y2 y3 y4 y5 k0 k1 k2 k3 k4 k5; replace I := Lib.hid (I.out.below hb); clear hb; obtain ⟨x0, x1, x2, x3, x4, x5⟩ := I.out.atx.cells; obtain ⟨y0, y1, y2, y3, y4, y5⟩ := I.out.aty.cells; obtain ⟨k0, k1, k2, k3, k4, k5⟩ := I.out.cells)
                  | (go_at_call 39; (with_reducible refine (major_b x o _).mono ?_); rintro e w' ⟨⟨n, rfl, hn⟩, hb⟩; (first | (have hs : (0 : Int) < n := (by have := FXA.out; omega)) | (have hs : n = 0 := (by have := FXA.out; omega)) | skip); have HM := Lib.hid hn; clear hn; clear x0 x1 x2 x3 x4 x5 y0 y1 y2 y3 y4 y5 k0 k1 k2 k3 k4 k5; replace I := Lib.hid (I.out.below hb); clear hb; obtain ⟨x0, x1, x2, x3, x4, x5⟩ := I.out.atx.cells; obtain ⟨y0, y1, y2, y3, y4, y5⟩ := I.out.aty.cells; obtain ⟨k0, k1, k2, k3, k4, k5⟩ := I.out.cells)
                  | (go_at_call 40; (with_reducible refine (minor_b x o _).mono ?_); rintro e w' ⟨⟨n, rfl, hn⟩, hb⟩; (first | (have hs : (0 : Int) < n := (by have := FXB.out; omega)) | (have hs : n = 0 := (by have := FXB.out; omega)) | skip); have HM := Lib.hid hn; clear hn; clear x0 x1 x2 x3 x4 x5 y0 y1 y2 y3 y4 y5 k0 k1 k2 k3 k4 k5; replace I := Lib.hid (I.out.below hb); clear hb; obtain ⟨x0, x1, x2, x3, x4, x5⟩ := I.out.atx.cells; obtain ⟨y0, y1, y2, y3, y4, y5⟩ := I.out.aty.cells; obtain ⟨k0, k1, k2, k3, k4, k5⟩ := I.out.cells)
                  | (go_at_call 66; (with_reducible refine (errorsNew_any _ _).mono ?_); rintro e w' ⟨⟨et, ev, rfl⟩, hb⟩; clear x0 x1 x2 x3 x4 x5 y0 y1 y2 y3 y4 y5 k0 k1 k2 k3 k4 k5; replace I := Lib.hid (I.out.below hb); clear hb; obtain ⟨x0, x1, x2, x3, x4, x5⟩ := I.out.atx.cells; obtain ⟨y0, y1, y2, y3, y4, y5⟩ := I.out.aty.cells; obtain ⟨k0, k1, k2, k3, k4, k5⟩ := I.out.cells))
              rcases hv : ((y.c : Int) == x.c) with _ | _
              · have HV := Lib.hid (beq_no hv)
                go_region_held3 (fun w' => w'.cell? ⟨N, 0, none⟩ = some (.int .u64 x.a) ∧ w'.cell? ⟨N, 1, none⟩ = some (.int .u64 x.b) ∧ w'.cell? ⟨N, 2, none⟩ = some (.int .u64 x.c) ∧ w'.cell? ⟨N, 3, none⟩ = some (.string x.p) ∧ w'.cell? ⟨N, 4, none⟩ = some (.string x.m) ∧ w'.cell? ⟨N, 5, none⟩ = some (.string o) ∧ w'.cell? ⟨M', 0, none⟩ = some (.int .u64 y.a) ∧ w'.cell? ⟨M', 1, none⟩ = some (.int .u64 y.b) ∧ w'.cell? ⟨M', 2, none⟩ = some (.int .u64 y.c) ∧ w'.cell? ⟨M', 3, none⟩ = some (.string y.p) ∧ w'.cell? ⟨M', 4, none⟩ = some (.string y.m) ∧ w'.cell? ⟨M', 5, none⟩ = some (.string o') ∧ w'.cell? ⟨K, 0, none⟩ = some (.pointer (some ⟨M', 0, none⟩))) (first | (refine ⟨?_, ?_, ?_, ?_, ?_, ?_, ?_, ?_, ?_, ?_, ?_, ?_, ?_⟩ <;> (repeat (first | with_reducible assumption | with_reducible apply cell_alloc_some | with_reducible apply cell_drew_some | with_reducible refine cell_below (by with_reducible assumption) ?_ | with_reducible refine cell_set_other (by omega) ?_))) | fail) (first | (go_at_call 41; (with_reducible refine (patch_v y o' _).mono ?_); rintro e wa1 ⟨rfl, hba⟩; have HBA1 := Lib.hid (Below.up (w := w') (by (repeat (first | exact Below.refl _ _ | apply Below.drew | (apply below_alloc_on (Nat.le_refl _))))) hba)) | (go_at_call 41; (with_reducible refine (patch_v x o _).mono ?_); rintro e wb1 ⟨rfl, hbb⟩; have HBB1 := Lib.hid (Below.up HBA1.out (Below.up (w := wa1) (by (repeat (first | exact Below.refl _ _ | apply Below.drew | (apply below_alloc_on (Nat.le_refl _))))) hbb))) | fail)
                replace I := Lib.hid (I.out.below HBB1.out)
                clear x0 x1 x2 x3 x4 x5 y0 y1 y2 y3 y4 y5 k0 k1 k2 k3 k4 k5
                obtain ⟨x0, x1, x2, x3, x4, x5⟩ := I.out.atx.cells
                obtain ⟨y0, y1, y2, y3, y4, y5⟩ := I.out.aty.cells
                obtain ⟨k0, k1, k2, k3, k4, k5⟩ := I.out.cells
                go_wp2_with (go_at_call 66; (with_reducible refine (errorsNew_any _ _).mono ?_); rintro e w' ⟨⟨et, ev, rfl⟩, hb⟩; clear x0 x1 x2 x3 x4 x5 y0 y1 y2 y3 y4 y5 k0 k1 k2 k3 k4 k5; replace I := Lib.hid (I.out.below hb); clear hb; obtain ⟨x0, x1, x2, x3, x4, x5⟩ := I.out.atx.cells; obtain ⟨y0, y1, y2, y3, y4, y5⟩ := I.out.aty.cells; obtain ⟨k0, k1, k2, k3, k4, k5⟩ := I.out.cells)
                refine bodyPost_ret (results_tmp2 rfl _ _ _) rfl ?_
                refine ⟨⟨_, ret_tup ?_⟩, I.out.bel⟩
                rw [← HR.out]
                have f0 := FYA.out
                have f1 := FXA.out
                have f2 := FYB.out
                have f3 := FXB.out
                have f4 := HV.out
                clear I GX GY
                rw [HI.out]
                unfold caretV
                rw [decide_eq_false (by have := HC.out; omega : ¬ x.cmp y < 0)]
                first
                  | (clear HR HI HC; go_light; simp_all; done)
                  | (clear HR HI HC; go_light; simp_all; omega)
                  | (simp [f0, f1, f2, f3, f4]; done)
                  | (simp [f0, f1, f2, f3, f4]; omega)
              · have HV := Lib.hid (beq_yes hv)
                go_region_held3 (fun w' => w'.cell? ⟨N, 0, none⟩ = some (.int .u64 x.a) ∧ w'.cell? ⟨N, 1, none⟩ = some (.int .u64 x.b) ∧ w'.cell? ⟨N, 2, none⟩ = some (.int .u64 x.c) ∧ w'.cell? ⟨N, 3, none⟩ = some (.string x.p) ∧ w'.cell? ⟨N, 4, none⟩ = some (.string x.m) ∧ w'.cell? ⟨N, 5, none⟩ = some (.string o) ∧ w'.cell? ⟨M', 0, none⟩ = some (.int .u64 y.a) ∧ w'.cell? ⟨M', 1, none⟩ = some (.int .u64 y.b) ∧ w'.cell? ⟨M', 2, none⟩ = some (.int .u64 y.c) ∧ w'.cell? ⟨M', 3, none⟩ = some (.string y.p) ∧ w'.cell? ⟨M', 4, none⟩ = some (.string y.m) ∧ w'.cell? ⟨M', 5, none⟩ = some (.string o') ∧ w'.cell? ⟨K, 0, none⟩ = some (.pointer (some ⟨M', 0, none⟩))) (first | (refine ⟨?_, ?_, ?_, ?_, ?_, ?_, ?_, ?_, ?_, ?_, ?_, ?_, ?_⟩ <;> (repeat (first | with_reducible assumption | with_reducible apply cell_alloc_some | with_reducible apply cell_drew_some | with_reducible refine cell_below (by with_reducible assumption) ?_ | with_reducible refine cell_set_other (by omega) ?_))) | fail) (first | (go_at_call 41; (with_reducible refine (patch_v y o' _).mono ?_); rintro e wa1 ⟨rfl, hba⟩; have HBA1 := Lib.hid (Below.up (w := w') (by (repeat (first | exact Below.refl _ _ | apply Below.drew | (apply below_alloc_on (Nat.le_refl _))))) hba)) | (go_at_call 41; (with_reducible refine (patch_v x o _).mono ?_); rintro e wb1 ⟨rfl, hbb⟩; have HBB1 := Lib.hid (Below.up HBA1.out (Below.up (w := wa1) (by (repeat (first | exact Below.refl _ _ | apply Below.drew | (apply below_alloc_on (Nat.le_refl _))))) hbb))) | fail)
                replace I := Lib.hid (I.out.below HBB1.out)
                clear x0 x1 x2 x3 x4 x5 y0 y1 y2 y3 y4 y5 k0 k1 k2 k3 k4 k5
                obtain ⟨x0, x1, x2, x3, x4, x5⟩ := I.out.atx.cells
                obtain ⟨y0, y1, y2, y3, y4, y5⟩ := I.out.aty.cells
                obtain ⟨k0, k1, k2, k3, k4, k5⟩ := I.out.cells
                go_wp2
                refine bodyPost_ret (results_tmp2 rfl _ _ _) rfl ?_
                refine ⟨⟨_, ret_tup ?_⟩, I.out.bel⟩
                rw [← HR.out]
                have f0 := FYA.out
                have f1 := FXA.out
                have f2 := FYB.out
                have f3 := FXB.out
                have f4 := HV.out
                clear I GX GY
                rw [HI.out]
                unfold caretV
                rw [decide_eq_false (by have := HC.out; omega : ¬ x.cmp y < 0)]
                first
                  | (clear HR HI HC; go_light; simp_all; done)
                  | (clear HR HI HC; go_light; simp_all; omega)
                  | (simp [f0, f1, f2, f3, f4]; done)
                  | (simp [f0, f1, f2, f3, f4]; omega)
            · have FXB := Lib.hid fz
              clear fz
              go_wp2_with (first
                  | (go_at_call 39; (with_reducible refine (major_b y o' _).mono ?_); rintro e w' ⟨⟨n, rfl, hn⟩, hb⟩; (first | (have hs : (0 : Int) < n := (by have := FYA.out; omega)) | (have hs : n = 0 := (by have := FYA.out; omega)) | skip); have HM := Lib.hid hn; clear hn; clear x0 x1 x2 x3 x4 x5 y0 y1 y2 y3 y4 y5 k0 k1 k2 k3 k4 k5; replace I := Lib.hid (I.out.below hb); clear hb; obtain ⟨x0, x1, x2, x3, x4, x5⟩ := I.out.atx.cells; obtain ⟨y0, y1, y2, y3, y4, y5⟩ := I.out.aty.cells; obtain ⟨k0, k1, k2, k3, k4, k5⟩ := I.out.cells)
                  | (go_at_call 40; (with_reducible refine (minor_b y o' _).mono ?_); rintro e w' ⟨⟨n, rfl, hn⟩, hb⟩; (first | (have hs : (0 : Int) < n := (by have := FYB.out; omega)) | (have hs : n = 0 := (by have := FYB.out; omega)) | skip); have HM := Lib.hid hn; clear hn; clear x0 x1 x2 x3 x4 x5 y0 y1 y2 y3 y4 y5 k0 k1 k2 k3 k4 k5; replace I := Lib.hid (I.out.below hb); clear hb; obtain ⟨x0, x1, x2, x3, x4, x5⟩ := I.out.atx.cells; obtain ⟨y0, y1, y2, y3, y4, y5⟩ := I.out.aty.cells; obtain ⟨k0, k1, k2, k3, k4, k5⟩ := I.out.cells)
                  | (go_at_call 39; (with_reducible refine (major_b x o _).mono ?_); rintro e w' ⟨⟨n, rfl, hn⟩, hb⟩; (first | (have hs : (0 : Int) < n := (by have := FXA.out; omega)) | (have hs : n = 0 := (by have := FXA.out; omega)) | skip); have HM := Lib.hid hn; clear hn; clear x0 x1 x2 x3 x4 x5 y0 y1 y2 y3 y4 y5 k0 k1 k2 k3 k4 k5; replace I := Lib.hid (I.out.below hb); clear hb; obtain ⟨x0, x1, x2, x3, x4, x5⟩ := I.out.atx.cells; obtain ⟨y0, y1, y2, y3, y4, y5⟩ := I.out.aty.cells; obtain ⟨k0, k1, k2, k3, k4, k5⟩ := I.out.cells)
                  | (go_at_call 40; (with_reducible refine (minor_b x o _).mono ?_); rintro e w' ⟨⟨n, rfl, hn⟩, hb⟩; (first | (have hs : (0 : Int) < n := (by have := FXB.out; omega)) | (have hs : n = 0 := (by have := FXB.out; omega)) | skip); have HM := Lib.hid hn; clear hn; clear x0 x1 x2 x3 x4 x5 y0 y1 y2 y3 y4 y5 k0 k1 k2 k3 k4 k5; replace I := Lib.hid (I.out.below hb); clear hb; obtain ⟨x0, x1, x2, x3, x4, x5⟩ := I.out.atx.cells; obtain ⟨y0, y1, y2, y3, y4, y5⟩ := I.out.aty.cells; obtain ⟨k0, k1, k2, k3, k4, k5⟩ := I.out.cells)
                  | (go_at_call 66; (with_reducible refine (errorsNew_any _ _).mono ?_); rintro e w' ⟨⟨et, ev, rfl⟩, hb⟩; clear x0 x1 x2 x3 x4 x5 y0 y1 y2 y3 y4 y5 k0 k1 k2 k3 k4 k5; replace I := Lib.hid (I.out.below hb); clear hb; obtain ⟨x0, x1, x2, x3, x4, x5⟩ := I.out.atx.cells; obtain ⟨y0, y1, y2, y3, y4, y5⟩ := I.out.aty.cells; obtain ⟨k0, k1, k2, k3, k4, k5⟩ := I.out.cells))
              refine bodyPost_ret (results_tmp2 rfl _ _ _) rfl ?_
              refine ⟨⟨_, ret_tup ?_⟩, I.out.bel⟩
              rw [← HR.out]
              have f0 := FYA.out
              have f1 := FXA.out
              have f2 := FYB.out
              have f3 := FXB.out
              clear I GX GY
              rw [HI.out]
              unfold caretV
              rw [decide_eq_false (by have := HC.out; omega : ¬ x.cmp y < 0)]
              first
                | (clear HR HI HC; go_light; simp_all; done)
                | (clear HR HI HC; go_light; simp_all; omega)
                | (simp [f0, f1, f2, f3]; done)
                | (simp [f0, f1, f2, f3]; omega)
          · have FYB := Lib.hid fz
            clear fz
            go_upto_region 14 with (first
                | (go_at_call 39; (with_reducible refine (major_b y o' _).mono ?_); rintro e w' ⟨⟨n, rfl, hn⟩, hb⟩; (first | (have hs : (0 : Int) < n := (by have := FYA.out; omega)) | (have hs : n = 0 := (by have := FYA.out; omega)) | skip); have HM := Lib.hid hn; clear hn; clear x0 x1 x2 x3 x4 x5 y0 y1 y2 y3 y4 y5 k0 k1 k2 k3 k4 k5; replace I := Lib.hid (I.out.below hb); clear hb; obtain ⟨x0, x1, x2, x3, x4, x5⟩ := I.out.atx.cells; obtain ⟨y0, y1, y2, y3, y4, y5⟩ := I.out.aty.cells; obtain ⟨k0, k1, k2, k3, k4, k5⟩ := I.out.cells)
                | (go_at_call 40; (with_reducible refine (minor_b y o' _).mono ?_); rintro e w' ⟨⟨n, rfl, hn⟩, hb⟩; (first | (have hs : (0 : Int) < n := (by have := FYB.out; omega)) | (have hs : n = 0 := (by have := FYB.out; omega)) | skip); have HM := Lib.hid hn; clear hn; clear x0 x1 x2 x3 x4 x5 y0 y1 y2 y3 y4 y5 k0 k1 k2 k3 k4 k5; replace I := Lib.hid (I.out.below hb); clear hb; obtain ⟨x0, x1, x2, x3, x4, x5⟩ := I.out.atx.cells; obtain ⟨y0, y1, y2, y3, y4, y5⟩ := I.out.aty.cells; obtain ⟨k0, k1, k2, k3, k4, k5⟩ := I.out.cells)
                | (go_at_call 39; (with_reducible refine (major_b x o _).mono ?_); rintro e w' ⟨⟨n, rfl, hn⟩, hb⟩; (first | (have hs : (0 : Int) < n := (by have := FXA.out; omega)) | (have hs : n = 0 := (by have := FXA.out; omega)) | skip); have HM := Lib.hid hn; clear hn; clear x0 x1 x2 x3 x4 x5 y0 y1 y2 y3 y4 y5 k0 k1 k2 k3 k4 k5; replace I := Lib.hid (I.out.below hb); clear hb; obtain ⟨x0, x1, x2, x3, x4, x5⟩ := I.out.atx.cells; obtain ⟨y0, y1, y2, y3, y4, y5⟩ := I.out.aty.cells; obtain ⟨k0, k1, k2, k3, k4, k5⟩ := I.out.cells)
                | (go_at_call 40; (with_reducible refine (minor_b x o _).mono ?_); rintro e w' ⟨⟨n, rfl, hn⟩, hb⟩; (first | (have hs : (0 : Int) < n := (by have := FXB.out; omega)) | (have hs : n = 0 := (by have := FXB.out; omega)) | skip); have HM := Lib.hid hn; clear hn; clear x0 x1 x2 x3 x4 x5 y0 y1 y2 y3 y4 y5 k0 k1 k2 k3 k4 k5; replace I := Lib.hid (I.out.below hb); clear hb; obtain ⟨x0, x1, x2, x3, x4, x5⟩ := I.out.atx.cells; obtain ⟨y0, y1, y2, y3, y4, y5⟩ := I.out.aty.cells; obtain ⟨k0, k1, k2, k3, k4, k5⟩ := I.out.cells)
                | (go_at_call 66; (with_reducible refine (errorsNew_any _ _).mono ?_); rintro e w' ⟨⟨et, ev, rfl⟩, hb⟩; clear x0 x1 x2 x3 x4 x5 y0 y1 y2 y3 y4 y5 k0 k1 k2 k3 k4 k5; replace I := Lib.hid (I.out.below hb); clear hb; obtain ⟨x0, x1, x2, x3, x4, x5⟩ := I.out.atx.cells; obtain ⟨y0, y1, y2, y3, y4, y5⟩ := I.out.aty.cells; obtain ⟨k0, k1, k2, k3, k4, k5⟩ := I.out.cells))
            rcases hv : ((x.b : Int) == y.b) with _ | _
            · have HV := Lib.hid (beq_no hv)
              go_region_held3 (fun w' => w'.cell? ⟨N, 0, none⟩ = some (.int .u64 x.a) ∧ w'.cell? ⟨N, 1, none⟩ = some (.int .u64 x.b) ∧ w'.cell? ⟨N, 2, none⟩ = some (.int .u64 x.c) ∧ w'.cell? ⟨N, 3, none⟩ = some (.string x.p) ∧ w'.cell? ⟨N, 4, none⟩ = some (.string x.m) ∧ w'.cell? ⟨N, 5, none⟩ = some (.string o) ∧ w'.cell? ⟨M', 0, none⟩ = some (.int .u64 y.a) ∧ w'.cell? ⟨M', 1, none⟩ = some (.int .u64 y.b) ∧ w'.cell? ⟨M', 2, none⟩ = some (.int .u64 y.c) ∧ w'.cell? ⟨M', 3, none⟩ = some (.string y.p) ∧ w'.cell? ⟨M', 4, none⟩ = some (.string y.m) ∧ w'.cell? ⟨M', 5, none⟩ = some (.string o') ∧ w'.cell? ⟨K, 0, none⟩ = some (.pointer (some ⟨M', 0, none⟩))) (first | (refine ⟨?_, ?_, ?_, ?_, ?_, ?_, ?_, ?_, ?_, ?_, ?_, ?_, ?_⟩ <;> (repeat (first | with_reducible assumption | with_reducible apply cell_alloc_some | with_reducible apply cell_drew_some | with_reducible refine cell_below (by with_reducible assumption) ?_ | with_reducible refine cell_set_other (by omega) ?_))) | fail) (first | (go_at_call 40; (with_reducible refine (minor_v x o _).mono ?_); rintro e wa1 ⟨rfl, hba⟩; have HBA1 := Lib.hid (Below.up (w := w') (by (repeat (first | exact Below.refl _ _ | apply Below.drew | (apply below_alloc_on (Nat.le_refl _))))) hba)) | (go_at_call 40; (with_reducible refine (minor_v y o' _).mono ?_); rintro e wb1 ⟨rfl, hbb⟩; have HBB1 := Lib.hid (Below.up HBA1.out (Below.up (w := wa1) (by (repeat (first | exact Below.refl _ _ | apply Below.drew | (apply below_alloc_on (Nat.le_refl _))))) hbb))) | fail)
              replace I := Lib.hid (I.out.below HBB1.out)
              clear x0 x1 x2 x3 x4 x5 y0 y1 y2 y3 y4 y5 k0 k1 k2 k3 k4 k5
              obtain ⟨x0, x1, x2, x3, x4, x5⟩ := I.out.atx.cells
              obtain ⟨y0, y1, y2, y3, y4, y5⟩ := I.out.aty.cells
              obtain ⟨k0, k1, k2, k3, k4, k5⟩ := I.out.cells
              go_wp2_with (go_at_call 66; (with_reducible refine (errorsNew_any _ _).mono ?_); rintro e w' ⟨⟨et, ev, rfl⟩, hb⟩; clear x0 x1 x2 x3 x4 x5 y0 y1 y2 y3 y4 y5 k0 k1 k2 k3 k4 k5; replace I := Lib.hid (I.out.below hb); clear hb; obtain ⟨x0, x1, x2, x3, x4, x5⟩ := I.out.atx.cells; obtain ⟨y0, y1, y2, y3, y4, y5⟩ := I.out.aty.cells; obtain ⟨k0, k1, k2, k3, k4, k5⟩ := I.out.cells)
              refine bodyPost_ret (results_tmp2 rfl _ _ _) rfl ?_
              refine ⟨⟨_, ret_tup ?_⟩, I.out.bel⟩
              rw [← HR.out]
              have f0 := FYA.out
              have f1 := FXA.out
              have f2 := FYB.out
              have f3 := HV.out
              clear I GX GY
              rw [HI.out]
              unfold caretV
              rw [decide_eq_false (by have := HC.out; omega : ¬ x.cmp y < 0)]
              first
                | (clear HR HI HC; go_light; simp_all; done)
                | (clear HR HI HC; go_light; simp_all; omega)
                | (simp [f0, f1, f2, f3]; done)
                | (simp [f0, f1, f2, f3]; omega)
            · have HV := Lib.hid (beq_yes hv)
              go_region_held3 (fun w' => w'.cell? ⟨N, 0, none⟩ = some (.int .u64 x.a) ∧ w'.cell? ⟨N, 1, none⟩ = some (.int .u64 x.b) ∧ w'.cell? ⟨N, 2, none⟩ = some (.int .u64 x.c) ∧ w'.cell? ⟨N, 3, none⟩ = some (.string x.p) ∧ w'.cell? ⟨N, 4, none⟩ = some (.string x.m) ∧ w'.cell? ⟨N, 5, none⟩ = some (.string o) ∧ w'.cell? ⟨M', 0, none⟩ = some (.int .u64 y.a) ∧ w'.cell? ⟨M', 1, none⟩ = some (.int .u64 y.b) ∧ w'.cell? ⟨M', 2, none⟩ = some (.int .u64 y.c) ∧ w'.cell? ⟨M', 3, none⟩ = some (.string y.p) ∧ w'.cell? ⟨M', 4, none⟩ = some (.string y.m) ∧ w'.cell? ⟨M', 5, none⟩ = some (.string o') ∧ w'.cell? ⟨K, 0, none⟩ = some (.pointer (some ⟨M', 0, none⟩))) (first | (refine ⟨?_, ?_, ?_, ?_, ?_, ?_, ?_, ?_, ?_, ?_, ?_, ?_, ?_⟩ <;> (repeat (first | with_reducible assumption | with_reducible apply cell_alloc_some | with_reducible apply cell_drew_some | with_reducible refine cell_below (by with_reducible assumption) ?_ | with_reducible refine cell_set_other (by omega) ?_))) | fail) (first | (go_at_call 40; (with_reducible refine (minor_v x o _).mono ?_); rintro e wa1 ⟨rfl, hba⟩; have HBA1 := Lib.hid (Below.up (w := w') (by (repeat (first | exact Below.refl _ _ | apply Below.drew | (apply below_alloc_on (Nat.le_refl _))))) hba)) | (go_at_call 40; (with_reducible refine (minor_v y o' _).mono ?_); rintro e wb1 ⟨rfl, hbb⟩; have HBB1 := Lib.hid (Below.up HBA1.out (Below.up (w := wa1) (by (repeat (first | exact Below.refl _ _ | apply Below.drew | (apply below_alloc_on (Nat.le_refl _))))) hbb))) | fail)
              replace I := Lib.hid (I.out.below HBB1.out)
              clear x0 x1 x2 x3 x4 x5 y0 y1 y2 y3 y4 y5 k0 k1 k2 k3 k4 k5
              obtain ⟨x0, x1, x2, x3, x4, x5⟩ := I.out.atx.cells
              obtain ⟨y0, y1, y2, y3, y4, y5⟩ := I.out.aty.cells
              obtain ⟨k0, k1, k2, k3, k4, k5⟩ := I.out.cells
              go_wp2
              refine bodyPost_ret (results_tmp2 rfl _ _ _) rfl ?_
              refine ⟨⟨_, ret_tup ?_⟩, I.out.bel⟩
              rw [← HR.out]
              have f0 := FYA.out
              have f1 := FXA.out
              have f2 := FYB.out
              have f3 := HV.out
              clear I GX GY
              rw [HI.out]
              unfold caretV
              rw [decide_eq_false (by have := HC.out; omega : ¬ x.cmp y < 0)]
              first
                | (clear HR HI HC; go_light; simp_all; done)
                | (clear HR HI HC; go_light; simp_all; omega)
                | (simp [f0, f1, f2, f3]; done)
                | (simp [f0, f1, f2, f3]; omega)
        · rcases Nat.eq_zero_or_pos y.b with fz | fz
          · have FYB := Lib.hid fz
            clear fz
            go_upto_region 14 with (first
                | (go_at_call 39; (with_reducible refine (major_b y o' _).mono ?_); rintro e w' ⟨⟨n, rfl, hn⟩, hb⟩; (first | (have hs : (0 : Int) < n := (by have := FYA.out; omega)) | (have hs : n = 0 := (by have := FYA.out; omega)) | skip); have HM := Lib.hid hn; clear hn; clear x0 x1 x2 x3 x4 x5 y0 y1 y2 y3 y4 y5 k0 k1 k2 k3 k4 k5; replace I := Lib.hid (I.out.below hb); clear hb; obtain ⟨x0, x1, x2, x3, x4, x5⟩ := I.out.atx.cells; obtain ⟨y0, y1, y2, y3, y4, y5⟩ := I.out.aty.cells; obtain ⟨k0, k1, k2, k3, k4, k5⟩ := I.out.cells)
                | (go_at_call 40; (with_reducible refine (minor_b y o' _).mono ?_); rintro e w' ⟨⟨n, rfl, hn⟩, hb⟩; (first | (have hs : (0 : Int) < n := (by have := FYB.out; omega)) | (have hs : n = 0 := (by have := FYB.out; omega)) | skip); have HM := Lib.hid hn; clear hn; clear x0 x1 x2 x3 x4 x5 y0 y1 y2 y3 y4 y5 k0 k1 k2 k3 k4 k5; replace I := Lib.hid (I.out.below hb); clear hb; obtain ⟨x0, x1, x2, x3, x4, x5⟩ := I.out.atx.cells; obtain ⟨y0, y1, y2, y3, y4, y5⟩ := I.out.aty.cells; obtain ⟨k0, k1, k2, k3, k4, k5⟩ := I.out.cells)
                | (go_at_call 39; (with_reducible refine (major_b x o _).mono ?_); rintro e w' ⟨⟨n, rfl, hn⟩, hb⟩; (first | (have hs : (0 : Int) < n := (by have := FXA.out; omega)) | (have hs : n = 0 := (by have := FXA.out; omega)) | skip); have HM := Lib.hid hn; clear hn; clear x0 x1 x2 x3 x4 x5 y0 y1 y2 y3 y4 y5 k0 k1 k2 k3 k4 k5; replace I := Lib.hid (I.out.below hb); clear hb; obtain ⟨x0, x1, x2, x3, x4, x5⟩ := I.out.atx.cells; obtain ⟨y0, y1, y2, y3, y4, y5⟩ := I.out.aty.cells; obtain ⟨k0, k1, k2, k3, k4, k5⟩ := I.out.cells)
                | (go_at_call 40; (with_reducible refine (minor_b x o _).mono ?_); rintro e w' ⟨⟨n, rfl, hn⟩, hb⟩; (first | (have hs : (0 : Int) < n := (by have := FXB.out; omega)) | (have hs : n = 0 := (by have := FXB.out; omega)) | skip); have HM := Lib.hid hn; clear hn; clear x0 x1 x2 x3 x4 x5 y0 y1 y2 y3 y4 y5 k0 k1 k2 k3 k4 k5; replace I := Lib.hid (I.out.below hb); clear hb; obtain ⟨x0, x1, x2, x3, x4, x5⟩ := I.out.atx.cells; obtain ⟨y0, y1, y2, y3, y4, y5⟩ := I.out.aty.cells; obtain ⟨k0, k1, k2, k3, k4, k5⟩ := I.out.cells)
                | (go_at_call 66; (with_reducible refine (errorsNew_any _ _).mono ?_); rintro e w' ⟨⟨et, ev, rfl⟩, hb⟩; clear x0 x1 x2 x3 x4 x5 y0 y1 y2 y3 y4 y5 k0 k1 k2 k3 k4 k5; replace I := Lib.hid (I.out.below hb); clear hb; obtain ⟨x0, x1, x2, x3, x4, x5⟩ := I.out.atx.cells; obtain ⟨y0, y1, y2, y3, y4, y5⟩ := I.out.aty.cells; obtain ⟨k0, k1, k2, k3, k4, k5⟩ := I.out.cells))
            rcases hv : ((x.b : Int) == y.b) with _ | _
            · have HV := Lib.hid (beq_no hv)
              go_region_held3 (fun w' => w'.cell? ⟨N, 0, none⟩ = some (.int .u64 x.a) ∧ w'.cell? ⟨N, 1, none⟩ = some (.int .u64 x.b) ∧ w'.cell? ⟨N, 2, none⟩ = some (.int .u64 x.c) ∧ w'.cell? ⟨N, 3, none⟩ = some (.string x.p) ∧ w'.cell? ⟨N, 4, none⟩ = some (.string x.m) ∧ w'.cell? ⟨N, 5, none⟩ = some (.string o) ∧ w'.cell? ⟨M', 0, none⟩ = some (.int .u64 y.a) ∧ w'.cell? ⟨M', 1, none⟩ = some (.int .u64 y.b) ∧ w'.cell? ⟨M', 2, none⟩ = some (.int .u64 y.c) ∧ w'.cell? ⟨M', 3, none⟩ = some (.string y.p) ∧ w'.cell? ⟨M', 4, none⟩ = some (.string y.m) ∧ w'.cell? ⟨M', 5, none⟩ = some (.string o') ∧ w'.cell? ⟨K, 0, none⟩ = some (.pointer (some ⟨M', 0, none⟩))) (first | (refine ⟨?_, ?_, ?_, ?_, ?_, ?_, ?_, ?_, ?_, ?_, ?_, ?_, ?_⟩ <;> (repeat (first | with_reducible assumption | with_reducible apply cell_alloc_some | with_reducible apply cell_drew_some | with_reducible refine cell_below (by with_reducible assumption) ?_ | with_reducible refine cell_set_other (by omega) ?_))) | fail) (first | (go_at_call 40; (with_reducible refine (minor_v x o _).mono ?_); rintro e wa1 ⟨rfl, hba⟩; have HBA1 := Lib.hid (Below.up (w := w') (by (repeat (first | exact Below.refl _ _ | apply Below.drew | (apply below_alloc_on (Nat.le_refl _))))) hba)) | (go_at_call 40; (with_reducible refine (minor_v y o' _).mono ?_); rintro e wb1 ⟨rfl, hbb⟩; have HBB1 := Lib.hid (Below.up HBA1.out (Below.up (w := wa1) (by (repeat (first | exact Below.refl _ _ | apply Below.drew | (apply below_alloc_on (Nat.le_refl _))))) hbb))) | fail)
              replace I := Lib.hid (I.out.below HBB1.out)
              clear x0 x1 x2 x3 x4 x5 y0 y1 y2 y3 y4 y5 k0 k1 k2 k3 k4 k5
              obtain ⟨x0, x1, x2, x3, x4, x5⟩ := I.out.atx.cells
              obtain ⟨y0, y1, y2, y3, y4, y5⟩ := I.out.aty.cells
              obtain ⟨k0, k1, k2, k3, k4, k5⟩ := I.out.cells
              go_wp2_with (go_at_call 66; (with_reducible refine (errorsNew_any _ _).mono ?_); rintro e w' ⟨⟨et, ev, rfl⟩, hb⟩; clear x0 x1 x2 x3 x4 x5 y0 y1 y2 y3 y4 y5 k0 k1 k2 k3 k4 k5; replace I := Lib.hid (I.out.below hb); clear hb; obtain ⟨x0, x1, x2, x3, x4, x5⟩ := I.out.atx.cells; obtain ⟨y0, y1, y2, y3, y4, y5⟩ := I.out.aty.cells; obtain ⟨k0, k1, k2, k3, k4, k5⟩ := I.out.cells)
              refine bodyPost_ret (results_tmp2 rfl _ _ _) rfl ?_
              refine ⟨⟨_, ret_tup ?_⟩, I.out.bel⟩
              rw [← HR.out]
              have f0 := FYA.out
              have f1 := FXA.out
              have f2 := FYB.out
              have f3 := HV.out
              clear I GX GY
              rw [HI.out]
              unfold caretV
              rw [decide_eq_false (by have := HC.out; omega : ¬ x.cmp y < 0)]
              first
                | (clear HR HI HC; go_light; simp_all; done)
                | (clear HR HI HC; go_light; simp_all; omega)
                | (simp [f0, f1, f2, f3]; done)
                | (simp [f0, f1, f2, f3]; omega)
            · have HV := Lib.hid (beq_yes hv)
              go_region_held3 (fun w' => w'.cell? ⟨N, 0, none⟩ = some (.int .u64 x.a) ∧ w'.cell? ⟨N, 1, none⟩ = some (.int .u64 x.b) ∧ w'.cell? ⟨N, 2, none⟩ = some (.int .u64 x.c) ∧ w'.cell? ⟨N, 3, none⟩ = some (.string x.p) ∧ w'.cell? ⟨N, 4, none⟩ = some (.string x.m) ∧ w'.cell? ⟨N, 5, none⟩ = some (.string o) ∧ w'.cell? ⟨M', 0, none⟩ = some (.int .u64 y.a) ∧ w'.cell? ⟨M', 1, none⟩ = some (.int .u64 y.b) ∧ w'.cell? ⟨M', 2, none⟩ = some (.int .u64 y.c) ∧ w'.cell? ⟨M', 3, none⟩ = some (.string y.p) ∧ w'.cell? ⟨M', 4, none⟩ = some (.string y.m) ∧ w'.cell? ⟨M', 5, none⟩ = some (.string o') ∧ w'.cell? ⟨K, 0, none⟩ = some (.pointer (some ⟨M', 0, none⟩))) (first | (refine ⟨?_, ?_, ?_, ?_, ?_, ?_, ?_, ?_, ?_, ?_, ?_, ?_, ?_⟩ <;> (repeat (first | with_reducible assumption | with_reducible apply cell_alloc_some | with_reducible apply cell_drew_some | with_reducible refine cell_below (by with_reducible assumption) ?_ | with_reducible refine cell_set_other (by omega) ?_))) | fail) (first | (go_at_call 40; (with_reducible refine (minor_v x o _).mono ?_); rintro e wa1 ⟨rfl, hba⟩; have HBA1 := Lib.hid (Below.up (w := w') (by (repeat (first | exact Below.refl _ _ | apply Below.drew | (apply below_alloc_on (Nat.le_refl _))))) hba)) | (go_at_call 40; (with_reducible refine (minor_v y o' _).mono ?_); rintro e wb1 ⟨rfl, hbb⟩; have HBB1 := Lib.hid (Below.up HBA1.out (Below.up (w := wa1) (by (repeat (first | exact Below.refl _ _ | apply Below.drew | (apply below_alloc_on (Nat.le_refl _))))) hbb))) | fail)
              replace I := Lib.hid (I.out.below HBB1.out)
              clear x0 x1 x2 x3 x4 x5 y0 y1 y2 y3 y4 y5 k0 k1 k2 k3 k4 k5
              obtain ⟨x0, x1, x2, x3, x4, x5⟩ := I.out.atx.cells
              obtain ⟨y0, y1, y2, y3, y4, y5⟩ := I.out.aty.cells
              obtain ⟨k0, k1, k2, k3, k4, k5⟩ := I.out.cells
              go_wp2
              refine bodyPost_ret (results_tmp2 rfl _ _ _) rfl ?_
              refine ⟨⟨_, ret_tup ?_⟩, I.out.bel⟩
              rw [← HR.out]
              have f0 := FYA.out
              have f1 := FXA.out
              have f2 := FYB.out
              have f3 := HV.out
              clear I GX GY
              rw [HI.out]
              unfold caretV
              rw [decide_eq_false (by have := HC.out; omega : ¬ x.cmp y < 0)]
              first
                | (clear HR HI HC; go_light; simp_all; done)
                | (clear HR HI HC; go_light; simp_all; omega)
                | (simp [f0, f1, f2, f3]; done)
                | (simp [f0, f1, f2, f3]; omega)
          · have FYB := Lib.hid fz
            clear fz
            go_upto_region 14 with (first
                | (go_at_call 39; (with_reducible refine (major_b y o' _).mono ?_); rintro e w' ⟨⟨n, rfl, hn⟩, hb⟩; (first | (have hs : (0 : Int) < n := (by have := FYA.out; omega)) | (have hs : n = 0 := (by have := FYA.out; omega)) | skip); have HM := Lib.hid hn; clear hn; clear x0 x1 x2 x3 x4 x5 y0 y1 y2 y3 y4 y5 k0 k1 k2 k3 k4 k5; replace I := Lib.hid (I.out.below hb); clear hb; obtain ⟨x0, x1, x2, x3, x4, x5⟩ := I.out.atx.cells; obtain ⟨y0, y1, y2, y3, y4, y5⟩ := I.out.aty.cells; obtain ⟨k0, k1, k2, k3, k4, k5⟩ := I.out.cells)
                | (go_at_call 40; (with_reducible refine (minor_b y o' _).mono ?_); rintro e w' ⟨⟨n, rfl, hn⟩, hb⟩; (first | (have hs : (0 : Int) < n := (by have := FYB.out; omega)) | (have hs : n = 0 := (by have := FYB.out; omega)) | skip); have HM := Lib.hid hn; clear hn; clear x0 x1 x2 x3 x4 x5 y0 y1 y2 y3 y4 y5 k0 k1 k2 k3 k4 k5; replace I := Lib.hid (I.out.below hb); clear hb; obtain ⟨x0, x1, x2, x3, x4, x5⟩ := I.out.atx.cells; obtain ⟨y0, y1, y2, y3, y4, y5⟩ := I.out.aty.cells; obtain ⟨k0, k1, k2, k3, k4, k5⟩ := I.out.cells)
                | (go_at_call 39; (with_reducible refine (major_b x o _).mono ?_); rintro e w' ⟨⟨n, rfl, hn⟩, hb⟩; (first | (have hs : (0 : Int) < n := (by have := FXA.out; omega)) | (have hs : n = 0 := (by have := FXA.out; omega)) | skip); have HM := Lib.hid hn; clear hn; clear x0 x1 x2 x3 x4 x5 y0 y1 y2 y3 y4 y5 k0 k1 k2 k3 k4 k5; replace I := Lib.hid (I.out.below hb); clear hb; obtain ⟨x0, x1, x2, x3, x4, x5⟩ := I.out.atx.cells; obtain ⟨y0, y1, y2, y3, y4, y5⟩ := I.out.aty.cells; obtain ⟨k0, k1, k2, k3, k4, k5⟩ := I.out.cells)
                | (go_at_call 40; (with_reducible refine (minor_b x o _).mono ?_); rintro e w' ⟨⟨n, rfl, hn⟩, hb⟩; (first | (have hs : (0 : Int) < n := (by have := FXB.out; omega)) | (have hs : n = 0 := (by have := FXB.out; omega)) | skip); have HM := Lib.hid hn; clear hn; clear x0 x1 x2 x3 x4 x5 y0 y1 y2 y3 y4 y5 k0 k1 k2 k3 k4 k5; replace I := Lib.hid (I.out.below hb); clear hb; obtain ⟨x0, x1, x2, x3, x4, x5⟩ := I.out.atx.cells; obtain ⟨y0, y1, y2, y3, y4, y5⟩ := I.out.aty.cells; obtain ⟨k0, k1, k2, k3, k4, k5⟩ := I.out.cells)
                | (go_at_call 66; (with_reducible refine (errorsNew_any _ _).mono ?_); rintro e w' ⟨⟨et, ev, rfl⟩, hb⟩; clear x0 x1 x2 x3 x4 x5 y0 y1 y2 y3 y4 y5 k0 k1 k2 k3 k4 k5; replace I := Lib.hid (I.out.below hb); clear hb; obtain ⟨x0, x1, x2, x3, x4, x5⟩ := I.out.atx.cells; obtain ⟨y0, y1, y2, y3, y4, y5⟩ := I.out.aty.cells; obtain ⟨k0, k1, k2, k3, k4, k5⟩ := I.out.cells))
            rcases hv : ((x.b : Int) == y.b) with _ | _
            · have HV := Lib.hid (beq_no hv)
              go_region_held3 (fun w' => w'.cell? ⟨N, 0, none⟩ = some (.int .u64 x.a) ∧ w'.cell? ⟨N, 1, none⟩ = some (.int .u64 x.b) ∧ w'.cell? ⟨N, 2, none⟩ = some (.int .u64 x.c) ∧ w'.cell? ⟨N, 3, none⟩ = some (.string x.p) ∧ w'.cell? ⟨N, 4, none⟩ = some (.string x.m) ∧ w'.cell? ⟨N, 5, none⟩ = some (.string o) ∧ w'.cell? ⟨M', 0, none⟩ = some (.int .u64 y.a) ∧ w'.cell? ⟨M', 1, none⟩ = some (.int .u64 y.b) ∧ w'.cell? ⟨M', 2, none⟩ = some (.int .u64 y.c) ∧ w'.cell? ⟨M', 3, none⟩ = some (.string y.p) ∧ w'.cell? ⟨M', 4, none⟩ = some (.string y.m) ∧ w'.cell? ⟨M', 5, none⟩ = some (.string o') ∧ w'.cell? ⟨K, 0, none⟩ = some (.pointer (some ⟨M', 0, none⟩))) (first | (refine ⟨?_, ?_, ?_, ?_, ?_, ?_, ?_, ?_, ?_, ?_, ?_, ?_, ?_⟩ <;> (repeat (first | with_reducible assumption | with_reducible apply cell_alloc_some | with_reducible apply cell_drew_some | with_reducible refine cell_below (by with_reducible assumption) ?_ | with_reducible refine cell_set_other (by omega) ?_))) | fail) (first | (go_at_call 40; (with_reducible refine (minor_v x o _).mono ?_); rintro e wa1 ⟨rfl, hba⟩; have HBA1 := Lib.hid (Below.up (w := w') (by (repeat (first | exact Below.refl _ _ | apply Below.drew | (apply below_alloc_on (Nat.le_refl _))))) hba)) | (go_at_call 40; (with_reducible refine (minor_v y o' _).mono ?_); rintro e wb1 ⟨rfl, hbb⟩; have HBB1 := Lib.hid (Below.up HBA1.out (Below.up (w := wa1) (by (repeat (first | exact Below.refl _ _ | apply Below.drew | (apply below_alloc_on (Nat.le_refl _))))) hbb))) | fail)
              replace I := Lib.hid (I.out.below HBB1.out)
              clear x0 x1 x2 x3 x4 x5 y0 y1 y2 y3 y4 y5 k0 k1 k2 k3 k4 k5
              obtain ⟨x0, x1, x2, x3, x4, x5⟩ := I.out.atx.cells
              obtain ⟨y0, y1, y2, y3, y4, y5⟩ := I.out.aty.cells
              obtain ⟨k0, k1, k2, k3, k4, k5⟩ := I.out.cells
              go_wp2_with (go_at_call 66; (with_reducible refine (errorsNew_any _ _).mono ?_); rintro e w' ⟨⟨et, ev, rfl⟩, hb⟩; clear x0 x1 x2 x3 x4 x5 y0 y1 y2 y3 y4 y5 k0 k1 k2 k3 k4 k5; replace I := Lib.hid (I.out.below hb); clear hb; obtain ⟨x0, x1, x2, x3, x4, x5⟩ := I.out.atx.cells; obtain ⟨y0, y1, y2, y3, y4, y5⟩ := I.out.aty.cells; obtain ⟨k0, k1, k2, k3, k4, k5⟩ := I.out.cells)
              refine bodyPost_ret (results_tmp2 rfl _ _ _) rfl ?_
              refine ⟨⟨_, ret_tup ?_⟩, I.out.bel⟩
              rw [← HR.out]
              have f0 := FYA.out
              have f1 := FXA.out
              have f2 := FYB.out
              have f3 := HV.out
              clear I GX GY
              rw [HI.out]
              unfold caretV
              rw [decide_eq_false (by have := HC.out; omega : ¬ x.cmp y < 0)]
              first
                | (clear HR HI HC; go_light; simp_all; done)
                | (clear HR HI HC; go_light; simp_all; omega)
                | (simp [f0, f1, f2, f3]; done)
                | (simp [f0, f1, f2, f3]; omega)
            · have HV := Lib.hid (beq_yes hv)
              go_region_held3 (fun w' => w'.cell? ⟨N, 0, none⟩ = some (.int .u64 x.a) ∧ w'.cell? ⟨N, 1, none⟩ = some (.int .u64 x.b) ∧ w'.cell? ⟨N, 2, none⟩ = some (.int .u64 x.c) ∧ w'.cell? ⟨N, 3, none⟩ = some (.string x.p) ∧ w'.cell? ⟨N, 4, none⟩ = some (.string x.m) ∧ w'.cell? ⟨N, 5, none⟩ = some (.string o) ∧ w'.cell? ⟨M', 0, none⟩ = some (.int .u64 y.a) ∧ w'.cell? ⟨M', 1, none⟩ = some (.int .u64 y.b) ∧ w'.cell? ⟨M', 2, none⟩ = some (.int .u64 y.c) ∧ w'.cell? ⟨M', 3, none⟩ = some (.string y.p) ∧ w'.cell? ⟨M', 4, none⟩ = some (.string y.m) ∧ w'.cell? ⟨M', 5, none⟩ = some (.string o') ∧ w'.cell? ⟨K, 0, none⟩ = some (.pointer (some ⟨M', 0, none⟩))) (first | (refine ⟨?_, ?_, ?_, ?_, ?_, ?_, ?_, ?_, ?_, ?_, ?_, ?_, ?_⟩ <;> (repeat (first | with_reducible assumption | with_reducible apply cell_alloc_some | with_reducible apply cell_drew_some | with_reducible refine cell_below (by with_reducible assumption) ?_ | with_reducible refine cell_set_other (by omega) ?_))) | fail) (first | (go_at_call 40; (with_reducible refine (minor_v x o _).mono ?_); rintro e wa1 ⟨rfl, hba⟩; have HBA1 := Lib.hid (Below.up (w := w') (by (repeat (first | exact Below.refl _ _ | apply Below.drew | (apply below_alloc_on (Nat.le_refl _))))) hba)) | (go_at_call 40; (with_reducible refine (minor_v y o' _).mono ?_); rintro e wb1 ⟨rfl, hbb⟩; have HBB1 := Lib.hid (Below.up HBA1.out (Below.up (w := wa1) (by (repeat (first | exact Below.refl _ _ | apply Below.drew | (apply below_alloc_on (Nat.le_refl _))))) hbb))) | fail)
              replace I := Lib.hid (I.out.below HBB1.out)
              clear x0 x1 x2 x3 x4 x5 y0 y1 y2 y3 y4 y5 k0 k1 k2 k3 k4 k5
              obtain ⟨x0, x1, x2, x3, x4, x5⟩ := I.out.atx.cells
              obtain ⟨y0, y1, y2, y3, y4, y5⟩ := I.out.aty.cells
              obtain ⟨k0, k1, k2, k3, k4, k5⟩ := I.out.cells
              go_wp2
              refine bodyPost_ret (results_tmp2 rfl _ _ _) rfl ?_
              refine ⟨⟨_, ret_tup ?_⟩, I.out.bel⟩
              rw [← HR.out]
              have f0 := FYA.out
              have f1 := FXA.out
              have f2 := FYB.out
              have f3 := HV.out
              clear I GX GY
              rw [HI.out]
              unfold caretV
              rw [decide_eq_false (by have := HC.out; omega : ¬ x.cmp y < 0)]
              first
                | (clear HR HI HC; go_light; simp_all; done)
                | (clear HR HI HC; go_light; simp_all; omega)
                | (simp [f0, f1, f2, f3]; done)
                | (simp [f0, f1, f2, f3]; omega)
      · have FXA := Lib.hid fz
        clear fz
        go_wp2_with (first
            | (go_at_call 39; (with_reducible refine (major_b y o' _).mono ?_); rintro e w' ⟨⟨n, rfl, hn⟩, hb⟩; (first | (have hs : (0 : Int) < n := (by have := FYA.out; omega)) | (have hs : n = 0 := (by have := FYA.out; omega)) | skip); have HM := Lib.hid hn; clear hn; clear x0 x1 x2 x3 x4 x5 y0 y1 y2 y3 y4 y5 k0 k1 k2 k3 k4 k5; replace I := Lib.hid (I.out.below hb); clear hb; obtain ⟨x0, x1, x2, x3, x4, x5⟩ := I.out.atx.cells; obtain ⟨y0, y1, y2, y3, y4, y5⟩ := I.out.aty.cells; obtain ⟨k0, k1, k2, k3, k4, k5⟩ := I.out.cells)
            | (go_at_call 40; (with_reducible refine (minor_b y o' _).mono ?_); rintro e w' ⟨⟨n, rfl, hn⟩, hb⟩; (first | (have hs : (0 : Int) < n := (by have := FYB.out; omega)) | (have hs : n = 0 := (by have := FYB.out; omega)) | skip); have HM := Lib.hid hn; clear hn; clear x0 x1 x2 x3 x4 x5 y0 y1 y2 y3 y4 y5 k0 k1 k2 k3 k4 k5; replace I := Lib.hid (I.out.below hb); clear hb; obtain ⟨x0, x1, x2, x3, x4, x5⟩ := I.out.atx.cells; obtain ⟨y0, y1, y2, y3, y4, y5⟩ := I.out.aty.cells; obtain ⟨k0, k1, k2, k3, k4, k5⟩ := I.out.cells)
            | (go_at_call 39; (with_reducible refine (major_b x o _).mono ?_); rintro e w' ⟨⟨n, rfl, hn⟩, hb⟩; (first | (have hs : (0 : Int) < n := (by have := FXA.out; omega)) | (have hs : n = 0 := (by have := FXA.out; omega)) | skip); have HM := Lib.hid hn; clear hn; clear x0 x1 x2 x3 x4 x5 y0 y1 y2 y3 y4 y5 k0 k1 k2 k3 k4 k5; replace I := Lib.hid (I.out.below hb); clear hb; obtain ⟨x0, x1, x2, x3, x4, x5⟩ := I.out.atx.cells; obtain ⟨y0, y1, y2, y3, y4, y5⟩ := I.out.aty.cells; obtain ⟨k0, k1, k2, k3, k4, k5⟩ := I.out.cells)
            | (go_at_call 40; (with_reducible refine (minor_b x o _).mono ?_); rintro e w' ⟨⟨n, rfl, hn⟩, hb⟩; (first | (have hs : (0 : Int) < n := (by have := FXB.out; omega)) | (have hs : n = 0 := (by have := FXB.out; omega)) | skip); have HM := Lib.hid hn; clear hn; clear x0 x1 x2 x3 x4 x5 y0 y1 y2 y3 y4 y5 k0 k1 k2 k3 k4 k5; replace I := Lib.hid (I.out.below hb); clear hb; obtain ⟨x0, x1, x2, x3, x4, x5⟩ := I.out.atx.cells; obtain ⟨y0, y1, y2, y3, y4, y5⟩ := I.out.aty.cells; obtain ⟨k0, k1, k2, k3, k4, k5⟩ := I.out.cells)
            | (go_at_call 66; (with_reducible refine (errorsNew_any _ _).mono ?_); rintro e w' ⟨⟨et, ev, rfl⟩, hb⟩; clear x0 x1 x2 x3 x4 x5 y0 y1 y2 y3 y4 y5 k0 k1 k2 k3 k4 k5; replace I := Lib.hid (I.out.below hb); clear hb; obtain ⟨x0, x1, x2, x3, x4, x5⟩ := I.out.atx.cells; obtain ⟨y0, y1, y2, y3, y4, y5⟩ := I.out.aty.cells; obtain ⟨k0, k1, k2, k3, k4, k5⟩ := I.out.cells))
        refine bodyPost_ret (results_tmp2 rfl _ _ _) rfl ?_
        refine ⟨⟨_, ret_tup ?_⟩, I.out.bel⟩
        rw [← HR.out]
        have f0 := FYA.out
        have f1 := FXA.out
        clear I GX GY
        rw [HI.out]
        unfold caretV
        rw [decide_eq_false (by have := HC.out; omega : ¬ x.cmp y < 0)]
        first
          | (clear HR HI HC; go_light; simp_all; done)
          | (clear HR HI HC; go_light; simp_all; omega)
          | (simp [f0, f1]; done)
          | (simp [f0, f1]; omega)
    · have FYA := Lib.hid fz
      clear fz
      go_upto_region 7 with (first
          | (go_at_call 39; (with_reducible refine (major_b y o' _).mono ?_); rintro e w' ⟨⟨n, rfl, hn⟩, hb⟩; (first | (have hs : (0 : Int) < n := (by have := FYA.out; omega)) | (have hs : n = 0 := (by have := FYA.out; omega)) | skip); have HM := Lib.hid hn; clear hn; clear x0 x1 x2 x3 x4 x5 y0 y1 y2 y3 y4 y5 k0 k1 k2 k3 k4 k5; replace I := Lib.hid (I.out.below hb); clear hb; obtain ⟨x0, x1, x2, x3, x4, x5⟩ := I.out.atx.cells; obtain ⟨y0, y1, y2, y3, y4, y5⟩ := I.out.aty.cells; obtain ⟨k0, k1, k2, k3, k4, k5⟩ := I.out.cells)
          | (go_at_call 40; (with_reducible refine (minor_b y o' _).mono ?_); rintro e w' ⟨⟨n, rfl, hn⟩, hb⟩; (first | (have hs : (0 : Int) < n := (by have := FYB.out; omega)) | (have hs : n = 0 := (by have := FYB.out; omega)) | skip); have HM := Lib.hid hn; clear hn; clear x0 x1 x2 x3 x4 x5 y0 y1 y2 y3 y4 y5 k0 k1 k2 k3 k4 k5; replace I := Lib.hid (I.out.below hb); clear hb; obtain ⟨x0, x1, x2, x3, x4, x5⟩ := I.out.atx.cells; obtain ⟨y0, y1, y2, y3, y4, y5⟩ := I.out.aty.cells; obtain ⟨k0, k1, k2, k3, k4, k5⟩ := I.out.cells)
          | (go_at_call 39; (with_reducible refine (major_b x o _).mono ?_); rintro e w' ⟨⟨n, rfl, hn⟩, hb⟩; (first | (have hs : (0 : Int) < n := (by have := FXA.out; omega)) | (have hs : n = 0 := (by have := FXA.out; omega)) | skip); have HM := Lib.hid hn; clear hn; clear x0 x1 x2 x3 x4 x5 y0 y1 y2 y3 y4 y5 k0 k1 k2 k3 k4 k5; replace I := Lib.hid (I.out.below hb); clear hb; obtain ⟨x0, x1, x2, x3, x4, x5⟩ := I.out.atx.cells; obtain ⟨y0, y1, y2, y3, y4, y5⟩ := I.out.aty.cells; obtain ⟨k0, k1, k2, k3, k4, k5⟩ := I.out.cells)
          | (go_at_call 40; (with_reducible refine (minor_b x o _).mono ?_); rintro e w' ⟨⟨n, rfl, hn⟩, hb⟩; (first | (have hs : (0 : Int) < n := (by have := FXB.out; omega)) | (have hs : n = 0 := (by have := FXB.out; omega)) | skip); have HM := Lib.hid hn; clear hn; clear x0 x1 x2 x3 x4 x5 y0 y1 y2 y3 y4 y5 k0 k1 k2 k3 k4 k5; replace I := Lib.hid (I.out.below hb); clear hb; obtain ⟨x0, x1, x2, x3, x4, x5⟩ := I.out.atx.cells; obtain ⟨y0, y1, y2, y3, y4, y5⟩ := I.out.aty.cells; obtain ⟨k0, k1, k2, k3, k4, k5⟩ := I.out.cells)
          | (go_at_call 66; (with_reducible refine (errorsNew_any _ _).mono ?_); rintro e w' ⟨⟨et, ev, rfl⟩, hb⟩; clear x0 x1 x2 x3 x4 x5 y0 y1 y2 y3 y4 y5 k0 k1 k2 k3 k4 k5; replace I := Lib.hid (I.out.below hb); clear hb; obtain ⟨x0, x1, x2, x3, x4, x5⟩ := I.out.atx.cells; obtain ⟨y0, y1, y2, y3, y4, y5⟩ := I.out.aty.cells; obtain ⟨k0, k1, k2, k3, k4, k5⟩ := I.out.cells))
      rcases hv : ((x.a : Int) == y.a) with _ | _
      · have HV := Lib.hid (beq_no hv)
        go_region_held3 (fun w' => w'.cell? ⟨N, 0, none⟩ = some (.int .u64 x.a) ∧ w'.cell? ⟨N, 1, none⟩ = some (.int .u64 x.b) ∧ w'.cell? ⟨N, 2, none⟩ = some (.int .u64 x.c) ∧ w'.cell? ⟨N, 3, none⟩ = some (.string x.p) ∧ w'.cell? ⟨N, 4, none⟩ = some (.string x.m) ∧ w'.cell? ⟨N, 5, none⟩ = some (.string o) ∧ w'.cell? ⟨M', 0, none⟩ = some (.int .u64 y.a) ∧ w'.cell? ⟨M', 1, none⟩ = some (.int .u64 y.b) ∧ w'.cell? ⟨M', 2, none⟩ = some (.int .u64 y.c) ∧ w'.cell? ⟨M', 3, none⟩ = some (.string y.p) ∧ w'.cell? ⟨M', 4, none⟩ = some (.string y.m) ∧ w'.cell? ⟨M', 5, none⟩ = some (.string o') ∧ w'.cell? ⟨K, 0, none⟩ = some (.pointer (some ⟨M', 0, none⟩))) (first | (refine ⟨?_, ?_, ?_, ?_, ?_, ?_, ?_, ?_, ?_, ?_, ?_, ?_, ?_⟩ <;> (repeat (first | with_reducible assumption | with_reducible apply cell_alloc_some | with_reducible apply cell_drew_some | with_reducible refine cell_below (by with_reducible assumption) ?_ | with_reducible refine cell_set_other (by omega) ?_))) | fail) (first | (go_at_call 39; (with_reducible refine (major_v x o _).mono ?_); rintro e wa1 ⟨rfl, hba⟩; have HBA1 := Lib.hid (Below.up (w := w') (by (repeat (first | exact Below.refl _ _ | apply Below.drew | (apply below_alloc_on (Nat.le_refl _))))) hba)) | (go_at_call 39; (with_reducible refine (major_v y o' _).mono ?_); rintro e wb1 ⟨rfl, hbb⟩; have HBB1 := Lib.hid (Below.up HBA1.out (Below.up (w := wa1) (by (repeat (first | exact Below.refl _ _ | apply Below.drew | (apply below_alloc_on (Nat.le_refl _))))) hbb))) | fail)
        replace I := Lib.hid (I.out.below HBB1.out)
        clear x0 x1 x2 x3 x4 x5 y0 y1 y2 y3 y4 y5 k0 k1 k2 k3 k4 k5
        obtain ⟨x0, x1, x2, x3, x4, x5⟩ := I.out.atx.cells
        obtain ⟨y0, y1, y2, y3, y4, y5⟩ := I.out.aty.cells
        obtain ⟨k0, k1, k2, k3, k4, k5⟩ := I.out.cells
        go_wp2_with (go_at_call 66; (with_reducible refine (errorsNew_any _ _).mono ?_); rintro e w' ⟨⟨et, ev, rfl⟩, hb⟩; clear x0 x1 x2 x3 x4 x5 y0 y1 y2 y3 y4 y5 k0 k1 k2 k3 k4 k5; replace I := Lib.hid (I.out.below hb); clear hb; obtain ⟨x0, x1, x2, x3, x4, x5⟩ := I.out.atx.cells; obtain ⟨y0, y1, y2, y3, y4, y5⟩ := I.out.aty.cells; obtain ⟨k0, k1, k2, k3, k4, k5⟩ := I.out.cells)
        refine bodyPost_ret (results_tmp2 rfl _ _ _) rfl ?_
        refine ⟨⟨_, ret_tup ?_⟩, I.out.bel⟩
        rw [← HR.out]
        have f0 := FYA.out
        have f1 := HV.out
        clear I GX GY
        rw [HI.out]
        unfold caretV
        rw [decide_eq_false (by have := HC.out; omega : ¬ x.cmp y < 0)]
        first
          | (clear HR HI HC; go_light; simp_all; done)
          | (clear HR HI HC; go_light; simp_all; omega)
          | (simp [f0, f1]; done)
          | (simp [f0, f1]; omega)
      · have HV := Lib.hid (beq_yes hv)
        go_region_held3 (fun w' => w'.cell? ⟨N, 0, none⟩ = some (.int .u64 x.a) ∧ w'.cell? ⟨N, 1, none⟩ = some (.int .u64 x.b) ∧ w'.cell? ⟨N, 2, none⟩ = some (.int .u64 x.c) ∧ w'.cell? ⟨N, 3, none⟩ = some (.string x.p) ∧ w'.cell? ⟨N, 4, none⟩ = some (.string x.m) ∧ w'.cell? ⟨N, 5, none⟩ = some (.string o) ∧ w'.cell? ⟨M', 0, none⟩ = some (.int .u64 y.a) ∧ w'.cell? ⟨M', 1, none⟩ = some (.int .u64 y.b) ∧ w'.cell? ⟨M', 2, none⟩ = some (.int .u64 y.c) ∧ w'.cell? ⟨M', 3, none⟩ = some (.string y.p) ∧ w'.cell? ⟨M', 4, none⟩ = some (.string y.m) ∧ w'.cell? ⟨M', 5, none⟩ = some (.string o') ∧ w'.cell? ⟨K, 0, none⟩ = some (.pointer (some ⟨M', 0, none⟩))) (first | (refine ⟨?_, ?_, ?_, ?_, ?_, ?_, ?_, ?_, ?_, ?_, ?_, ?_, ?_⟩ <;> (repeat (first | with_reducible assumption | with_reducible apply cell_alloc_some | with_reducible apply cell_drew_some | with_reducible refine cell_below (by with_reducible assumption) ?_ | with_reducible refine cell_set_other (by omega) ?_))) | fail) (first | (go_at_call 39; (with_reducible refine (major_v x o _).mono ?_); rintro e wa1 ⟨rfl, hba⟩; have HBA1 := Lib.hid (Below.up (w := w') (by (repeat (first | exact Below.refl _ _ | apply Below.drew | (apply below_alloc_on (Nat.le_refl _))))) hba)) | (go_at_call 39; (with_reducible refine (major_v y o' _).mono ?_); rintro e wb1 ⟨rfl, hbb⟩; have HBB1 := Lib.hid (Below.up HBA1.out (Below.up (w := wa1) (by (repeat (first | exact Below.refl _ _ | apply Below.drew | (apply below_alloc_on (Nat.le_refl _))))) hbb))) | fail)
        replace I := Lib.hid (I.out.below HBB1.out)
        clear x0 x1 x2 x3 x4 x5 y0 y1 y2 y3 y4 y5 k0 k1 k2 k3 k4 k5
        obtain ⟨x0, x1, x2, x3, x4, x5⟩ := I.out.atx.cells
        obtain ⟨y0, y1, y2, y3, y4, y5⟩ := I.out.aty.cells
        obtain ⟨k0, k1, k2, k3, k4, k5⟩ := I.out.cells
        go_wp2
        refine bodyPost_ret (results_tmp2 rfl _ _ _) rfl ?_
        refine ⟨⟨_, ret_tup ?_⟩, I.out.bel⟩
        rw [← HR.out]
        have f0 := FYA.out
        have f1 := HV.out
        clear I GX GY
        rw [HI.out]
        unfold caretV
        rw [decide_eq_false (by have := HC.out; omega : ¬ x.cmp y < 0)]
        first
          | (clear HR HI HC; go_light; simp_all; done)
          | (clear HR HI HC; go_light; simp_all; omega)
          | (simp [f0, f1]; done)
          | (simp [f0, f1]; omega)
  · rcases Nat.eq_zero_or_pos y.a with fz | fz
    · have FYA := Lib.hid fz
      clear fz
      go_upto_region 7 with (first
          | (go_at_call 39; (with_reducible refine (major_b y o' _).mono ?_); rintro e w' ⟨⟨n, rfl, hn⟩, hb⟩; (first | (have hs : (0 : Int) < n := (by have := FYA.out; omega)) | (have hs : n = 0 := (by have := FYA.out; omega)) | skip); have HM := Lib.hid hn; clear hn; clear x0 x1 x2 x3 x4 x5 y0 y1 y2 y3 y4 y5 k0 k1 k2 k3 k4 k5; replace I := Lib.hid (I.out.below hb); clear hb; obtain ⟨x0, x1, x2, x3, x4, x5⟩ := I.out.atx.cells; obtain ⟨y0, y1, y2, y3, y4, y5⟩ := I.out.aty.cells; obtain ⟨k0, k1, k2, k3, k4, k5⟩ := I.out.cells)
          | (go_at_call 40; (with_reducible refine (minor_b y o' _).mono ?_); rintro e w' ⟨⟨n, rfl, hn⟩, hb⟩; (first | (have hs : (0 : Int) < n := (by have := FYB.out; omega)) | (have hs : n = 0 := (by have := FYB.out; omega)) | skip); have HM := Lib.hid hn; clear hn; clear x0 x1 x2 x3 x4 x5 y0 y1 y2 y3 y4 y5 k0 k1 k2 k3 k4 k5; replace I := Lib.hid (I.out.below hb); clear hb; obtain ⟨x0, x1, x2, x3, x4, x5⟩ := I.out.atx.cells; obtain ⟨y0, y1, y2, y3, y4, y5⟩ := I.out.aty.cells; obtain ⟨k0, k1, k2, k3, k4, k5⟩ := I.out.cells)
          | (go_at_call 39; (with_reducible refine (major_b x o _).mono ?_); rintro e w' ⟨⟨n, rfl, hn⟩, hb⟩; (first | (have hs : (0 : Int) < n := (by have := FXA.out; omega)) | (have hs : n = 0 := (by have := FXA.out; omega)) | skip); have HM := Lib.hid hn; clear hn; clear x0 x1 x2 x3 x4 x5 y0 y1 y2 y3 y4 y5 k0 k1 k2 k3 k4 k5; replace I := Lib.hid (I.out.below hb); clear hb; obtain ⟨x0, x1, x2, x3, x4, x5⟩ := I.out.atx.cells; obtain ⟨y0, y1, y2, y3, y4, y5⟩ := I.out.aty.cells; obtain ⟨k0, k1, k2, k3, k4, k5⟩ := I.out.cells)
          | (go_at_call 40; (with_reducible refine (minor_b x o _).mono ?_); rintro e w' ⟨⟨n, rfl, hn⟩, hb⟩; (first | (have hs : (0 : Int) < n := (by have := FXB.out; omega)) | (have hs : n = 0 := (by have := FXB.out; omega)) | skip); have HM := Lib.hid hn; clear hn; clear x0 x1 x2 x3 x4 x5 y0 y1 y2 y3 y4 y5 k0 k1 k2 k3 k4 k5; replace I := Lib.hid (I.out.below hb); clear hb; obtain ⟨x0, x1, x2, x3, x4, x5⟩ := I.out.atx.cells; obtain ⟨y0, y1, y2, y3, y4, y5⟩ := I.out.aty.cells; obtain ⟨k0, k1, k2, k3, k4, k5⟩ := I.out.cells)
          | (go_at_call 66; (with_reducible refine (errorsNew_any _ _).mono ?_); rintro e w' ⟨⟨et, ev, rfl⟩, hb⟩; clear x0 x1 x2 x3 x4 x5 y0 y1 y2 y3 y4 y5 k0 k1 k2 k3 k4 k5; replace I := Lib.hid (I.out.below hb); clear hb; obtain ⟨x0, x1, x2, x3, x4, x5⟩ := I.out.atx.cells; obtain ⟨y0, y1, y2, y3, y4, y5⟩ := I.out.aty.cells; obtain ⟨k0, k1, k2, k3, k4, k5⟩ := I.out.cells))
      rcases hv : ((x.a : Int) == y.a) with _ | _
      · have HV := Lib.hid (beq_no hv)
        go_region_held3 (fun w' => w'.cell? ⟨N, 0, none⟩ = some (.int .u64 x.a) ∧ w'.cell? ⟨N, 1, none⟩ = some (.int .u64 x.b) ∧ w'.cell? ⟨N, 2, none⟩ = some (.int .u64 x.c) ∧ w'.cell? ⟨N, 3, none⟩ = some (.string x.p) ∧ w'.cell? ⟨N, 4, none⟩ = some (.string x.m) ∧ w'.cell? ⟨N, 5, none⟩ = some (.string o) ∧ w'.cell? ⟨M', 0, none⟩ = some (.int .u64 y.a) ∧ w'.cell? ⟨M', 1, none⟩ = some (.int .u64 y.b) ∧ w'.cell? ⟨M', 2, none⟩ = some (.int .u64 y.c) ∧ w'.cell? ⟨M', 3, none⟩ = some (.string y.p) ∧ w'.cell? ⟨M', 4, none⟩ = some (.string y.m) ∧ w'.cell? ⟨M', 5, none⟩ = some (.string o') ∧ w'.cell? ⟨K, 0, none⟩ = some (.pointer (some ⟨M', 0, none⟩))) (first | (refine ⟨?_, ?_, ?_, ?_, ?_, ?_, ?_, ?_, ?_, ?_, ?_, ?_, ?_⟩ <;> (repeat (first | with_reducible assumption | with_reducible apply cell_alloc_some | with_reducible apply cell_drew_some | with_reducible refine cell_below (by with_reducible assumption) ?_ | with_reducible refine cell_set_other (by omega) ?_))) | fail) (first | (go_at_call 39; (with_reducible refine (major_v x o _).mono ?_); rintro e wa1 ⟨rfl, hba⟩; have HBA1 := Lib.hid (Below.up (w := w') (by (repeat (first | exact Below.refl _ _ | apply Below.drew | (apply below_alloc_on (Nat.le_refl _))))) hba)) | (go_at_call 39; (with_reducible refine (major_v y o' _).mono ?_); rintro e wb1 ⟨rfl, hbb⟩; have HBB1 := Lib.hid (Below.up HBA1.out (Below.up (w := wa1) (by (repeat (first | exact Below.refl _ _ | apply Below.drew | (apply below_alloc_on (Nat.le_refl _))))) hbb))) | fail)
        replace I := Lib.hid (I.out.below HBB1.out)
        clear x0 x1 x2 x3 x4 x5 y0 y1 y2 y3 y4 y5 k0 k1 k2 k3 k4 k5
        obtain ⟨x0, x1, x2, x3, x4, x5⟩ := I.out.atx.cells
        obtain ⟨y0, y1, y2, y3, y4, y5⟩ := I.out.aty.cells
        obtain ⟨k0, k1, k2, k3, k4, k5⟩ := I.out.cells
        go_wp2_with (go_at_call 66; (with_reducible refine (errorsNew_any _ _).mono ?_); rintro e w' ⟨⟨et, ev, rfl⟩, hb⟩; clear x0 x1 x2 x3 x4 x5 y0 y1 y2 y3 y4 y5 k0 k1 k2 k3 k4 k5; replace I := Lib.hid (I.out.below hb); clear hb; obtain ⟨x0, x1, x2, x3, x4, x5⟩ := I.out.atx.cells; obtain ⟨y0, y1, y2, y3, y4, y5⟩ := I.out.aty.cells; obtain ⟨k0, k1, k2, k3, k4, k5⟩ := I.out.cells)
        refine bodyPost_ret (results_tmp2 rfl _ _ _) rfl ?_
        refine ⟨⟨_, ret_tup ?_⟩, I.out.bel⟩
        rw [← HR.out]
        have f0 := FYA.out
        have f1 := HV.out
        clear I GX GY
        rw [HI.out]
        unfold caretV
        rw [decide_eq_false (by have := HC.out; omega : ¬ x.cmp y < 0)]
        first
          | (clear HR HI HC; go_light; simp_all; done)
          | (clear HR HI HC; go_light; simp_all; omega)
          | (simp [f0, f1]; done)
          | (simp [f0, f1]; omega)
      · have HV := Lib.hid (beq_yes hv)
        go_region_held3 (fun w' => w'.cell? ⟨N, 0, none⟩ = some (.int .u64 x.a) ∧ w'.cell? ⟨N, 1, none⟩ = some (.int .u64 x.b) ∧ w'.cell? ⟨N, 2, none⟩ = some (.int .u64 x.c) ∧ w'.cell? ⟨N, 3, none⟩ = some (.string x.p) ∧ w'.cell? ⟨N, 4, none⟩ = some (.string x.m) ∧ w'.cell? ⟨N, 5, none⟩ = some (.string o) ∧ w'.cell? ⟨M', 0, none⟩ = some (.int .u64 y.a) ∧ w'.cell? ⟨M', 1, none⟩ = some (.int .u64 y.b) ∧ w'.cell? ⟨M', 2, none⟩ = some (.int .u64 y.c) ∧ w'.cell? ⟨M', 3, none⟩ = some (.string y.p) ∧ w'.cell? ⟨M', 4, none⟩ = some (.string y.m) ∧ w'.cell? ⟨M', 5, none⟩ = some (.string o') ∧ w'.cell? ⟨K, 0, none⟩ = some (.pointer (some ⟨M', 0, none⟩))) (first | (refine ⟨?_, ?_, ?_, ?_, ?_, ?_, ?_, ?_, ?_, ?_, ?_, ?_, ?_⟩ <;> (repeat (first | with_reducible assumption | with_reducible apply cell_alloc_some | with_reducible apply cell_drew_some | with_reducible refine cell_below (by with_reducible assumption) ?_ | with_reducible refine cell_set_other (by omega) ?_))) | fail) (first | (go_at_call 39; (with_reducible refine (major_v x o _).mono ?_); rintro e wa1 ⟨rfl, hba⟩; have HBA1 := Lib.hid (Below.up (w := w') (by (repeat (first | exact Below.refl _ _ | apply Below.drew | (apply below_alloc_on (Nat.le_refl _))))) hba)) | (go_at_call 39; (with_reducible refine (major_v y o' _).mono ?_); rintro e wb1 ⟨rfl, hbb⟩; have HBB1 := Lib.hid (Below.up HBA1.out (Below.up (w := wa1) (by (repeat (first | exact Below.refl _ _ | apply Below.drew | (apply below_alloc_on (Nat.le_refl _))))) hbb))) | fail)
        replace I := Lib.hid (I.out.below HBB1.out)
        clear x0 x1 x2 x3 x4 x5 y0 y1 y2 y3 y4 y5 k0 k1 k2 k3 k4 k5
        obtain ⟨x0, x1, x2, x3, x4, x5⟩ := I.out.atx.cells
        obtain ⟨y0, y1, y2, y3, y4, y5⟩ := I.out.aty.cells
        obtain ⟨k0, k1, k2, k3, k4, k5⟩ := I.out.cells
        go_wp2
        refine bodyPost_ret (results_tmp2 rfl _ _ _) rfl ?_
        refine ⟨⟨_, ret_tup ?_⟩, I.out.bel⟩
        rw [← HR.out]
        have f0 := FYA.out
        have f1 := HV.out
        clear I GX GY
        rw [HI.out]
        unfold caretV
        rw [decide_eq_false (by have := HC.out; omega : ¬ x.cmp y < 0)]
        first
          | (clear HR HI HC; go_light; simp_all; done)
          | (clear HR HI HC; go_light; simp_all; omega)
          | (simp [f0, f1]; done)
          | (simp [f0, f1]; omega)
    · have FYA := Lib.hid fz
      clear fz
      go_upto_region 7 with (first
          | (go_at_call 39; (with_reducible refine (major_b y o' _).mono ?_); rintro e w' ⟨⟨n, rfl, hn⟩, hb⟩; (first | (have hs : (0 : Int) < n := (by have := FYA.out; omega)) | (have hs : n = 0 := (by have := FYA.out; omega)) | skip); have HM := Lib.hid hn; clear hn; clear x0 x1 x2 x3 x4 x5 y0 y1 y2 y3 y4 y5 k0 k1 k2 k3 k4 k5; replace I := Lib.hid (I.out.below hb); clear hb; obtain ⟨x0, x1, x2, x3, x4, x5⟩ := I.out.atx.cells; obtain ⟨y0, y1, y2, y3, y4, y5⟩ := I.out.aty.cells; obtain ⟨k0, k1, k2, k3, k4, k5⟩ := I.out.cells)
          | (go_at_call 40; (with_reducible refine (minor_b y o' _).mono ?_); rintro e w' ⟨⟨n, rfl, hn⟩, hb⟩; (first | (have hs : (0 : Int) < n := (by have := FYB.out; omega)) | (have hs : n = 0 := (by have := FYB.out; omega)) | skip); have HM := Lib.hid hn; clear hn; clear x0 x1 x2 x3 x4 x5 y0 y1 y2 y3 y4 y5 k0 k1 k2 k3 k4 k5; replace I := Lib.hid (I.out.below hb); clear hb; obtain ⟨x0, x1, x2, x3, x4, x5⟩ := I.out.atx.cells; obtain ⟨y0, y1, y2, y3, y4, y5⟩ := I.out.aty.cells; obtain ⟨k0, k1, k2, k3, k4, k5⟩ := I.out.cells)
          | (go_at_call 39; (with_reducible refine (major_b x o _).mono ?_); rintro e w' ⟨⟨n, rfl, hn⟩, hb⟩; (first | (have hs : (0 : Int) < n := (by have := FXA.out; omega)) | (have hs : n = 0 := (by have := FXA.out; omega)) | skip); have HM := Lib.hid hn; clear hn; clear x0 x1 x2 x3 x4 x5 y0 y1 y2 y3 y4 y5 k0 k1 k2 k3 k4 k5; replace I := Lib.hid (I.out.below hb); clear hb; obtain ⟨x0, x1, x2, x3, x4, x5⟩ := I.out.atx.cells; obtain ⟨y0, y1, y2, y3, y4, y5⟩ := I.out.aty.cells; obtain ⟨k0, k1, k2, k3, k4, k5⟩ := I.out.cells)
          | (go_at_call 40; (with_reducible refine (minor_b x o _).mono ?_); rintro e w' ⟨⟨n, rfl, hn⟩, hb⟩; (first | (have hs : (0 : Int) < n := (by have := FXB.out; omega)) | (have hs : n = 0 := (by have := FXB.out; omega)) | skip); have HM := Lib.hid hn; clear hn; clear x0 x1 x2 x3 x4 x5 y0 y1 y2 y3 y4 y5 k0 k1 k2 k3 k4 k5; replace I := Lib.hid (I.out.below hb); clear hb; obtain ⟨x0, x1, x2, x3, x4, x5⟩ := I.out.atx.cells; obtain ⟨y0, y1, y2, y3, y4, y5⟩ := I.out.aty.cells; obtain ⟨k0, k1, k2, k3, k4, k5⟩ := I.out.cells)
          | (go_at_call 66; (with_reducible refine (errorsNew_any _ _).mono ?_); rintro e w' ⟨⟨et, ev, rfl⟩, hb⟩; clear x0 x1 x2 x3 x4 x5 y0 y1 y2 y3 y4 y5 k0 k1 k2 k3 k4 k5; replace I := Lib.hid (I.out.below hb); clear hb; obtain ⟨x0, x1, x2, x3, x4, x5⟩ := I.out.atx.cells; obtain ⟨y0, y1, y2, y3, y4, y5⟩ := I.out.aty.cells; obtain ⟨k0, k1, k2, k3, k4, k5⟩ := I.out.cells))
      rcases hv : ((x.a : Int) == y.a) with _ | _
      · have HV := Lib.hid (beq_no hv)
        go_region_held3 (fun w' => w'.cell? ⟨N, 0, none⟩ = some (.int .u64 x.a) ∧ w'.cell? ⟨N, 1, none⟩ = some (.int .u64 x.b) ∧ w'.cell? ⟨N, 2, none⟩ = some (.int .u64 x.c) ∧ w'.cell? ⟨N, 3, none⟩ = some (.string x.p) ∧ w'.cell? ⟨N, 4, none⟩ = some (.string x.m) ∧ w'.cell? ⟨N, 5, none⟩ = some (.string o) ∧ w'.cell? ⟨M', 0, none⟩ = some (.int .u64 y.a) ∧ w'.cell? ⟨M', 1, none⟩ = some (.int .u64 y.b) ∧ w'.cell? ⟨M', 2, none⟩ = some (.int .u64 y.c) ∧ w'.cell? ⟨M', 3, none⟩ = some (.string y.p) ∧ w'.cell? ⟨M', 4, none⟩ = some (.string y.m) ∧ w'.cell? ⟨M', 5, none⟩ = some (.string o') ∧ w'.cell? ⟨K, 0, none⟩ = some (.pointer (some ⟨M', 0, none⟩))) (first | (refine ⟨?_, ?_, ?_, ?_, ?_, ?_, ?_, ?_, ?_, ?_, ?_, ?_, ?_⟩ <;> (repeat (first | with_reducible assumption | with_reducible apply cell_alloc_some | with_reducible apply cell_drew_some | with_reducible refine cell_below (by with_reducible assumption) ?_ | with_reducible refine cell_set_other (by omega) ?_))) | fail) (first | (go_at_call 39; (with_reducible refine (major_v x o _).mono ?_); rintro e wa1 ⟨rfl, hba⟩; have HBA1 := Lib.hid (Below.up (w := w') (by (repeat (first | exact Below.refl _ _ | apply Below.drew | (apply below_alloc_on (Nat.le_refl _))))) hba)) | (go_at_call 39; (with_reducible refine (major_v y o' _).mono ?_); rintro e wb1 ⟨rfl, hbb⟩; have HBB1 := Lib.hid (Below.up HBA1.out (Below.up (w := wa1) (by (repeat (first | exact Below.refl _ _ | apply Below.drew | (apply below_alloc_on (Nat.le_refl _))))) hbb))) | fail)
        replace I := Lib.hid (I.out.below HBB1.out)
        clear x0 x1 x2 x3 x4 x5 y0 y1 y2 y3 y4 y5 k0 k1 k2 k3 k4 k5
        obtain ⟨x0, x1, x2, x3, x4, x5⟩ := I.out.atx.cells
        obtain ⟨y0, y1, y2, y3, y4, y5⟩ := I.out.aty.cells
        obtain ⟨k0, k1, k2, k3, k4, k5⟩ := I.out.cells
        go_wp2_with (go_at_call 66; (with_reducible refine (errorsNew_any _ _).mono ?_); rintro e w' ⟨⟨et, ev, rfl⟩, hb⟩; clear x0 x1 x2 x3 x4 x5 y0 y1 y2 y3 y4 y5 k0 k1 k2 k3 k4 k5; replace I := Lib.hid (I.out.below hb); clear hb; obtain ⟨x0, x1, x2, x3, x4, x5⟩ := I.out.atx.cells; obtain ⟨y0, y1, y2, y3, y4, y5⟩ := I.out.aty.cells; obtain ⟨k0, k1, k2, k3, k4, k5⟩ := I.out.cells)
        refine bodyPost_ret (results_tmp2 rfl _ _ _) rfl ?_
        refine ⟨⟨_, ret_tup ?_⟩, I.out.bel⟩
        rw [← HR.out]
        have f0 := FYA.out
        have f1 := HV.out
        clear I GX GY
        rw [HI.out]
        unfold caretV
        rw [decide_eq_false (by have := HC.out; omega : ¬ x.cmp y < 0)]
        first
          | (clear HR HI HC; go_light; simp_all; done)
          | (clear HR HI HC; go_light; simp_all; omega)
          | (simp [f0, f1]; done)
          | (simp [f0, f1]; omega)
      · have HV := Lib.hid (beq_yes hv)
        go_region_held3 (fun w' => w'.cell? ⟨N, 0, none⟩ = some (.int .u64 x.a) ∧ w'.cell? ⟨N, 1, none⟩ = some (.int .u64 x.b) ∧ w'.cell? ⟨N, 2, none⟩ = some (.int .u64 x.c) ∧ w'.cell? ⟨N, 3, none⟩ = some (.string x.p) ∧ w'.cell? ⟨N, 4, none⟩ = some (.string x.m) ∧ w'.cell? ⟨N, 5, none⟩ = some (.string o) ∧ w'.cell? ⟨M', 0, none⟩ = some (.int .u64 y.a) ∧ w'.cell? ⟨M', 1, none⟩ = some (.int .u64 y.b) ∧ w'.cell? ⟨M', 2, none⟩ = some (.int .u64 y.c) ∧ w'.cell? ⟨M', 3, none⟩ = some (.string y.p) ∧ w'.cell? ⟨M', 4, none⟩ = some (.string y.m) ∧ w'.cell? ⟨M', 5, none⟩ = some (.string o') ∧ w'.cell? ⟨K, 0, none⟩ = some (.pointer (some ⟨M', 0, none⟩))) (first | (refine ⟨?_, ?_, ?_, ?_, ?_, ?_, ?_, ?_, ?_, ?_, ?_, ?_, ?_⟩ <;> (repeat (first | with_reducible assumption | with_reducible apply cell_alloc_some | with_reducible apply cell_drew_some | with_reducible refine cell_below (by with_reducible assumption) ?_ | with_reducible refine cell_set_other (by omega) ?_))) | fail) (first | (go_at_call 39; (with_reducible refine (major_v x o _).mono ?_); rintro e wa1 ⟨rfl, hba⟩; have HBA1 := Lib.hid (Below.up (w := w') (by (repeat (first | exact Below.refl _ _ | apply Below.drew | (apply below_alloc_on (Nat.le_refl _))))) hba)) | (go_at_call 39; (with_reducible refine (major_v y o' _).mono ?_); rintro e wb1 ⟨rfl, hbb⟩; have HBB1 := Lib.hid (Below.up HBA1.out (Below.up (w := wa1) (by (repeat (first | exact Below.refl _ _ | apply Below.drew | (apply below_alloc_on (Nat.le_refl _))))) hbb))) | fail)
        replace I := Lib.hid (I.out.below HBB1.out)
        clear x0 x1 x2 x3 x4 x5 y0 y1 y2 y3 y4 y5 k0 k1 k2 k3 k4 k5
        obtain ⟨x0, x1, x2, x3, x4, x5⟩ := I.out.atx.cells
        obtain ⟨y0, y1, y2, y3, y4, y5⟩ := I.out.aty.cells
        obtain ⟨k0, k1, k2, k3, k4, k5⟩ := I.out.cells
        go_wp2
        refine bodyPost_ret (results_tmp2 rfl _ _ _) rfl ?_
        refine ⟨⟨_, ret_tup ?_⟩, I.out.bel⟩
        rw [← HR.out]
        have f0 := FYA.out
        have f1 := HV.out
        clear I GX GY
        rw [HI.out]
        unfold caretV
        rw [decide_eq_false (by have := HC.out; omega : ¬ x.cmp y < 0)]
        first
          | (clear HR HI HC; go_light; simp_all; done)
          | (clear HR HI HC; go_light; simp_all; omega)
          | (simp [f0, f1]; done)
          | (simp [f0, f1]; omega)
end Go.Proofs.YtnkdpgcfaelpkaaDoor
