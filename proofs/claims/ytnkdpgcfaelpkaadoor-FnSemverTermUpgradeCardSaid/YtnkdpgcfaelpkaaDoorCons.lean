/-
  The checks of one term's record: what each operator's function says.
-/
import Derived.Test.YtnkdpgcfaelpkaaDoorBaseC
import Derived.Deep.Light
import Derived.Deep.DeepCutAuto
namespace Go.Proofs.YtnkdpgcfaelpkaaDoor
open Go.RowKit
set_option maxRecDepth 100000
set_option linter.unusedVariables false

/-- the checks, over the parts of a term's record -/
def tildeV (x y : V) (mi pa : Bool) : Bool :=
  !decide (x.cmp y < 0) && ((y.a == 0 && y.b == 0 && y.c == 0 && !mi && !pa) || (x.a == y.a && (x.b == y.b || mi)))
def caretV (x y : V) (mi pa : Bool) : Bool :=
  !decide (x.cmp y < 0) && (if decide (0 < y.a) || mi then x.a == y.a else !decide (0 < x.a) && (if decide (0 < y.b) || pa then x.b == y.b else !decide (0 < x.b) && y.c == x.c))
def aboveV (x y : V) (di mi pa : Bool) : Bool :=
  if !di then decide (x.cmp y = 1) else if y.a < x.a then true else if x.a < y.a then false else if mi then false else if pa then decide (y.b < x.b) else decide (x.cmp y = 1)
def mostV (x y : V) (di mi : Bool) : Bool :=
  if !di then decide (x.cmp y ≤ 0) else if y.a < x.a then false else if x.a == y.a && decide (y.b < x.b) && !mi then false else true
/-- what the walk of a check keeps: the version at N, the term's at M', the term's record at K -/
structure CSt (w wx : World) (N K M' : Nat) (x y : V) (o o' s : ByteArray) (di mi pa : Bool) : Prop where
  atx : AtV wx N x o
  aty : AtV wx M' y o'
  atk : wx.heap[K]? = some (.cells #[.pointer (some ⟨M', 0, none⟩), .string ⟨#[]⟩, .string s, .bool mi, .bool di, .bool pa] 82 (0, 0))
  num : NumErrs wx
  bel : Below w.heap.size w wx
theorem CSt.below {w wx wy : World} {N K M' : Nat} {x y : V} {o o' s : ByteArray} {di mi pa : Bool} (h : CSt w wx N K M' x y o o' s di mi pa) (b : Below wx.heap.size wx wy) : CSt w wy N K M' x y o o' s di mi pa :=
  ⟨h.atx.below b, h.aty.below b, blk_below b h.atk, h.num.below b, Below.up h.bel b⟩
theorem CSt.cells {w wx : World} {N K M' : Nat} {x y : V} {o o' s : ByteArray} {di mi pa : Bool} (h : CSt w wx N K M' x y o o' s di mi pa) :
    wx.cell? ⟨K, 0, none⟩ = some (.pointer (some ⟨M', 0, none⟩)) ∧ wx.cell? ⟨K, 1, none⟩ = some (.string ⟨#[]⟩) ∧ wx.cell? ⟨K, 2, none⟩ = some (.string s) ∧ wx.cell? ⟨K, 3, none⟩ = some (.bool mi) ∧ wx.cell? ⟨K, 4, none⟩ = some (.bool di) ∧ wx.cell? ⟨K, 5, none⟩ = some (.bool pa) := by
  have h1 := h.atk
  refine ⟨?_, ?_, ?_, ?_, ?_, ?_⟩ <;> (rw [cell_of_row wx _ _ _ _ _ h1]; rfl)
theorem ret_tup {b r : Bool} {ev : Value} (h : b = r) : Ending.returned (.tuple #[.bool b, ev]) = .returned (.tuple #[.bool r, ev]) := by rw [h]
theorem major_b (x : V) (o : ByteArray) (w : World) : Calls Tryd.prog 39 #[.agg #[.int .u64 x.a, .int .u64 x.b, .int .u64 x.c, .string x.p, .string x.m, .string o]] w fun e w' => (∃ n : Int, e = .returned (.int .u64 n) ∧ n = (x.a : Int)) ∧ Below w.heap.size w w' :=
  (major_any x o w).mono fun e w' h => ⟨⟨_, h.1, rfl⟩, by rw [h.2]; exact below_alloc _ _⟩
theorem minor_b (x : V) (o : ByteArray) (w : World) : Calls Tryd.prog 40 #[.agg #[.int .u64 x.a, .int .u64 x.b, .int .u64 x.c, .string x.p, .string x.m, .string o]] w fun e w' => (∃ n : Int, e = .returned (.int .u64 n) ∧ n = (x.b : Int)) ∧ Below w.heap.size w w' :=
  (minor_any x o w).mono fun e w' h => ⟨⟨_, h.1, rfl⟩, by rw [h.2]; exact below_alloc _ _⟩
theorem patch_b (x : V) (o : ByteArray) (w : World) : Calls Tryd.prog 41 #[.agg #[.int .u64 x.a, .int .u64 x.b, .int .u64 x.c, .string x.p, .string x.m, .string o]] w fun e w' => (∃ n : Int, e = .returned (.int .u64 n) ∧ n = (x.c : Int)) ∧ Below w.heap.size w w' :=
  (patch_any x o w).mono fun e w' h => ⟨⟨_, h.1, rfl⟩, by rw [h.2]; exact below_alloc _ _⟩
theorem prere_b (x : V) (o : ByteArray) (w : World) : Calls Tryd.prog 42 #[.agg #[.int .u64 x.a, .int .u64 x.b, .int .u64 x.c, .string x.p, .string x.m, .string o]] w fun e w' => e = .returned (.string x.p) ∧ Below w.heap.size w w' :=
  (prerelease_any x o w).mono fun e w' h => ⟨h.1, by rw [h.2]; exact below_alloc _ _⟩
theorem major_v (x : V) (o : ByteArray) (w : World) : Calls Tryd.prog 39 #[.agg #[.int .u64 x.a, .int .u64 x.b, .int .u64 x.c, .string x.p, .string x.m, .string o]] w fun e w' => e = .returned (.int .u64 x.a) ∧ Below w.heap.size w w' :=
  (major_any x o w).mono fun e w' h => ⟨h.1, by rw [h.2]; exact below_alloc _ _⟩
theorem minor_v (x : V) (o : ByteArray) (w : World) : Calls Tryd.prog 40 #[.agg #[.int .u64 x.a, .int .u64 x.b, .int .u64 x.c, .string x.p, .string x.m, .string o]] w fun e w' => e = .returned (.int .u64 x.b) ∧ Below w.heap.size w w' :=
  (minor_any x o w).mono fun e w' h => ⟨h.1, by rw [h.2]; exact below_alloc _ _⟩
theorem patch_v (x : V) (o : ByteArray) (w : World) : Calls Tryd.prog 41 #[.agg #[.int .u64 x.a, .int .u64 x.b, .int .u64 x.c, .string x.p, .string x.m, .string o]] w fun e w' => e = .returned (.int .u64 x.c) ∧ Below w.heap.size w w' :=
  (patch_any x o w).mono fun e w' h => ⟨h.1, by rw [h.2]; exact below_alloc _ _⟩
theorem ne_int {a b : Nat} (h : ((a : Int) != b) = true) : (a == b) = false := by
  have k : ¬ (a : Int) = b := by simpa using h
  simp
  omega
theorem eq_int {a b : Nat} (h : ((a : Int) != b) = false) : (a == b) = true := by
  have k : (a : Int) = b := by simpa using h
  simp
  omega
set_option maxHeartbeats 8000000 in
theorem tilde_any (x y : V) (o o' s : ByteArray) (N K M' : Nat) (di mi pa pre : Bool) (w : World) (I : Hid (CSt w w N K M' x y o o' s di mi pa)) (GX : Hid x.pGood) (GY : Hid y.pGood) (zx : x.p.size ≤ 2147483647) (zy : y.p.size ≤ 2147483647) (r : Bool) (HR : Hid ((x.inl pre && tildeV x y mi pa) = r)) :
    Calls Tryd.prog 61 #[.pointer (some ⟨N, 0, none⟩), .pointer (some ⟨K, 0, none⟩), .bool pre] w fun e w' => (∃ ev, e = .returned (.tuple #[.bool r, ev])) ∧ Below w.heap.size w w' := by
  obtain ⟨x0, x1, x2, x3, x4, x5⟩ := I.out.atx.cells; obtain ⟨y0, y1, y2, y3, y4, y5⟩ := I.out.aty.cells; obtain ⟨k0, k1, k2, k3, k4, k5⟩ := I.out.cells
  rcases hi : x.inl pre with _ | _
  · have HI := Lib.hid hi
    have hpre : pre = false := by cases pre with | false => rfl | true => simp [V.inl] at hi
    subst hpre
    have hp : x.p.toList.isEmpty = false := bs_isEmpty (by simpa [V.inl] using hi)
    clear hi
    go_enter Tryd.func61, Tryd.ntmps61
    go_wp2_with (first
    | (go_at_call 42; (with_reducible refine (prere_b x o _).mono ?_); rintro e w' ⟨rfl, hb⟩; clear x0 x1 x2 x3 x4 x5 y0 y1 y2 y3 y4 y5 k0 k1 k2 k3 k4 k5; replace I := Lib.hid (I.out.below hb); clear hb; obtain ⟨x0, x1, x2, x3, x4, x5⟩ := I.out.atx.cells; obtain ⟨y0, y1, y2, y3, y4, y5⟩ := I.out.aty.cells; obtain ⟨k0, k1, k2, k3, k4, k5⟩ := I.out.cells)
    | (go_at_call 39; (with_reducible refine (major_b x o _).mono ?_); rintro e w' ⟨⟨n, rfl, hn⟩, hb⟩; have HM := Lib.hid hn; clear hn; clear x0 x1 x2 x3 x4 x5 y0 y1 y2 y3 y4 y5 k0 k1 k2 k3 k4 k5; replace I := Lib.hid (I.out.below hb); clear hb; obtain ⟨x0, x1, x2, x3, x4, x5⟩ := I.out.atx.cells; obtain ⟨y0, y1, y2, y3, y4, y5⟩ := I.out.aty.cells; obtain ⟨k0, k1, k2, k3, k4, k5⟩ := I.out.cells)
    | (go_at_call 40; (with_reducible refine (minor_b x o _).mono ?_); rintro e w' ⟨⟨n, rfl, hn⟩, hb⟩; have HM := Lib.hid hn; clear hn; clear x0 x1 x2 x3 x4 x5 y0 y1 y2 y3 y4 y5 k0 k1 k2 k3 k4 k5; replace I := Lib.hid (I.out.below hb); clear hb; obtain ⟨x0, x1, x2, x3, x4, x5⟩ := I.out.atx.cells; obtain ⟨y0, y1, y2, y3, y4, y5⟩ := I.out.aty.cells; obtain ⟨k0, k1, k2, k3, k4, k5⟩ := I.out.cells)
    | (go_at_call 41; (with_reducible refine (patch_b x o _).mono ?_); rintro e w' ⟨⟨n, rfl, hn⟩, hb⟩; have HM := Lib.hid hn; clear hn; clear x0 x1 x2 x3 x4 x5 y0 y1 y2 y3 y4 y5 k0 k1 k2 k3 k4 k5; replace I := Lib.hid (I.out.below hb); clear hb; obtain ⟨x0, x1, x2, x3, x4, x5⟩ := I.out.atx.cells; obtain ⟨y0, y1, y2, y3, y4, y5⟩ := I.out.aty.cells; obtain ⟨k0, k1, k2, k3, k4, k5⟩ := I.out.cells)
    | (go_at_call 39; (with_reducible refine (major_b y o' _).mono ?_); rintro e w' ⟨⟨n, rfl, hn⟩, hb⟩; have HM := Lib.hid hn; clear hn; clear x0 x1 x2 x3 x4 x5 y0 y1 y2 y3 y4 y5 k0 k1 k2 k3 k4 k5; replace I := Lib.hid (I.out.below hb); clear hb; obtain ⟨x0, x1, x2, x3, x4, x5⟩ := I.out.atx.cells; obtain ⟨y0, y1, y2, y3, y4, y5⟩ := I.out.aty.cells; obtain ⟨k0, k1, k2, k3, k4, k5⟩ := I.out.cells)
    | (go_at_call 40; (with_reducible refine (minor_b y o' _).mono ?_); rintro e w' ⟨⟨n, rfl, hn⟩, hb⟩; have HM := Lib.hid hn; clear hn; clear x0 x1 x2 x3 x4 x5 y0 y1 y2 y3 y4 y5 k0 k1 k2 k3 k4 k5; replace I := Lib.hid (I.out.below hb); clear hb; obtain ⟨x0, x1, x2, x3, x4, x5⟩ := I.out.atx.cells; obtain ⟨y0, y1, y2, y3, y4, y5⟩ := I.out.aty.cells; obtain ⟨k0, k1, k2, k3, k4, k5⟩ := I.out.cells)
    | (go_at_call 41; (with_reducible refine (patch_b y o' _).mono ?_); rintro e w' ⟨⟨n, rfl, hn⟩, hb⟩; have HM := Lib.hid hn; clear hn; clear x0 x1 x2 x3 x4 x5 y0 y1 y2 y3 y4 y5 k0 k1 k2 k3 k4 k5; replace I := Lib.hid (I.out.below hb); clear hb; obtain ⟨x0, x1, x2, x3, x4, x5⟩ := I.out.atx.cells; obtain ⟨y0, y1, y2, y3, y4, y5⟩ := I.out.aty.cells; obtain ⟨k0, k1, k2, k3, k4, k5⟩ := I.out.cells)
    | (go_at_call 70; (with_reducible refine (lessPtr_any x y o o' _ _ _ I.out.atx I.out.aty GX.out GY.out I.out.num zx zy).mono ?_); rintro e w' ⟨rfl, hb⟩; clear x0 x1 x2 x3 x4 x5 y0 y1 y2 y3 y4 y5 k0 k1 k2 k3 k4 k5; replace I := Lib.hid (I.out.below hb); clear hb; obtain ⟨x0, x1, x2, x3, x4, x5⟩ := I.out.atx.cells; obtain ⟨y0, y1, y2, y3, y4, y5⟩ := I.out.aty.cells; obtain ⟨k0, k1, k2, k3, k4, k5⟩ := I.out.cells)
    | (go_at_call 69; (with_reducible refine (compare_any x y o o' _ _ _ I.out.atx I.out.aty GX.out GY.out I.out.num zx zy).mono ?_); rintro e w' ⟨rfl, hb⟩; clear x0 x1 x2 x3 x4 x5 y0 y1 y2 y3 y4 y5 k0 k1 k2 k3 k4 k5; replace I := Lib.hid (I.out.below hb); clear hb; obtain ⟨x0, x1, x2, x3, x4, x5⟩ := I.out.atx.cells; obtain ⟨y0, y1, y2, y3, y4, y5⟩ := I.out.aty.cells; obtain ⟨k0, k1, k2, k3, k4, k5⟩ := I.out.cells)
    | (go_at_call 66; (with_reducible refine (errorsNew_any _ _).mono ?_); rintro e w' ⟨⟨et, ev, rfl⟩, hb⟩; clear x0 x1 x2 x3 x4 x5 y0 y1 y2 y3 y4 y5 k0 k1 k2 k3 k4 k5; replace I := Lib.hid (I.out.below hb); clear hb; obtain ⟨x0, x1, x2, x3, x4, x5⟩ := I.out.atx.cells; obtain ⟨y0, y1, y2, y3, y4, y5⟩ := I.out.aty.cells; obtain ⟨k0, k1, k2, k3, k4, k5⟩ := I.out.cells))
    refine bodyPost_ret (results_tmp2 rfl _ _ _) rfl ?_
    refine ⟨⟨_, ret_tup ?_⟩, I.out.bel⟩
    rw [← HR.out]
    rw [HI.out]; rfl
  have HI := Lib.hid hi
  have hlc : ((!x.p.toList.isEmpty) && !pre) = false := by
    cases pre with
    | true => simp
    | false =>
      have : (M.bs x.p).isEmpty = true := by simpa [V.inl] using hi
      rw [toList_bs, this]; rfl
  clear hi
  by_cases hc : x.cmp y < 0
  · have HC := Lib.hid hc
    rcases empty_cases x.p with ⟨hp, hq⟩ | ⟨hp, hq⟩
    all_goals clear hq
    all_goals cases pre
    all_goals try (rw [hp] at hlc; cases hlc; done)
    all_goals clear hlc
    all_goals
      go_enter Tryd.func61, Tryd.ntmps61
      go_wp2_with (first
    | (go_at_call 42; (with_reducible refine (prere_b x o _).mono ?_); rintro e w' ⟨rfl, hb⟩; clear x0 x1 x2 x3 x4 x5 y0 y1 y2 y3 y4 y5 k0 k1 k2 k3 k4 k5; replace I := Lib.hid (I.out.below hb); clear hb; obtain ⟨x0, x1, x2, x3, x4, x5⟩ := I.out.atx.cells; obtain ⟨y0, y1, y2, y3, y4, y5⟩ := I.out.aty.cells; obtain ⟨k0, k1, k2, k3, k4, k5⟩ := I.out.cells)
    | (go_at_call 39; (with_reducible refine (major_b x o _).mono ?_); rintro e w' ⟨⟨n, rfl, hn⟩, hb⟩; have HM := Lib.hid hn; clear hn; clear x0 x1 x2 x3 x4 x5 y0 y1 y2 y3 y4 y5 k0 k1 k2 k3 k4 k5; replace I := Lib.hid (I.out.below hb); clear hb; obtain ⟨x0, x1, x2, x3, x4, x5⟩ := I.out.atx.cells; obtain ⟨y0, y1, y2, y3, y4, y5⟩ := I.out.aty.cells; obtain ⟨k0, k1, k2, k3, k4, k5⟩ := I.out.cells)
    | (go_at_call 40; (with_reducible refine (minor_b x o _).mono ?_); rintro e w' ⟨⟨n, rfl, hn⟩, hb⟩; have HM := Lib.hid hn; clear hn; clear x0 x1 x2 x3 x4 x5 y0 y1 y2 y3 y4 y5 k0 k1 k2 k3 k4 k5; replace I := Lib.hid (I.out.below hb); clear hb; obtain ⟨x0, x1, x2, x3, x4, x5⟩ := I.out.atx.cells; obtain ⟨y0, y1, y2, y3, y4, y5⟩ := I.out.aty.cells; obtain ⟨k0, k1, k2, k3, k4, k5⟩ := I.out.cells)
    | (go_at_call 41; (with_reducible refine (patch_b x o _).mono ?_); rintro e w' ⟨⟨n, rfl, hn⟩, hb⟩; have HM := Lib.hid hn; clear hn; clear x0 x1 x2 x3 x4 x5 y0 y1 y2 y3 y4 y5 k0 k1 k2 k3 k4 k5; replace I := Lib.hid (I.out.below hb); clear hb; obtain ⟨x0, x1, x2, x3, x4, x5⟩ := I.out.atx.cells; obtain ⟨y0, y1, y2, y3, y4, y5⟩ := I.out.aty.cells; obtain ⟨k0, k1, k2, k3, k4, k5⟩ := I.out.cells)
    | (go_at_call 39; (with_reducible refine (major_b y o' _).mono ?_); rintro e w' ⟨⟨n, rfl, hn⟩, hb⟩; have HM := Lib.hid hn; clear hn; clear x0 x1 x2 x3 x4 x5 y0 y1 y2 y3 y4 y5 k0 k1 k2 k3 k4 k5; replace I := Lib.hid (I.out.below hb); clear hb; obtain ⟨x0, x1, x2, x3, x4, x5⟩ := I.out.atx.cells; obtain ⟨y0, y1, y2, y3, y4, y5⟩ := I.out.aty.cells; obtain ⟨k0, k1, k2, k3, k4, k5⟩ := I.out.cells)
    | (go_at_call 40; (with_reducible refine (minor_b y o' _).mono ?_); rintro e w' ⟨⟨n, rfl, hn⟩, hb⟩; have HM := Lib.hid hn; clear hn; clear x0 x1 x2 x3 x4 x5 y0 y1 y2 y3 y4 y5 k0 k1 k2 k3 k4 k5; replace I := Lib.hid (I.out.below hb); clear hb; obtain ⟨x0, x1, x2, x3, x4, x5⟩ := I.out.atx.cells; obtain ⟨y0, y1, y2, y3, y4, y5⟩ := I.out.aty.cells; obtain ⟨k0, k1, k2, k3, k4, k5⟩ := I.out.cells)
    | (go_at_call 41; (with_reducible refine (patch_b y o' _).mono ?_); rintro e w' ⟨⟨n, rfl, hn⟩, hb⟩; have HM := Lib.hid hn; clear hn; clear x0 x1 x2 x3 x4 x5 y0 y1 y2 y3 y4 y5 k0 k1 k2 k3 k4 k5; replace I := Lib.hid (I.out.below hb); clear hb; obtain ⟨x0, x1, x2, x3, x4, x5⟩ := I.out.atx.cells; obtain ⟨y0, y1, y2, y3, y4, y5⟩ := I.out.aty.cells; obtain ⟨k0, k1, k2, k3, k4, k5⟩ := I.out.cells)
    | (go_at_call 70; (with_reducible refine (lessPtr_any x y o o' _ _ _ I.out.atx I.out.aty GX.out GY.out I.out.num zx zy).mono ?_); rintro e w' ⟨rfl, hb⟩; clear x0 x1 x2 x3 x4 x5 y0 y1 y2 y3 y4 y5 k0 k1 k2 k3 k4 k5; replace I := Lib.hid (I.out.below hb); clear hb; obtain ⟨x0, x1, x2, x3, x4, x5⟩ := I.out.atx.cells; obtain ⟨y0, y1, y2, y3, y4, y5⟩ := I.out.aty.cells; obtain ⟨k0, k1, k2, k3, k4, k5⟩ := I.out.cells)
    | (go_at_call 69; (with_reducible refine (compare_any x y o o' _ _ _ I.out.atx I.out.aty GX.out GY.out I.out.num zx zy).mono ?_); rintro e w' ⟨rfl, hb⟩; clear x0 x1 x2 x3 x4 x5 y0 y1 y2 y3 y4 y5 k0 k1 k2 k3 k4 k5; replace I := Lib.hid (I.out.below hb); clear hb; obtain ⟨x0, x1, x2, x3, x4, x5⟩ := I.out.atx.cells; obtain ⟨y0, y1, y2, y3, y4, y5⟩ := I.out.aty.cells; obtain ⟨k0, k1, k2, k3, k4, k5⟩ := I.out.cells)
    | (go_at_call 66; (with_reducible refine (errorsNew_any _ _).mono ?_); rintro e w' ⟨⟨et, ev, rfl⟩, hb⟩; clear x0 x1 x2 x3 x4 x5 y0 y1 y2 y3 y4 y5 k0 k1 k2 k3 k4 k5; replace I := Lib.hid (I.out.below hb); clear hb; obtain ⟨x0, x1, x2, x3, x4, x5⟩ := I.out.atx.cells; obtain ⟨y0, y1, y2, y3, y4, y5⟩ := I.out.aty.cells; obtain ⟨k0, k1, k2, k3, k4, k5⟩ := I.out.cells))
    all_goals
      refine bodyPost_ret (results_tmp2 rfl _ _ _) rfl ?_
      refine ⟨⟨_, ret_tup ?_⟩, I.out.bel⟩
      rw [← HR.out]
      rw [HI.out]; unfold tildeV; rw [decide_eq_true HC.out]; rfl
  have HC := Lib.hid hc
  rcases empty_cases x.p with ⟨hp, hq⟩ | ⟨hp, hq⟩
  all_goals clear hq
  all_goals cases pre
  all_goals try (rw [hp] at hlc; cases hlc; done)
  all_goals clear hlc
  all_goals
    go_enter Tryd.func61, Tryd.ntmps61
    go_upto_region 5 with (first
    | (go_at_call 42; (with_reducible refine (prere_b x o _).mono ?_); rintro e w' ⟨rfl, hb⟩; clear x0 x1 x2 x3 x4 x5 y0 y1 y2 y3 y4 y5 k0 k1 k2 k3 k4 k5; replace I := Lib.hid (I.out.below hb); clear hb; obtain ⟨x0, x1, x2, x3, x4, x5⟩ := I.out.atx.cells; obtain ⟨y0, y1, y2, y3, y4, y5⟩ := I.out.aty.cells; obtain ⟨k0, k1, k2, k3, k4, k5⟩ := I.out.cells)
    | (go_at_call 39; (with_reducible refine (major_b x o _).mono ?_); rintro e w' ⟨⟨n, rfl, hn⟩, hb⟩; have HM := Lib.hid hn; clear hn; clear x0 x1 x2 x3 x4 x5 y0 y1 y2 y3 y4 y5 k0 k1 k2 k3 k4 k5; replace I := Lib.hid (I.out.below hb); clear hb; obtain ⟨x0, x1, x2, x3, x4, x5⟩ := I.out.atx.cells; obtain ⟨y0, y1, y2, y3, y4, y5⟩ := I.out.aty.cells; obtain ⟨k0, k1, k2, k3, k4, k5⟩ := I.out.cells)
    | (go_at_call 40; (with_reducible refine (minor_b x o _).mono ?_); rintro e w' ⟨⟨n, rfl, hn⟩, hb⟩; have HM := Lib.hid hn; clear hn; clear x0 x1 x2 x3 x4 x5 y0 y1 y2 y3 y4 y5 k0 k1 k2 k3 k4 k5; replace I := Lib.hid (I.out.below hb); clear hb; obtain ⟨x0, x1, x2, x3, x4, x5⟩ := I.out.atx.cells; obtain ⟨y0, y1, y2, y3, y4, y5⟩ := I.out.aty.cells; obtain ⟨k0, k1, k2, k3, k4, k5⟩ := I.out.cells)
    | (go_at_call 41; (with_reducible refine (patch_b x o _).mono ?_); rintro e w' ⟨⟨n, rfl, hn⟩, hb⟩; have HM := Lib.hid hn; clear hn; clear x0 x1 x2 x3 x4 x5 y0 y1 y2 y3 y4 y5 k0 k1 k2 k3 k4 k5; replace I := Lib.hid (I.out.below hb); clear hb; obtain ⟨x0, x1, x2, x3, x4, x5⟩ := I.out.atx.cells; obtain ⟨y0, y1, y2, y3, y4, y5⟩ := I.out.aty.cells; obtain ⟨k0, k1, k2, k3, k4, k5⟩ := I.out.cells)
    | (go_at_call 39; (with_reducible refine (major_b y o' _).mono ?_); rintro e w' ⟨⟨n, rfl, hn⟩, hb⟩; have HM := Lib.hid hn; clear hn; clear x0 x1 x2 x3 x4 x5 y0 y1 y2 y3 y4 y5 k0 k1 k2 k3 k4 k5; replace I := Lib.hid (I.out.below hb); clear hb; obtain ⟨x0, x1, x2, x3, x4, x5⟩ := I.out.atx.cells; obtain ⟨y0, y1, y2, y3, y4, y5⟩ := I.out.aty.cells; obtain ⟨k0, k1, k2, k3, k4, k5⟩ := I.out.cells)
    | (go_at_call 40; (with_reducible refine (minor_b y o' _).mono ?_); rintro e w' ⟨⟨n, rfl, hn⟩, hb⟩; have HM := Lib.hid hn; clear hn; clear x0 x1 x2 x3 x4 x5 y0 y1 y2 y3 y4 y5 k0 k1 k2 k3 k4 k5; replace I := Lib.hid (I.out.below hb); clear hb; obtain ⟨x0, x1, x2, x3, x4, x5⟩ := I.out.atx.cells; obtain ⟨y0, y1, y2, y3, y4, y5⟩ := I.out.aty.cells; obtain ⟨k0, k1, k2, k3, k4, k5⟩ := I.out.cells)
    | (go_at_call 41; (with_reducible refine (patch_b y o' _).mono ?_); rintro e w' ⟨⟨n, rfl, hn⟩, hb⟩; have HM := Lib.hid hn; clear hn; clear x0 x1 x2 x3 x4 x5 y0 y1 y2 y3 y4 y5 k0 k1 k2 k3 k4 k5; replace I := Lib.hid (I.out.below hb); clear hb; obtain ⟨x0, x1, x2, x3, x4, x5⟩ := I.out.atx.cells; obtain ⟨y0, y1, y2, y3, y4, y5⟩ := I.out.aty.cells; obtain ⟨k0, k1, k2, k3, k4, k5⟩ := I.out.cells)
    | (go_at_call 70; (with_reducible refine (lessPtr_any x y o o' _ _ _ I.out.atx I.out.aty GX.out GY.out I.out.num zx zy).mono ?_); rintro e w' ⟨rfl, hb⟩; clear x0 x1 x2 x3 x4 x5 y0 y1 y2 y3 y4 y5 k0 k1 k2 k3 k4 k5; replace I := Lib.hid (I.out.below hb); clear hb; obtain ⟨x0, x1, x2, x3, x4, x5⟩ := I.out.atx.cells; obtain ⟨y0, y1, y2, y3, y4, y5⟩ := I.out.aty.cells; obtain ⟨k0, k1, k2, k3, k4, k5⟩ := I.out.cells)
    | (go_at_call 69; (with_reducible refine (compare_any x y o o' _ _ _ I.out.atx I.out.aty GX.out GY.out I.out.num zx zy).mono ?_); rintro e w' ⟨rfl, hb⟩; clear x0 x1 x2 x3 x4 x5 y0 y1 y2 y3 y4 y5 k0 k1 k2 k3 k4 k5; replace I := Lib.hid (I.out.below hb); clear hb; obtain ⟨x0, x1, x2, x3, x4, x5⟩ := I.out.atx.cells; obtain ⟨y0, y1, y2, y3, y4, y5⟩ := I.out.aty.cells; obtain ⟨k0, k1, k2, k3, k4, k5⟩ := I.out.cells)
    | (go_at_call 66; (with_reducible refine (errorsNew_any _ _).mono ?_); rintro e w' ⟨⟨et, ev, rfl⟩, hb⟩; clear x0 x1 x2 x3 x4 x5 y0 y1 y2 y3 y4 y5 k0 k1 k2 k3 k4 k5; replace I := Lib.hid (I.out.below hb); clear hb; obtain ⟨x0, x1, x2, x3, x4, x5⟩ := I.out.atx.cells; obtain ⟨y0, y1, y2, y3, y4, y5⟩ := I.out.aty.cells; obtain ⟨k0, k1, k2, k3, k4, k5⟩ := I.out.cells))
    go_cut [66] (fun s66 wx => ∃ z, s66 = .bool z ∧ Hid (z = (y.a == 0 && y.b == 0 && y.c == 0 && !mi && !pa)) ∧ Hid (CSt w wx N K M' x y o o' s di mi pa))
    case first =>
      go_wp2_with (first
    | (go_at_call 42; (with_reducible refine (prere_b x o _).mono ?_); rintro e w' ⟨rfl, hb⟩; clear x0 x1 x2 x3 x4 x5 y0 y1 y2 y3 y4 y5 k0 k1 k2 k3 k4 k5; replace I := Lib.hid (I.out.below hb); clear hb; obtain ⟨x0, x1, x2, x3, x4, x5⟩ := I.out.atx.cells; obtain ⟨y0, y1, y2, y3, y4, y5⟩ := I.out.aty.cells; obtain ⟨k0, k1, k2, k3, k4, k5⟩ := I.out.cells)
    | (go_at_call 39; (with_reducible refine (major_b x o _).mono ?_); rintro e w' ⟨⟨n, rfl, hn⟩, hb⟩; have HM := Lib.hid hn; clear hn; clear x0 x1 x2 x3 x4 x5 y0 y1 y2 y3 y4 y5 k0 k1 k2 k3 k4 k5; replace I := Lib.hid (I.out.below hb); clear hb; obtain ⟨x0, x1, x2, x3, x4, x5⟩ := I.out.atx.cells; obtain ⟨y0, y1, y2, y3, y4, y5⟩ := I.out.aty.cells; obtain ⟨k0, k1, k2, k3, k4, k5⟩ := I.out.cells)
    | (go_at_call 40; (with_reducible refine (minor_b x o _).mono ?_); rintro e w' ⟨⟨n, rfl, hn⟩, hb⟩; have HM := Lib.hid hn; clear hn; clear x0 x1 x2 x3 x4 x5 y0 y1 y2 y3 y4 y5 k0 k1 k2 k3 k4 k5; replace I := Lib.hid (I.out.below hb); clear hb; obtain ⟨x0, x1, x2, x3, x4, x5⟩ := I.out.atx.cells; obtain ⟨y0, y1, y2, y3, y4, y5⟩ := I.out.aty.cells; obtain ⟨k0, k1, k2, k3, k4, k5⟩ := I.out.cells)
    | (go_at_call 41; (with_reducible refine (patch_b x o _).mono ?_); rintro e w' ⟨⟨n, rfl, hn⟩, hb⟩; have HM := Lib.hid hn; clear hn; clear x0 x1 x2 x3 x4 x5 y0 y1 y2 y3 y4 y5 k0 k1 k2 k3 k4 k5; replace I := Lib.hid (I.out.below hb); clear hb; obtain ⟨x0, x1, x2, x3, x4, x5⟩ := I.out.atx.cells; obtain ⟨y0, y1, y2, y3, y4, y5⟩ := I.out.aty.cells; obtain ⟨k0, k1, k2, k3, k4, k5⟩ := I.out.cells)
    | (go_at_call 39; (with_reducible refine (major_b y o' _).mono ?_); rintro e w' ⟨⟨n, rfl, hn⟩, hb⟩; have HM := Lib.hid hn; clear hn; clear x0 x1 x2 x3 x4 x5 y0 y1 y2 y3 y4 y5 k0 k1 k2 k3 k4 k5; replace I := Lib.hid (I.out.below hb); clear hb; obtain ⟨x0, x1, x2, x3, x4, x5⟩ := I.out.atx.cells; obtain ⟨y0, y1, y2, y3, y4, y5⟩ := I.out.aty.cells; obtain ⟨k0, k1, k2, k3, k4, k5⟩ := I.out.cells)
    | (go_at_call 40; (with_reducible refine (minor_b y o' _).mono ?_); rintro e w' ⟨⟨n, rfl, hn⟩, hb⟩; have HM := Lib.hid hn; clear hn; clear x0 x1 x2 x3 x4 x5 y0 y1 y2 y3 y4 y5 k0 k1 k2 k3 k4 k5; replace I := Lib.hid (I.out.below hb); clear hb; obtain ⟨x0, x1, x2, x3, x4, x5⟩ := I.out.atx.cells; obtain ⟨y0, y1, y2, y3, y4, y5⟩ := I.out.aty.cells; obtain ⟨k0, k1, k2, k3, k4, k5⟩ := I.out.cells)
    | (go_at_call 41; (with_reducible refine (patch_b y o' _).mono ?_); rintro e w' ⟨⟨n, rfl, hn⟩, hb⟩; have HM := Lib.hid hn; clear hn; clear x0 x1 x2 x3 x4 x5 y0 y1 y2 y3 y4 y5 k0 k1 k2 k3 k4 k5; replace I := Lib.hid (I.out.below hb); clear hb; obtain ⟨x0, x1, x2, x3, x4, x5⟩ := I.out.atx.cells; obtain ⟨y0, y1, y2, y3, y4, y5⟩ := I.out.aty.cells; obtain ⟨k0, k1, k2, k3, k4, k5⟩ := I.out.cells)
    | (go_at_call 70; (with_reducible refine (lessPtr_any x y o o' _ _ _ I.out.atx I.out.aty GX.out GY.out I.out.num zx zy).mono ?_); rintro e w' ⟨rfl, hb⟩; clear x0 x1 x2 x3 x4 x5 y0 y1 y2 y3 y4 y5 k0 k1 k2 k3 k4 k5; replace I := Lib.hid (I.out.below hb); clear hb; obtain ⟨x0, x1, x2, x3, x4, x5⟩ := I.out.atx.cells; obtain ⟨y0, y1, y2, y3, y4, y5⟩ := I.out.aty.cells; obtain ⟨k0, k1, k2, k3, k4, k5⟩ := I.out.cells)
    | (go_at_call 69; (with_reducible refine (compare_any x y o o' _ _ _ I.out.atx I.out.aty GX.out GY.out I.out.num zx zy).mono ?_); rintro e w' ⟨rfl, hb⟩; clear x0 x1 x2 x3 x4 x5 y0 y1 y2 y3 y4 y5 k0 k1 k2 k3 k4 k5; replace I := Lib.hid (I.out.below hb); clear hb; obtain ⟨x0, x1, x2, x3, x4, x5⟩ := I.out.atx.cells; obtain ⟨y0, y1, y2, y3, y4, y5⟩ := I.out.aty.cells; obtain ⟨k0, k1, k2, k3, k4, k5⟩ := I.out.cells)
    | (go_at_call 66; (with_reducible refine (errorsNew_any _ _).mono ?_); rintro e w' ⟨⟨et, ev, rfl⟩, hb⟩; clear x0 x1 x2 x3 x4 x5 y0 y1 y2 y3 y4 y5 k0 k1 k2 k3 k4 k5; replace I := Lib.hid (I.out.below hb); clear hb; obtain ⟨x0, x1, x2, x3, x4, x5⟩ := I.out.atx.cells; obtain ⟨y0, y1, y2, y3, y4, y5⟩ := I.out.aty.cells; obtain ⟨k0, k1, k2, k3, k4, k5⟩ := I.out.cells))
      all_goals go_meet
      all_goals
        refine ⟨_, rfl, ?_, I⟩
        clear I HR HI HC GX GY
        clear x0 x1 x2 x3 x4 x5 y0 y1 y2 y3 y4 y5 k0 k1 k2 k3 k4 k5
        go_light
        refine Lib.hid ?_
        unfold Go.RowKit.Hid at *
        first
          | (simp_all; done)
          | (simp_all; omega)
          | (have e1 : y.a = 0 := by omega
             have e2 : y.b = 0 := by omega
             have e3 : y.c = 0 := by omega
             have e4 : mi = false := by simp_all
             simp [e1, e2, e3, e4])
          | fail
    case rest =>
    obtain ⟨z, rfl, HZ, I2⟩ := hcut
    clear x0 x1 x2 x3 x4 x5 y0 y1 y2 y3 y4 y5 k0 k1 k2 k3 k4 k5
    clear I
    have I := I2
    clear I2
    obtain ⟨x0, x1, x2, x3, x4, x5⟩ := I.out.atx.cells
    obtain ⟨y0, y1, y2, y3, y4, y5⟩ := I.out.aty.cells
    obtain ⟨k0, k1, k2, k3, k4, k5⟩ := I.out.cells
    rcases z with _ | _
    case true =>
      go_wp2_with fail
      refine bodyPost_ret (results_tmp2 rfl _ _ _) rfl ?_
      refine ⟨⟨_, ret_tup ?_⟩, I.out.bel⟩
      rw [← HR.out]
      rw [HI.out]; unfold tildeV; rw [← HZ.out, decide_eq_false (by have := HC.out; omega : ¬ x.cmp y < 0)]; rfl
    go_wp2_with fail
    rcases ha : ((x.a : Int) != y.a) with _ | _
    case true =>
      have HA := Lib.hid (ne_int ha)
      go_region_held3 (fun w' => w'.cell? ⟨N, 0, none⟩ = some (.int .u64 x.a) ∧ w'.cell? ⟨N, 1, none⟩ = some (.int .u64 x.b) ∧ w'.cell? ⟨N, 2, none⟩ = some (.int .u64 x.c) ∧ w'.cell? ⟨N, 3, none⟩ = some (.string x.p) ∧ w'.cell? ⟨N, 4, none⟩ = some (.string x.m) ∧ w'.cell? ⟨N, 5, none⟩ = some (.string o) ∧ w'.cell? ⟨M', 0, none⟩ = some (.int .u64 y.a) ∧ w'.cell? ⟨M', 1, none⟩ = some (.int .u64 y.b) ∧ w'.cell? ⟨M', 2, none⟩ = some (.int .u64 y.c) ∧ w'.cell? ⟨M', 3, none⟩ = some (.string y.p) ∧ w'.cell? ⟨M', 4, none⟩ = some (.string y.m) ∧ w'.cell? ⟨M', 5, none⟩ = some (.string o') ∧ w'.cell? ⟨K, 0, none⟩ = some (.pointer (some ⟨M', 0, none⟩))) (first | (refine ⟨?_, ?_, ?_, ?_, ?_, ?_, ?_, ?_, ?_, ?_, ?_, ?_, ?_⟩ <;> (repeat (first | with_reducible assumption | with_reducible apply cell_alloc_some | with_reducible apply cell_drew_some | with_reducible refine cell_below (by with_reducible assumption) ?_ | with_reducible refine cell_set_other (by omega) ?_))) | fail) (first | (go_at_call 39; (with_reducible refine (major_v x o _).mono ?_); rintro e wa1 ⟨rfl, hba⟩; have HBA1 := Lib.hid (Below.up (w := wc) (by (repeat (first | exact Below.refl _ _ | apply Below.drew | (apply below_alloc_on (Nat.le_refl _))))) hba)) | (go_at_call 39; (with_reducible refine (major_v y o' _).mono ?_); rintro e wb1 ⟨rfl, hbb⟩; have HBB1 := Lib.hid (Below.up HBA1.out (Below.up (w := wa1) (by (repeat (first | exact Below.refl _ _ | apply Below.drew | (apply below_alloc_on (Nat.le_refl _))))) hbb))) | fail)
      replace I := Lib.hid (I.out.below HBB1.out)
      clear x0 x1 x2 x3 x4 x5 y0 y1 y2 y3 y4 y5 k0 k1 k2 k3 k4 k5
      obtain ⟨x0, x1, x2, x3, x4, x5⟩ := I.out.atx.cells
      obtain ⟨y0, y1, y2, y3, y4, y5⟩ := I.out.aty.cells
      obtain ⟨k0, k1, k2, k3, k4, k5⟩ := I.out.cells
      go_wp2_with (go_at_call 66; (with_reducible refine (errorsNew_any _ _).mono ?_); rintro e w' ⟨⟨et, ev, rfl⟩, hb⟩; clear x0 x1 x2 x3 x4 x5 y0 y1 y2 y3 y4 y5 k0 k1 k2 k3 k4 k5; replace I := Lib.hid (I.out.below hb); clear hb; obtain ⟨x0, x1, x2, x3, x4, x5⟩ := I.out.atx.cells; obtain ⟨y0, y1, y2, y3, y4, y5⟩ := I.out.aty.cells; obtain ⟨k0, k1, k2, k3, k4, k5⟩ := I.out.cells)
      refine bodyPost_ret (results_tmp2 rfl _ _ _) rfl ?_
      refine ⟨⟨_, ret_tup ?_⟩, I.out.bel⟩
      rw [← HR.out]
      rw [HI.out]; unfold tildeV; rw [← HZ.out, decide_eq_false (by have := HC.out; omega : ¬ x.cmp y < 0)]; rw [HA.out]; rfl
    have HA := Lib.hid (eq_int ha)
    go_region_held3 (fun w' => w'.cell? ⟨N, 0, none⟩ = some (.int .u64 x.a) ∧ w'.cell? ⟨N, 1, none⟩ = some (.int .u64 x.b) ∧ w'.cell? ⟨N, 2, none⟩ = some (.int .u64 x.c) ∧ w'.cell? ⟨N, 3, none⟩ = some (.string x.p) ∧ w'.cell? ⟨N, 4, none⟩ = some (.string x.m) ∧ w'.cell? ⟨N, 5, none⟩ = some (.string o) ∧ w'.cell? ⟨M', 0, none⟩ = some (.int .u64 y.a) ∧ w'.cell? ⟨M', 1, none⟩ = some (.int .u64 y.b) ∧ w'.cell? ⟨M', 2, none⟩ = some (.int .u64 y.c) ∧ w'.cell? ⟨M', 3, none⟩ = some (.string y.p) ∧ w'.cell? ⟨M', 4, none⟩ = some (.string y.m) ∧ w'.cell? ⟨M', 5, none⟩ = some (.string o') ∧ w'.cell? ⟨K, 0, none⟩ = some (.pointer (some ⟨M', 0, none⟩))) (first | (refine ⟨?_, ?_, ?_, ?_, ?_, ?_, ?_, ?_, ?_, ?_, ?_, ?_, ?_⟩ <;> (repeat (first | with_reducible assumption | with_reducible apply cell_alloc_some | with_reducible apply cell_drew_some | with_reducible refine cell_below (by with_reducible assumption) ?_ | with_reducible refine cell_set_other (by omega) ?_))) | fail) (first | (go_at_call 39; (with_reducible refine (major_v x o _).mono ?_); rintro e wa1 ⟨rfl, hba⟩; have HBA1 := Lib.hid (Below.up (w := wc) (by (repeat (first | exact Below.refl _ _ | apply Below.drew | (apply below_alloc_on (Nat.le_refl _))))) hba)) | (go_at_call 39; (with_reducible refine (major_v y o' _).mono ?_); rintro e wb1 ⟨rfl, hbb⟩; have HBB1 := Lib.hid (Below.up HBA1.out (Below.up (w := wa1) (by (repeat (first | exact Below.refl _ _ | apply Below.drew | (apply below_alloc_on (Nat.le_refl _))))) hbb))) | fail)
    replace I := Lib.hid (I.out.below HBB1.out)
    clear x0 x1 x2 x3 x4 x5 y0 y1 y2 y3 y4 y5 k0 k1 k2 k3 k4 k5
    obtain ⟨x0, x1, x2, x3, x4, x5⟩ := I.out.atx.cells
    obtain ⟨y0, y1, y2, y3, y4, y5⟩ := I.out.aty.cells
    obtain ⟨k0, k1, k2, k3, k4, k5⟩ := I.out.cells
    go_wp2_with fail
    rcases hb : ((x.b : Int) != y.b) with _ | _
    · have HBE := Lib.hid (eq_int hb)
      refine wp_region_held_drew (S := (fun w' => w'.cell? ⟨N, 0, none⟩ = some (.int .u64 x.a) ∧ w'.cell? ⟨N, 1, none⟩ = some (.int .u64 x.b) ∧ w'.cell? ⟨N, 2, none⟩ = some (.int .u64 x.c) ∧ w'.cell? ⟨N, 3, none⟩ = some (.string x.p) ∧ w'.cell? ⟨N, 4, none⟩ = some (.string x.m) ∧ w'.cell? ⟨N, 5, none⟩ = some (.string o) ∧ w'.cell? ⟨M', 0, none⟩ = some (.int .u64 y.a) ∧ w'.cell? ⟨M', 1, none⟩ = some (.int .u64 y.b) ∧ w'.cell? ⟨M', 2, none⟩ = some (.int .u64 y.c) ∧ w'.cell? ⟨M', 3, none⟩ = some (.string y.p) ∧ w'.cell? ⟨M', 4, none⟩ = some (.string y.m) ∧ w'.cell? ⟨M', 5, none⟩ = some (.string o') ∧ w'.cell? ⟨K, 0, none⟩ = some (.pointer (some ⟨M', 0, none⟩)))) (by kernel_rfl) ?_ (fun hHeld => ?_)
      · ((try dsimp only); all_goals (refine ⟨?_, ?_, ?_, ?_, ?_, ?_, ?_, ?_, ?_, ?_, ?_, ?_, ?_⟩ <;> (repeat (first | with_reducible assumption | with_reducible apply cell_alloc_some | with_reducible apply cell_drew_some | with_reducible refine cell_below (by with_reducible assumption) ?_ | with_reducible refine cell_set_other (by omega) ?_))))
      refine wpAnyH_take (i := 0) (v := ?_) rfl (by kernel_rfl) (by kernel_rfl) (by kernel_rfl) (fun _ _ _ h => h) (Or.inl ⟨by kernel_rfl, ?_⟩) (by assumption) ?_
      rotate_left
      · (intro w hSw; (try dsimp only at hSw); go_simp <;> with_reducible rfl)
      try (simp only [Act.put]; (try simp only [List.setIfInBounds_toArray]); (try simp only [List.set_cons_succ]); (try simp only [List.set_cons_zero]))
      refine wpAnyH_take (i := 1) (v := ?_) rfl (by kernel_rfl) (by kernel_rfl) (by kernel_rfl) (fun _ _ _ h => h) (Or.inl ⟨by kernel_rfl, ?_⟩) (by assumption) ?_
      rotate_left
      · (intro w hSw; (try dsimp only at hSw); go_simp <;> with_reducible rfl)
      try (simp only [Act.put]; (try simp only [List.setIfInBounds_toArray]); (try simp only [List.set_cons_succ]); (try simp only [List.set_cons_zero]))
      refine wpAnyH_take (i := 2) (v := ?_) rfl (by kernel_rfl) (by kernel_rfl) (by kernel_rfl) (fun _ _ _ h => h) (Or.inl ⟨by kernel_rfl, ?_⟩) (by assumption) ?_
      rotate_left
      · (intro w hSw; (try dsimp only at hSw); go_simp <;> with_reducible rfl)
      try (simp only [Act.put]; (try simp only [List.setIfInBounds_toArray]); (try simp only [List.set_cons_succ]); (try simp only [List.set_cons_zero]))
      refine wpAnyH_take (i := 4) (v := ?_) rfl (by kernel_rfl) (by kernel_rfl) (by kernel_rfl) (fun _ _ _ h => h) (Or.inl ⟨by kernel_rfl, ?_⟩) (by assumption) ?_
      rotate_left
      · (intro w hSw; (try dsimp only at hSw); go_simp <;> with_reducible rfl)
      try (simp only [Act.put]; (try simp only [List.setIfInBounds_toArray]); (try simp only [List.set_cons_succ]); (try simp only [List.set_cons_zero]))
      refine wpAnyH_take (i := 5) (v := ?_) rfl (by kernel_rfl) (by kernel_rfl) (by kernel_rfl) (fun _ _ _ h => h) (Or.inl ⟨by kernel_rfl, ?_⟩) (by assumption) ?_
      rotate_left
      · (intro w hSw; (try dsimp only at hSw); go_simp <;> with_reducible rfl)
      try (simp only [Act.put]; (try simp only [List.setIfInBounds_toArray]); (try simp only [List.set_cons_succ]); (try simp only [List.set_cons_zero]))
      refine wpAnyH_take (i := 6) (v := ?_) rfl (by kernel_rfl) (by kernel_rfl) (by kernel_rfl) (fun _ _ _ h => h) (Or.inl ⟨by kernel_rfl, ?_⟩) (by assumption) ?_
      rotate_left
      · (intro w hSw; (try dsimp only at hSw); go_simp <;> with_reducible rfl)
      try (simp only [Act.put]; (try simp only [List.setIfInBounds_toArray]); (try simp only [List.set_cons_succ]); (try simp only [List.set_cons_zero]))
      refine wpAnyH_take (i := 7) (v := ?_) rfl (by kernel_rfl) (by kernel_rfl) (by kernel_rfl) (fun _ _ _ h => h) (Or.inl ⟨by kernel_rfl, ?_⟩) (by assumption) ?_
      rotate_left
      · (intro w hSw; (try dsimp only at hSw); go_simp <;> with_reducible rfl)
      try (simp only [Act.put]; (try simp only [List.setIfInBounds_toArray]); (try simp only [List.set_cons_succ]); (try simp only [List.set_cons_zero]))
      refine wpAnyH_take (i := 8) (v := ?_) rfl (by kernel_rfl) (by kernel_rfl) (by kernel_rfl) (fun _ _ _ h => h) (Or.inl ⟨by kernel_rfl, ?_⟩) (by assumption) ?_
      rotate_left
      · (intro w hSw; (try dsimp only at hSw); go_simp <;> with_reducible rfl)
      try (simp only [Act.put]; (try simp only [List.setIfInBounds_toArray]); (try simp only [List.set_cons_succ]); (try simp only [List.set_cons_zero]))
      refine wpAnyH_take (i := 9) (v := ?_) rfl (by kernel_rfl) (by kernel_rfl) (by kernel_rfl) (fun _ _ _ h => h) (Or.inl ⟨by kernel_rfl, ?_⟩) (by assumption) ?_
      rotate_left
      · (intro w hSw; (try dsimp only at hSw); go_simp <;> with_reducible rfl)
      try (simp only [Act.put]; (try simp only [List.setIfInBounds_toArray]); (try simp only [List.set_cons_succ]); (try simp only [List.set_cons_zero]))
      refine wpAnyH_ready (rs := [3]) (by kernel_rfl) (by simp) ?_
      refine AllReadyH.cons rfl (fun K hK => ?_) AllReadyH.nil
      go_simp
      (go_at_call 40; (with_reducible refine (minor_v x o _).mono ?_); rintro e wa2 ⟨rfl, hba⟩; have HBA2 := Lib.hid (Below.up (w := wb1) (by (repeat (first | exact Below.refl _ _ | apply Below.drew | (apply below_alloc_on (Nat.le_refl _))))) hba))
      refine hK.out _ _ ?_ (fun hHeld => ?_)
      · ((try dsimp only); all_goals (refine ⟨?_, ?_, ?_, ?_, ?_, ?_, ?_, ?_, ?_, ?_, ?_, ?_, ?_⟩ <;> (repeat (first | with_reducible assumption | with_reducible apply cell_alloc_some | with_reducible apply cell_drew_some | with_reducible refine cell_below (by with_reducible assumption) ?_ | with_reducible refine cell_set_other (by omega) ?_))))
      clear hK K
      try (simp only [Act.put]; (try simp only [List.setIfInBounds_toArray]); (try simp only [List.set_cons_succ]); (try simp only [List.set_cons_zero]))
      refine wpAnyH_ready (rs := [10]) (by kernel_rfl) (by simp) ?_
      refine AllReadyH.cons rfl (fun K hK => ?_) AllReadyH.nil
      go_simp
      (go_at_call 40; (with_reducible refine (minor_v y o' _).mono ?_); rintro e wb2 ⟨rfl, hbb⟩; have HBB2 := Lib.hid (Below.up HBA2.out (Below.up (w := wa2) (by (repeat (first | exact Below.refl _ _ | apply Below.drew | (apply below_alloc_on (Nat.le_refl _))))) hbb)))
      refine hK.out _ _ ?_ (fun hHeld => ?_)
      · ((try dsimp only); all_goals (refine ⟨?_, ?_, ?_, ?_, ?_, ?_, ?_, ?_, ?_, ?_, ?_, ?_, ?_⟩ <;> (repeat (first | with_reducible assumption | with_reducible apply cell_alloc_some | with_reducible apply cell_drew_some | with_reducible refine cell_below (by with_reducible assumption) ?_ | with_reducible refine cell_set_other (by omega) ?_))))
      clear hK K
      try (simp only [Act.put]; (try simp only [List.setIfInBounds_toArray]); (try simp only [List.set_cons_succ]); (try simp only [List.set_cons_zero]))
      refine wpAnyH_ready (rs := [11]) (by kernel_rfl) (by simp) ?_
      refine AllReadyH.cons rfl (fun K hK => ?_) AllReadyH.nil
      go_simp
      refine hK.out _ _ ?_ (fun hHeld => ?_)
      · ((try dsimp only); all_goals (refine ⟨?_, ?_, ?_, ?_, ?_, ?_, ?_, ?_, ?_, ?_, ?_, ?_, ?_⟩ <;> (repeat (first | with_reducible assumption | with_reducible apply cell_alloc_some | with_reducible apply cell_drew_some | with_reducible refine cell_below (by with_reducible assumption) ?_ | with_reducible refine cell_set_other (by omega) ?_))))
      clear hK K
      try (simp only [Act.put]; (try simp only [List.setIfInBounds_toArray]); (try simp only [List.set_cons_succ]); (try simp only [List.set_cons_zero]))
      refine wpAnyH_ready (rs := [12]) (by kernel_rfl) (by simp) ?_
      refine AllReadyH.cons rfl (fun K hK => ?_) AllReadyH.nil
      go_simp
      refine hK.out _ _ ?_ (fun hHeld => ?_)
      · ((try dsimp only); all_goals (refine ⟨?_, ?_, ?_, ?_, ?_, ?_, ?_, ?_, ?_, ?_, ?_, ?_, ?_⟩ <;> (repeat (first | with_reducible assumption | with_reducible apply cell_alloc_some | with_reducible apply cell_drew_some | with_reducible refine cell_below (by with_reducible assumption) ?_ | with_reducible refine cell_set_other (by omega) ?_))))
      clear hK K
      try (simp only [Act.put]; (try simp only [List.setIfInBounds_toArray]); (try simp only [List.set_cons_succ]); (try simp only [List.set_cons_zero]))
      refine wpAnyH_take (i := 13) (v := undef) rfl (by kernel_rfl) (by kernel_rfl) (by kernel_rfl) (fun _ _ _ h => h) (Or.inr ⟨by kernel_rfl, Eq.refl undef⟩) (by assumption) ?_
      try (simp only [Act.put]; (try simp only [List.setIfInBounds_toArray]); (try simp only [List.set_cons_succ]); (try simp only [List.set_cons_zero]))
      refine wpAnyH_take (i := 14) (v := undef) rfl (by kernel_rfl) (by kernel_rfl) (by kernel_rfl) (fun _ _ _ h => h) (Or.inr ⟨by kernel_rfl, Eq.refl undef⟩) (by assumption) ?_
      try (simp only [Act.put]; (try simp only [List.setIfInBounds_toArray]); (try simp only [List.set_cons_succ]); (try simp only [List.set_cons_zero]))
      refine wpAnyH_take (i := 15) (v := undef) rfl (by kernel_rfl) (by kernel_rfl) (by kernel_rfl) (fun _ _ _ h => h) (Or.inr ⟨by kernel_rfl, Eq.refl undef⟩) (by assumption) ?_
      try (simp only [Act.put]; (try simp only [List.setIfInBounds_toArray]); (try simp only [List.set_cons_succ]); (try simp only [List.set_cons_zero]))
      refine wpAnyH_take (i := 16) (v := undef) rfl (by kernel_rfl) (by kernel_rfl) (by kernel_rfl) (fun _ _ _ h => h) (Or.inr ⟨by kernel_rfl, Eq.refl undef⟩) (by assumption) ?_
      try (simp only [Act.put]; (try simp only [List.setIfInBounds_toArray]); (try simp only [List.set_cons_succ]); (try simp only [List.set_cons_zero]))
      refine wpAnyH_take (i := 17) (v := undef) rfl (by kernel_rfl) (by kernel_rfl) (by kernel_rfl) (fun _ _ _ h => h) (Or.inr ⟨by kernel_rfl, Eq.refl undef⟩) (by assumption) ?_
      try (simp only [Act.put]; (try simp only [List.setIfInBounds_toArray]); (try simp only [List.set_cons_succ]); (try simp only [List.set_cons_zero]))
      refine wpAnyH_ready (rs := [18]) (by kernel_rfl) (by simp) ?_
      refine AllReadyH.cons rfl (fun K hK => ?_) AllReadyH.nil
      go_simp
      refine hK.out _ _ ?_ (fun hHeld => ?_)
      · ((try dsimp only); all_goals (refine ⟨?_, ?_, ?_, ?_, ?_, ?_, ?_, ?_, ?_, ?_, ?_, ?_, ?_⟩ <;> (repeat (first | with_reducible assumption | with_reducible apply cell_alloc_some | with_reducible apply cell_drew_some | with_reducible refine cell_below (by with_reducible assumption) ?_ | with_reducible refine cell_set_other (by omega) ?_))))
      clear hK K
      try (simp only [Act.put]; (try simp only [List.setIfInBounds_toArray]); (try simp only [List.set_cons_succ]); (try simp only [List.set_cons_zero]))
      refine wpAnyH_done (by kernel_rfl) ?_ _
      replace I := Lib.hid (I.out.below HBB2.out)
      clear x0 x1 x2 x3 x4 x5 y0 y1 y2 y3 y4 y5 k0 k1 k2 k3 k4 k5
      obtain ⟨x0, x1, x2, x3, x4, x5⟩ := I.out.atx.cells
      obtain ⟨y0, y1, y2, y3, y4, y5⟩ := I.out.aty.cells
      obtain ⟨k0, k1, k2, k3, k4, k5⟩ := I.out.cells
      go_wp2
      refine bodyPost_ret (results_tmp2 rfl _ _ _) rfl ?_
      refine ⟨⟨_, ret_tup ?_⟩, I.out.bel⟩
      rw [← HR.out]
      rw [HI.out]; unfold tildeV; rw [← HZ.out, decide_eq_false (by have := HC.out; omega : ¬ x.cmp y < 0)]; rw [HA.out, HBE.out]; rfl
    · have HBE := Lib.hid (ne_int hb)
      cases mi
      · go_region_held3 (fun w' => w'.cell? ⟨N, 0, none⟩ = some (.int .u64 x.a) ∧ w'.cell? ⟨N, 1, none⟩ = some (.int .u64 x.b) ∧ w'.cell? ⟨N, 2, none⟩ = some (.int .u64 x.c) ∧ w'.cell? ⟨N, 3, none⟩ = some (.string x.p) ∧ w'.cell? ⟨N, 4, none⟩ = some (.string x.m) ∧ w'.cell? ⟨N, 5, none⟩ = some (.string o) ∧ w'.cell? ⟨M', 0, none⟩ = some (.int .u64 y.a) ∧ w'.cell? ⟨M', 1, none⟩ = some (.int .u64 y.b) ∧ w'.cell? ⟨M', 2, none⟩ = some (.int .u64 y.c) ∧ w'.cell? ⟨M', 3, none⟩ = some (.string y.p) ∧ w'.cell? ⟨M', 4, none⟩ = some (.string y.m) ∧ w'.cell? ⟨M', 5, none⟩ = some (.string o') ∧ w'.cell? ⟨K, 0, none⟩ = some (.pointer (some ⟨M', 0, none⟩)) ∧ w'.cell? ⟨K, 3, none⟩ = some (.bool false)) (first | (refine ⟨?_, ?_, ?_, ?_, ?_, ?_, ?_, ?_, ?_, ?_, ?_, ?_, ?_, ?_⟩ <;> (repeat (first | with_reducible assumption | with_reducible apply cell_alloc_some | with_reducible apply cell_drew_some | with_reducible refine cell_below (by with_reducible assumption) ?_ | with_reducible refine cell_set_other (by omega) ?_))) | fail) (first | (go_at_call 40; (with_reducible refine (minor_v x o _).mono ?_); rintro e wa2 ⟨rfl, hba⟩; have HBA2 := Lib.hid (Below.up (w := wb1) (by (repeat (first | exact Below.refl _ _ | apply Below.drew | (apply below_alloc_on (Nat.le_refl _))))) hba)) | (go_at_call 40; (with_reducible refine (minor_v y o' _).mono ?_); rintro e wb2 ⟨rfl, hbb⟩; have HBB2 := Lib.hid (Below.up HBA2.out (Below.up (w := wa2) (by (repeat (first | exact Below.refl _ _ | apply Below.drew | (apply below_alloc_on (Nat.le_refl _))))) hbb))) | fail)
        replace I := Lib.hid (I.out.below HBB2.out)
        clear x0 x1 x2 x3 x4 x5 y0 y1 y2 y3 y4 y5 k0 k1 k2 k3 k4 k5
        obtain ⟨x0, x1, x2, x3, x4, x5⟩ := I.out.atx.cells
        obtain ⟨y0, y1, y2, y3, y4, y5⟩ := I.out.aty.cells
        obtain ⟨k0, k1, k2, k3, k4, k5⟩ := I.out.cells
        go_wp2_with (go_at_call 66; (with_reducible refine (errorsNew_any _ _).mono ?_); rintro e w' ⟨⟨et, ev, rfl⟩, hb⟩; clear x0 x1 x2 x3 x4 x5 y0 y1 y2 y3 y4 y5 k0 k1 k2 k3 k4 k5; replace I := Lib.hid (I.out.below hb); clear hb; obtain ⟨x0, x1, x2, x3, x4, x5⟩ := I.out.atx.cells; obtain ⟨y0, y1, y2, y3, y4, y5⟩ := I.out.aty.cells; obtain ⟨k0, k1, k2, k3, k4, k5⟩ := I.out.cells)
        refine bodyPost_ret (results_tmp2 rfl _ _ _) rfl ?_
        refine ⟨⟨_, ret_tup ?_⟩, I.out.bel⟩
        rw [← HR.out]
        rw [HI.out]; unfold tildeV; rw [← HZ.out, decide_eq_false (by have := HC.out; omega : ¬ x.cmp y < 0)]; rw [HA.out, HBE.out]; rfl
      · go_region_held3 (fun w' => w'.cell? ⟨N, 0, none⟩ = some (.int .u64 x.a) ∧ w'.cell? ⟨N, 1, none⟩ = some (.int .u64 x.b) ∧ w'.cell? ⟨N, 2, none⟩ = some (.int .u64 x.c) ∧ w'.cell? ⟨N, 3, none⟩ = some (.string x.p) ∧ w'.cell? ⟨N, 4, none⟩ = some (.string x.m) ∧ w'.cell? ⟨N, 5, none⟩ = some (.string o) ∧ w'.cell? ⟨M', 0, none⟩ = some (.int .u64 y.a) ∧ w'.cell? ⟨M', 1, none⟩ = some (.int .u64 y.b) ∧ w'.cell? ⟨M', 2, none⟩ = some (.int .u64 y.c) ∧ w'.cell? ⟨M', 3, none⟩ = some (.string y.p) ∧ w'.cell? ⟨M', 4, none⟩ = some (.string y.m) ∧ w'.cell? ⟨M', 5, none⟩ = some (.string o') ∧ w'.cell? ⟨K, 0, none⟩ = some (.pointer (some ⟨M', 0, none⟩)) ∧ w'.cell? ⟨K, 3, none⟩ = some (.bool true)) (first | (refine ⟨?_, ?_, ?_, ?_, ?_, ?_, ?_, ?_, ?_, ?_, ?_, ?_, ?_, ?_⟩ <;> (repeat (first | with_reducible assumption | with_reducible apply cell_alloc_some | with_reducible apply cell_drew_some | with_reducible refine cell_below (by with_reducible assumption) ?_ | with_reducible refine cell_set_other (by omega) ?_))) | fail) (first | (go_at_call 40; (with_reducible refine (minor_v x o _).mono ?_); rintro e wa2 ⟨rfl, hba⟩; have HBA2 := Lib.hid (Below.up (w := wb1) (by (repeat (first | exact Below.refl _ _ | apply Below.drew | (apply below_alloc_on (Nat.le_refl _))))) hba)) | (go_at_call 40; (with_reducible refine (minor_v y o' _).mono ?_); rintro e wb2 ⟨rfl, hbb⟩; have HBB2 := Lib.hid (Below.up HBA2.out (Below.up (w := wa2) (by (repeat (first | exact Below.refl _ _ | apply Below.drew | (apply below_alloc_on (Nat.le_refl _))))) hbb))) | fail)
        replace I := Lib.hid (I.out.below HBB2.out)
        clear x0 x1 x2 x3 x4 x5 y0 y1 y2 y3 y4 y5 k0 k1 k2 k3 k4 k5
        obtain ⟨x0, x1, x2, x3, x4, x5⟩ := I.out.atx.cells
        obtain ⟨y0, y1, y2, y3, y4, y5⟩ := I.out.aty.cells
        obtain ⟨k0, k1, k2, k3, k4, k5⟩ := I.out.cells
        go_wp2
        refine bodyPost_ret (results_tmp2 rfl _ _ _) rfl ?_
        refine ⟨⟨_, ret_tup ?_⟩, I.out.bel⟩
        rw [← HR.out]
        rw [HI.out]; unfold tildeV; rw [← HZ.out, decide_eq_false (by have := HC.out; omega : ¬ x.cmp y < 0)]; rw [HA.out, HBE.out]; rfl
end Go.Proofs.YtnkdpgcfaelpkaaDoor
