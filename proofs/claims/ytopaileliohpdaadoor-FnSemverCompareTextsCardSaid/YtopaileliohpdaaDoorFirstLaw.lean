/-
  laws.FnSemverPreFirst returns true for all versions and texts.
-/
import Derived.Test.YtopaileliohpdaaDoorFirst
import Derived.Test.YtopaileliohpdaaDoorIdent
import Derived.Test.YtopaileliohpdaaDoorSpecVer
import Derived.Test.YtopaileliohpdaaDoorTermSmall
import Derived.Test.YtopaileliohpdaaDoorIncLaw
import Derived.Deep.DeepCutAuto
namespace Go.Proofs.YtopaileliohpdaaDoor
open Go.RowKit
set_option maxRecDepth 100000
set_option linter.unusedVariables false

def headB (h a : ByteArray) : ByteArray := if h.toList = [] then a else h ++ ⟨#[46]⟩ ++ a
def tailB (x r : ByteArray) : ByteArray := if r.toList = [] then x else x ++ (⟨#[46]⟩ ++ r)
theorem bs_append (a b : ByteArray) : M.bs (a ++ b) = M.bs a ++ M.bs b := by simp [M.bs, ByteArray.data_append]
theorem bs_joined (h a r : ByteArray) : M.bs (tailB (headB h a) r) = M.headed (M.bs h) (M.bs a) ++ M.tailed (M.bs r) := by
  unfold tailB headB M.headed M.tailed
  have e : M.bs (⟨#[46]⟩ : ByteArray) = [46] := rfl
  rw [toList_bs, toList_bs]
  by_cases h1 : M.bs h = [] <;> by_cases h2 : M.bs r = [] <;> simp [h1, h2, bs_append, e]
theorem size_joined (h a r : ByteArray) : (tailB (headB h a) r).size ≤ h.size + a.size + r.size + 2 := by
  unfold tailB headB
  have e : (⟨#[46]⟩ : ByteArray).size = 1 := rfl
  split <;> split <;> (try simp only [ByteArray.size_append]) <;> omega
theorem headB_ne {h a : ByteArray} (e : (!h.toList.isEmpty) = true) : headB h a = h ++ ⟨#[46]⟩ ++ a := by
  unfold headB
  rw [if_neg (by intro h0; rw [h0] at e; cases e)]
theorem tailB_ne {h a : ByteArray} (e : (!a.toList.isEmpty) = true) : tailB h a = h ++ (⟨#[46]⟩ ++ a) := by
  unfold tailB
  rw [if_neg (by intro h0; rw [h0] at e; cases e)]
theorem not_empty_e {h : ByteArray} (e : (!h.toList.isEmpty) = false) : h.toList = [] := by cases k : h.toList with | nil => rfl | cons _ _ => rw [k] at e; cases e
theorem headB_e {h a : ByteArray} (e : h.toList = []) : headB h a = a := if_pos e
theorem tailB_e {h a : ByteArray} (e : a.toList = []) : tailB h a = h := if_pos e

theorem svGood_two_big (n : Nat) (w : World) (t : TypeId) (x y : V) (r : Bool) (hn : n = w.heap.size) (hz : Hid (x.p.size ≤ 140737488351232 ∧ x.m.size ≤ 140737488351232)) (hz2 : Hid (y.p.size ≤ 140737488351232 ∧ y.m.size ≤ 140737488351232)) (hr : Hid ((x.law && y.law) = r)) :
    Calls Tryd.prog 12 #[.slice (some ⟨n, 0, none⟩) 2 2] (w.alloc (.cells #[.int .u64 x.a, .int .u64 x.b, .int .u64 x.c, .string x.p, .string x.m, .int .u64 y.a, .int .u64 y.b, .int .u64 y.c, .string y.p, .string y.m] t)) fun e w' => e = .returned (.bool r) ∧ Below w.heap.size w w' := by
  subst hn
  have := svGood_big _ [x, y] _ (ReadV.two w t x y) (by simp) (by simpa using ⟨hz.out, hz2.out⟩)
  simp only [List.all_cons, List.all_nil, Bool.and_true, hr.out] at this
  exact this.mono fun e w' h => ⟨h.1, Below.up (below_alloc _ _) h.2⟩
theorem vCompare_x (x y : V) (r : Int) (w : World) (gx : x.pGood) (gy : y.pGood) (hn : NumErrs w) (zx : x.p.size ≤ 2147483647) (zy : y.p.size ≤ 2147483647) (hr : Hid (x.cmp y = r)) :
    Calls Tryd.prog 19 #[.agg #[.int .u64 x.a, .int .u64 x.b, .int .u64 x.c, .string x.p, .string x.m], .agg #[.int .u64 y.a, .int .u64 y.b, .int .u64 y.c, .string y.p, .string y.m]] w fun e w' => e = .returned (.int .i64 r) ∧ Below w.heap.size w w' := by
  have := vCompare_any x y w gx gy hn zx zy
  rw [hr.out] at this
  exact this
theorem svPre_b (x : V) (s : ByteArray) (w : World) :
    Calls Tryd.prog 18 #[.agg #[.int .u64 x.a, .int .u64 x.b, .int .u64 x.c, .string x.p, .string x.m], .string s] w fun e w' => e = .returned (.agg #[.int .u64 x.a, .int .u64 x.b, .int .u64 x.c, .string s, .string x.m]) ∧ Below w.heap.size w w' := by
  refine (svPre_any x s w).mono ?_
  rintro e w' ⟨rfl, rfl⟩
  exact ⟨rfl, by (repeat (first | exact Below.refl _ _ | apply Below.drew | (apply below_alloc_on (Nat.le_refl _))))⟩
theorem V.cmp_pre (x : V) (p q : ByteArray) : V.cmp { x with p := p } { x with p := q } = M.preCmp (M.bs p) (M.bs q) := by
  have s (n : Nat) : M.seg n n = 0 := by unfold M.seg; rw [if_neg (by omega), if_neg (by omega)]
  unfold V.cmp V.nums3
  simp [s]
theorem first_is (x : V) (h a b ra rb : ByteArray) (ha : M.ident a = true) (hb : M.ident b = true) (hne : (a.toList == b.toList) = false) :
    V.cmp { x with p := tailB (headB h a) ra } { x with p := tailB (headB h b) rb } = M.partSpec (M.bs a) (M.bs b) := by
  unfold M.ident at ha hb
  simp only [Bool.and_eq_true] at ha hb
  rw [V.cmp_pre, bs_joined, bs_joined]
  have na : M.bs a ≠ [] := by intro e; have := ha.2.1; rw [e] at this; exact absurd this (by decide)
  have nb : M.bs b ≠ [] := by intro e; have := hb.2.1; rw [e] at this; exact absurd this (by decide)
  unfold M.preCmp
  rw [if_neg (M.headed_ne _ _ _ na), if_neg (M.headed_ne _ _ _ nb)]
  refine M.first_cmp _ _ _ _ _ ha.2.1 hb.2.1 fun e => ?_
  rw [toList_bs, toList_bs, e] at hne
  simp at hne

set_option maxHeartbeats 4000000 in
theorem preFirst_law (x : V) (h a b ra rb : ByteArray) (w : World) (hn : NumErrs w) (h1 : x.p.size ≤ 140737488351232) (h2 : x.m.size ≤ 140737488351232) (z1 : h.size ≤ 140737488351232) (z2 : a.size ≤ 140737488351232) (z3 : b.size ≤ 140737488351232) (z4 : ra.size ≤ 140737488351232) (z5 : rb.size ≤ 140737488351232) :
    Calls Tryd.prog 4 #[.agg #[.int .u64 x.a, .int .u64 x.b, .int .u64 x.c, .string x.p, .string x.m], .string h, .string a, .string b, .string ra, .string rb] w fun e w' => e = .returned (.bool true) ∧ Below w.heap.size w w' := by
  have HN := Lib.hid hn
  have H2 := Lib.hid h2
  clear hn
  go_enter Tryd.func4, Tryd.ntmps4
  go_upto_if 59 with (first
    | (go_at_call 11; (with_reducible refine (zz_x x x.fits _ h1 h2 (Lib.hid rfl)).mono ?_); rintro e w1 ⟨rfl, hb⟩; have HB1 := Lib.hid (Below.up (w := w) (by (repeat (first | exact Below.refl _ _ | apply Below.drew | (apply below_alloc_on (Nat.le_refl _))))) hb); have hx : AtP w1 w.heap.size x := AtP.below (alloc_at _ _ _ rfl) hb; have X1 := Lib.hid hx; clear hx hb; rcases hf : x.fits with _ | _; all_goals (have HF := Lib.hid hf; clear hf))
    | (go_at_call 17; (with_reducible refine (svIdent_is a (M.ident a) _ (by omega) (Lib.hid rfl)).mono ?_); rintro e w2 ⟨rfl, hb⟩; have HB2 := Lib.hid (Below.up HB1.out hb); have X2 := Lib.hid (X1.out.below hb); clear hb; rcases hf : M.ident a with _ | _; all_goals (have HA := Lib.hid hf; clear hf))
    | (go_at_call 17; (with_reducible refine (svIdent_is b (M.ident b) _ (by omega) (Lib.hid rfl)).mono ?_); rintro e w3 ⟨rfl, hb⟩; have HB3 := Lib.hid (Below.up HB2.out hb); have X3 := Lib.hid (X2.out.below hb); clear hb; rcases hf : M.ident b with _ | _; all_goals (have HB := Lib.hid hf; clear hf)))
  all_goals try (go_ret; first | exact ⟨rfl, HB3.out⟩ | exact ⟨rfl, HB2.out⟩ | exact ⟨rfl, HB1.out⟩)
  have hne : (a.toList == b.toList) = false := by assumption
  have y0 : (h.size : Int) ≤ 2147483647 := by assumption
  have y1 : (a.size : Int) ≤ 2147483647 := by assumption
  have y2 : (b.size : Int) ≤ 2147483647 := by assumption
  have y3 : (ra.size : Int) ≤ 2147483647 := by assumption
  have yy : ((((h.size : Int) ≤ 2147483647 ∧ (a.size : Int) ≤ 2147483647) ∧ (b.size : Int) ≤ 2147483647) ∧ (ra.size : Int) ≤ 2147483647) ∧ (rb.size : Int) ≤ 2147483647 := by assumption
  have y4 := yy.2
  have s1 : (⟨#[46]⟩ : ByteArray).size = 1 := rfl
  have sa := size_joined h a ByteArray.empty
  have ta : tailB (headB h a) ByteArray.empty = headB h a := tailB_e (by rw [toList_bs]; rfl)
  have sb := size_joined h b ByteArray.empty
  have tb : tailB (headB h b) ByteArray.empty = headB h b := tailB_e (by rw [toList_bs]; rfl)
  have s0 : ByteArray.empty.size = 0 := rfl
  rw [ta, s0] at sa
  rw [tb, s0] at sb
  clear ta tb s0
  have e1 := add_ok (a := h) (b := ⟨#[46]⟩) (by omega)
  have e2 := add_ok (a := h ++ ⟨#[46]⟩) (b := a) (by rw [ByteArray.size_append]; omega)
  have e3 := add_ok (a := h ++ ⟨#[46]⟩) (b := b) (by rw [ByteArray.size_append]; omega)
  have e4 := add_ok (a := ⟨#[46]⟩) (b := ra) (by omega)
  have e5 := add_ok (a := ⟨#[46]⟩) (b := rb) (by omega)
  have e6 := add_ok (a := headB h a) (b := ⟨#[46]⟩ ++ ra) (by rw [ByteArray.size_append]; omega)
  have e7 := add_ok (a := headB h b) (b := ⟨#[46]⟩ ++ rb) (by rw [ByteArray.size_append]; omega)
  have sx := size_joined h a ra
  have sy := size_joined h b rb
  have ZX : Hid ((tailB (headB h a) ra).size ≤ 140737488351232 ∧ x.m.size ≤ 140737488351232) := Lib.hid ⟨by omega, h2⟩
  have ZY : Hid ((tailB (headB h b) rb).size ≤ 140737488351232 ∧ x.m.size ≤ 140737488351232) := Lib.hid ⟨by omega, h2⟩
  have HC := Lib.hid (first_is x h a b ra rb HA.out HB.out hne)
  have za : a.size ≤ 140737488351232 := by omega
  have zb : b.size ≤ 140737488351232 := by omega
  clear s1 sa sb sx sy hne h1 h2 z1 z2 z3 z4 z5
  go_cut [13, 14] (fun s13 s14 wx => s13 = .string (headB h a) ∧ s14 = .string (headB h b) ∧ w3 = wx)
  case first =>
    go_wp2
    all_goals go_meet
    · have hh : (!h.toList.isEmpty) = true := by assumption
      exact ⟨by rw [headB_ne hh], by rw [headB_ne hh], rfl⟩
    · have hh : h.toList = [] := not_empty_e (by assumption)
      exact ⟨by rw [headB_e hh], by rw [headB_e hh], rfl⟩
  case rest =>
  obtain ⟨rfl, rfl, rfl⟩ := hcut
  go_upto_if 69 with fail
  go_cut [13] (fun s13 wx => s13 = .string (tailB (headB h a) ra) ∧ w3 = wx)
  case first =>
    go_wp2
    all_goals go_meet
    · have hh : (!ra.toList.isEmpty) = true := by assumption
      exact ⟨by rw [tailB_ne hh], rfl⟩
    · have hh : ra.toList = [] := not_empty_e (by assumption)
      exact ⟨by rw [tailB_e hh], rfl⟩
  case rest =>
  obtain ⟨rfl, rfl⟩ := hcut
  go_upto_if 75 with fail
  go_cut [14] (fun s14 wx => s14 = .string (tailB (headB h b) rb) ∧ w3 = wx)
  case first =>
    go_wp2
    all_goals go_meet
    · have hh : (!rb.toList.isEmpty) = true := by assumption
      exact ⟨by rw [tailB_ne hh], rfl⟩
    · have hh : rb.toList = [] := not_empty_e (by assumption)
      exact ⟨by rw [tailB_e hh], rfl⟩
  case rest =>
  obtain ⟨rfl, rfl⟩ := hcut
  clear e1 e2 e3 e4 e5 e6 e7
  generalize tailB (headB h a) ra = X at *
  generalize tailB (headB h b) rb = Y at *
  go_wp2_with fail
  obtain ⟨c0, c1, c2, c3, c4⟩ := X3.out.cells
  rcases hl : (V.law { x with p := X } && V.law { x with p := Y }) with _ | _
  · have HL := Lib.hid hl
    clear hl
    go_region_held3 (fun w' => w'.cell? ⟨w.heap.size, 0, none⟩ = some (.int .u64 x.a) ∧ w'.cell? ⟨w.heap.size, 1, none⟩ = some (.int .u64 x.b) ∧ w'.cell? ⟨w.heap.size, 2, none⟩ = some (.int .u64 x.c) ∧ w'.cell? ⟨w.heap.size, 3, none⟩ = some (.string x.p) ∧ w'.cell? ⟨w.heap.size, 4, none⟩ = some (.string x.m)) (first | (refine ⟨?_, ?_, ?_, ?_, ?_⟩ <;> (repeat (first | with_reducible assumption | with_reducible apply cell_alloc_some | with_reducible apply cell_drew_some | with_reducible refine cell_below (by with_reducible assumption) ?_ | with_reducible refine cell_set_other (by omega) ?_))) | fail) (first
      | (go_at_call 18; (with_reducible refine (svPre_b x X _).mono ?_); rintro e w4 ⟨rfl, hb4⟩; have H4 := Lib.hid (Below.up (w := w3) (by (repeat (first | exact Below.refl _ _ | apply Below.drew | (apply below_alloc_on (Nat.le_refl _))))) hb4))
      | (go_at_call 18; (with_reducible refine (svPre_b x Y _).mono ?_); rintro e w5 ⟨rfl, hb5⟩; have H5 := Lib.hid (Below.up H4.out (Below.up (w := w4) (by (repeat (first | exact Below.refl _ _ | apply Below.drew | (apply below_alloc_on (Nat.le_refl _))))) hb5)))
      | (go_at_call 12; (with_reducible refine (svGood_two_big _ _ _ { x with p := X } { x with p := Y } false rfl ZX ZY HL).mono ?_); rintro e w6 ⟨rfl, hb6⟩; have HB6 := Lib.hid (Below.up HB3.out (Below.up H5.out (Below.up (w := w5) (by (repeat (first | exact Below.refl _ _ | apply Below.drew | (apply below_alloc_on (Nat.le_refl _))))) hb6))))
      | fail)
    go_wp2
    go_ret
    exact ⟨rfl, HB6.out⟩
  · have HL := Lib.hid hl
    rw [Bool.and_eq_true] at hl
    have GX := Lib.hid (V.law_pGood hl.1)
    have GY := Lib.hid (V.law_pGood hl.2)
    have LX : X.size ≤ 65536 := by
      have := hl.1
      simp only [V.law, V.short, Bool.and_eq_true, decide_eq_true_eq] at this
      exact this.1.1
    have LY : Y.size ≤ 65536 := by
      have := hl.2
      simp only [V.law, V.short, Bool.and_eq_true, decide_eq_true_eq] at this
      exact this.1.1
    have LX2 : X.size ≤ 2147483647 := by omega
    have LY2 : Y.size ≤ 2147483647 := by omega
    clear hl LX LY
    go_region_held3 (fun w' => w'.cell? ⟨w.heap.size, 0, none⟩ = some (.int .u64 x.a) ∧ w'.cell? ⟨w.heap.size, 1, none⟩ = some (.int .u64 x.b) ∧ w'.cell? ⟨w.heap.size, 2, none⟩ = some (.int .u64 x.c) ∧ w'.cell? ⟨w.heap.size, 3, none⟩ = some (.string x.p) ∧ w'.cell? ⟨w.heap.size, 4, none⟩ = some (.string x.m)) (first | (refine ⟨?_, ?_, ?_, ?_, ?_⟩ <;> (repeat (first | with_reducible assumption | with_reducible apply cell_alloc_some | with_reducible apply cell_drew_some | with_reducible refine cell_below (by with_reducible assumption) ?_ | with_reducible refine cell_set_other (by omega) ?_))) | fail) (first
      | (go_at_call 18; (with_reducible refine (svPre_b x X _).mono ?_); rintro e w4 ⟨rfl, hb4⟩; have H4 := Lib.hid (Below.up (w := w3) (by (repeat (first | exact Below.refl _ _ | apply Below.drew | (apply below_alloc_on (Nat.le_refl _))))) hb4))
      | (go_at_call 18; (with_reducible refine (svPre_b x Y _).mono ?_); rintro e w5 ⟨rfl, hb5⟩; have H5 := Lib.hid (Below.up H4.out (Below.up (w := w4) (by (repeat (first | exact Below.refl _ _ | apply Below.drew | (apply below_alloc_on (Nat.le_refl _))))) hb5)))
      | (go_at_call 12; (with_reducible refine (svGood_two_big _ _ _ { x with p := X } { x with p := Y } true rfl ZX ZY HL).mono ?_); rintro e w6 ⟨rfl, hb6⟩; have H6 := Lib.hid (Below.up H5.out (Below.up (w := w5) (by (repeat (first | exact Below.refl _ _ | apply Below.drew | (apply below_alloc_on (Nat.le_refl _))))) hb6)); have HB6 := Lib.hid (Below.up HB3.out H6.out); have X6 := Lib.hid (X3.out.below H6.out))
      | fail)
    go_wp2_with fail
    obtain ⟨d0, d1, d2, d3, d4⟩ := X6.out.cells
    clear c0 c1 c2 c3 c4
    obtain ⟨r, hr⟩ : ∃ r, M.partSpec (M.bs a) (M.bs b) = r := ⟨_, rfl⟩
    have HC1 : Hid (V.cmp { x with p := X } { x with p := Y } = r) := Lib.hid (HC.out.trans hr)
    have HC2 : Hid (M.partSpec (M.bs a) (M.bs b) = r) := Lib.hid hr
    have GX1 : Hid (V.pGood { x with p := X }) := GX
    have GY1 : Hid (V.pGood { x with p := Y }) := GY
    clear hr HC
    go_region_held3 (fun w' => w'.cell? ⟨w.heap.size, 0, none⟩ = some (.int .u64 x.a) ∧ w'.cell? ⟨w.heap.size, 1, none⟩ = some (.int .u64 x.b) ∧ w'.cell? ⟨w.heap.size, 2, none⟩ = some (.int .u64 x.c) ∧ w'.cell? ⟨w.heap.size, 3, none⟩ = some (.string x.p) ∧ w'.cell? ⟨w.heap.size, 4, none⟩ = some (.string x.m)) (first | (refine ⟨?_, ?_, ?_, ?_, ?_⟩ <;> (repeat (first | with_reducible assumption | with_reducible apply cell_alloc_some | with_reducible apply cell_drew_some | with_reducible refine cell_below (by with_reducible assumption) ?_ | with_reducible refine cell_set_other (by omega) ?_))) | fail) (first
      | (go_at_call 18; (with_reducible refine (svPre_b x X _).mono ?_); rintro e w7 ⟨rfl, hb7⟩; have H7 := Lib.hid (Below.up (w := w6) (by (repeat (first | exact Below.refl _ _ | apply Below.drew | (apply below_alloc_on (Nat.le_refl _))))) hb7))
      | (go_at_call 18; (with_reducible refine (svPre_b x Y _).mono ?_); rintro e w8 ⟨rfl, hb8⟩; have H8 := Lib.hid (Below.up H7.out (Below.up (w := w7) (by (repeat (first | exact Below.refl _ _ | apply Below.drew | (apply below_alloc_on (Nat.le_refl _))))) hb8)))
      | (go_at_call 19; (with_reducible refine (vCompare_x { x with p := X } { x with p := Y } r _ GX1.out GY1.out (HN.out.below (Below.up HB6.out (Below.up H8.out (by (repeat (first | exact Below.refl _ _ | apply Below.drew | (apply below_alloc_on (Nat.le_refl _)))))))) LX2 LY2 HC1).mono ?_); rintro e w9 ⟨rfl, hb9⟩; have H9 := Lib.hid (Below.up H8.out (Below.up (w := w8) (by (repeat (first | exact Below.refl _ _ | apply Below.drew | (apply below_alloc_on (Nat.le_refl _))))) hb9)))
      | (go_at_call 20; (with_reducible refine (specPart_is a b r _ za zb HC2).mono ?_); rintro e w10 ⟨rfl, rfl⟩)
      | fail)
    go_wp2
    go_ret
    exact ⟨ret_bool (by simp), Below.up HB6.out (Below.up H9.out (by (repeat (first | exact Below.refl _ _ | apply Below.drew | (apply below_alloc_on (Nat.le_refl _))))))⟩
theorem preFirst_walk (x : V) (h a b ra rb : ByteArray) (w : World) (hE : NumErrs w) (hu : x.u64) (hz : x.p.size ≤ 140737488351232 ∧ x.m.size ≤ 140737488351232) (z1 : h.size ≤ 140737488351232) (z2 : a.size ≤ 140737488351232) (z3 : b.size ≤ 140737488351232) (z4 : ra.size ≤ 140737488351232) (z5 : rb.size ≤ 140737488351232) :
    Calls Tryd.prog 4 #[x.v, .string h, .string a, .string b, .string ra, .string rb] w fun e w' => e = .returned (.bool true) ∧ Below w.heap.size w w' :=
  preFirst_law x h a b ra rb w hE hz.1 hz.2 z1 z2 z3 z4 z5
end Go.Proofs.YtopaileliohpdaaDoor
