/-
  laws.FnSemverIncMajorLeast returns true for all versions.
-/
import Derived.Test.YtopaileliohpdaaDoorInc
import Derived.Test.YtopaileliohpdaaDoorMetaSet
namespace Go.Proofs.YtopaileliohpdaaDoor
open Go.RowKit
set_option maxRecDepth 100000
set_option linter.unusedVariables false
set_option linter.unusedSimpArgs false

def V.plain (x : V) : Bool := x.good && decide (x.a < 18446744073709551615) && decide (x.b < 18446744073709551615) && decide (x.c < 18446744073709551615) && ((M.bs x.m).isEmpty || !(M.bs x.p).isEmpty)
theorem good_is (x : V) (r : Bool) (w : World) (h1 : x.p.size ≤ 2147483647) (h2 : x.m.size ≤ 2147483647) (hr : Hid (x.good = r)) :
    Calls Tryd.prog 39 #[.agg #[.int .u64 x.a, .int .u64 x.b, .int .u64 x.c, .string x.p, .string x.m]] w fun e w' => e = .returned (.bool r) ∧ Below w.heap.size w w' := by
  have := good_any x w h1 h2
  rw [hr.out] at this
  exact this
theorem isEmpty_true {s : ByteArray} (h : (M.bs s).isEmpty = true) : s.toList = [] := empty_toList (by simpa using h)
theorem isEmpty_false {s : ByteArray} (h : (M.bs s).isEmpty = false) : s.toList.isEmpty = false := by rw [toList_bs]; exact h

set_option maxHeartbeats 1000000 in
theorem plain_any (x : V) (w : World) (h1 : x.p.size ≤ 2147483647) (h2 : x.m.size ≤ 2147483647) :
    Calls Tryd.prog 21 #[.agg #[.int .u64 x.a, .int .u64 x.b, .int .u64 x.c, .string x.p, .string x.m]] w fun e w' => e = .returned (.bool x.plain) ∧ Below w.heap.size w w' := by
  generalize hq : x.plain = q
  have HQ := Lib.hid hq
  clear hq
  cases hg : x.good with
  | false =>
    have HG := Lib.hid hg
    have HR := Lib.hid (show q = false by rw [← HQ.out, V.plain, hg]; rfl)
    clear hg
    go_enter Tryd.func21, Tryd.ntmps21
    go_wp2_with (go_at_call 39; (with_reducible refine (good_is x false _ h1 h2 HG).mono ?_); rintro e w1 ⟨rfl, hb⟩; have HB1 := Lib.hid (Below.up (below_alloc _ _) hb); have hp : AtP w1 w.heap.size x := AtP.below (alloc_at _ _ _ rfl) hb; obtain ⟨a0, a1, a2, a3, a4⟩ := hp.cells; clear hp hb)
    go_ret
    exact ⟨ret_bool HR.out.symm, HB1.out⟩
  | true =>
    have HG := Lib.hid hg
    by_cases ha : x.a < 18446744073709551615
    · by_cases hb : x.b < 18446744073709551615
      · by_cases hc : x.c < 18446744073709551615
        · cases hm : (M.bs x.m).isEmpty with
          | true =>
            have iha : (x.a : Int) < 18446744073709551615 := by omega
            have ihb : (x.b : Int) < 18446744073709551615 := by omega
            have ihc : (x.c : Int) < 18446744073709551615 := by omega
            have shm := isEmpty_true hm
            have HR := Lib.hid HQ.out.symm
            rw [V.plain, hg, hm] at HR
            simp only [ha, hb, hc, decide_true, decide_false, Bool.and_true, Bool.true_and, Bool.and_false, Bool.false_and, Bool.or_true, Bool.or_false, Bool.not_true, Bool.not_false] at HR
            clear hg ha hb hc hm
            go_enter Tryd.func21, Tryd.ntmps21
            go_wp2_with (go_at_call 39; (with_reducible refine (good_is x true _ h1 h2 HG).mono ?_); rintro e w1 ⟨rfl, hb⟩; have HB1 := Lib.hid (Below.up (below_alloc _ _) hb); have hp : AtP w1 w.heap.size x := AtP.below (alloc_at _ _ _ rfl) hb; obtain ⟨a0, a1, a2, a3, a4⟩ := hp.cells; clear hp hb)
            go_ret
            exact ⟨ret_bool HR.out.symm, HB1.out⟩
          | false =>
            cases hp : (M.bs x.p).isEmpty with
            | true =>
              have iha : (x.a : Int) < 18446744073709551615 := by omega
              have ihb : (x.b : Int) < 18446744073709551615 := by omega
              have ihc : (x.c : Int) < 18446744073709551615 := by omega
              have shm := isEmpty_false hm
              have shp := isEmpty_true hp
              have HR := Lib.hid HQ.out.symm
              rw [V.plain, hg, hm, hp] at HR
              simp only [ha, hb, hc, decide_true, decide_false, Bool.and_true, Bool.true_and, Bool.and_false, Bool.false_and, Bool.or_true, Bool.or_false, Bool.not_true, Bool.not_false] at HR
              clear hg ha hb hc hm hp
              go_enter Tryd.func21, Tryd.ntmps21
              go_wp2_with (go_at_call 39; (with_reducible refine (good_is x true _ h1 h2 HG).mono ?_); rintro e w1 ⟨rfl, hb⟩; have HB1 := Lib.hid (Below.up (below_alloc _ _) hb); have hp : AtP w1 w.heap.size x := AtP.below (alloc_at _ _ _ rfl) hb; obtain ⟨a0, a1, a2, a3, a4⟩ := hp.cells; clear hp hb)
              go_ret
              exact ⟨ret_bool HR.out.symm, HB1.out⟩
            | false =>
              have iha : (x.a : Int) < 18446744073709551615 := by omega
              have ihb : (x.b : Int) < 18446744073709551615 := by omega
              have ihc : (x.c : Int) < 18446744073709551615 := by omega
              have shm := isEmpty_false hm
              have shp := isEmpty_false hp
              have HR := Lib.hid HQ.out.symm
              rw [V.plain, hg, hm, hp] at HR
              simp only [ha, hb, hc, decide_true, decide_false, Bool.and_true, Bool.true_and, Bool.and_false, Bool.false_and, Bool.or_true, Bool.or_false, Bool.not_true, Bool.not_false] at HR
              clear hg ha hb hc hm hp
              go_enter Tryd.func21, Tryd.ntmps21
              go_wp2_with (go_at_call 39; (with_reducible refine (good_is x true _ h1 h2 HG).mono ?_); rintro e w1 ⟨rfl, hb⟩; have HB1 := Lib.hid (Below.up (below_alloc _ _) hb); have hp : AtP w1 w.heap.size x := AtP.below (alloc_at _ _ _ rfl) hb; obtain ⟨a0, a1, a2, a3, a4⟩ := hp.cells; clear hp hb)
              go_ret
              exact ⟨ret_bool HR.out.symm, HB1.out⟩
        · have iha : (x.a : Int) < 18446744073709551615 := by omega
          have ihb : (x.b : Int) < 18446744073709551615 := by omega
          have ihc : decide ((x.c : Int) < 18446744073709551615) = false := decide_eq_false (by omega)
          have HR := Lib.hid HQ.out.symm
          rw [V.plain, hg] at HR
          simp only [ha, hb, hc, decide_true, decide_false, Bool.and_true, Bool.true_and, Bool.and_false, Bool.false_and, Bool.or_true, Bool.or_false, Bool.not_true, Bool.not_false] at HR
          clear hg ha hb hc
          go_enter Tryd.func21, Tryd.ntmps21
          go_wp2_with (go_at_call 39; (with_reducible refine (good_is x true _ h1 h2 HG).mono ?_); rintro e w1 ⟨rfl, hb⟩; have HB1 := Lib.hid (Below.up (below_alloc _ _) hb); have hp : AtP w1 w.heap.size x := AtP.below (alloc_at _ _ _ rfl) hb; obtain ⟨a0, a1, a2, a3, a4⟩ := hp.cells; clear hp hb)
          go_ret
          exact ⟨ret_bool HR.out.symm, HB1.out⟩
      · have iha : (x.a : Int) < 18446744073709551615 := by omega
        have ihb : decide ((x.b : Int) < 18446744073709551615) = false := decide_eq_false (by omega)
        have HR := Lib.hid HQ.out.symm
        rw [V.plain, hg] at HR
        simp only [ha, hb, decide_true, decide_false, Bool.and_true, Bool.true_and, Bool.and_false, Bool.false_and, Bool.or_true, Bool.or_false, Bool.not_true, Bool.not_false] at HR
        clear hg ha hb
        go_enter Tryd.func21, Tryd.ntmps21
        go_wp2_with (go_at_call 39; (with_reducible refine (good_is x true _ h1 h2 HG).mono ?_); rintro e w1 ⟨rfl, hb⟩; have HB1 := Lib.hid (Below.up (below_alloc _ _) hb); have hp : AtP w1 w.heap.size x := AtP.below (alloc_at _ _ _ rfl) hb; obtain ⟨a0, a1, a2, a3, a4⟩ := hp.cells; clear hp hb)
        go_ret
        exact ⟨ret_bool HR.out.symm, HB1.out⟩
    · have iha : decide ((x.a : Int) < 18446744073709551615) = false := decide_eq_false (by omega)
      have HR := Lib.hid HQ.out.symm
      rw [V.plain, hg] at HR
      simp only [ha, decide_true, decide_false, Bool.and_true, Bool.true_and, Bool.and_false, Bool.false_and, Bool.or_true, Bool.or_false, Bool.not_true, Bool.not_false] at HR
      clear hg ha
      go_enter Tryd.func21, Tryd.ntmps21
      go_wp2_with (go_at_call 39; (with_reducible refine (good_is x true _ h1 h2 HG).mono ?_); rintro e w1 ⟨rfl, hb⟩; have HB1 := Lib.hid (Below.up (below_alloc _ _) hb); have hp : AtP w1 w.heap.size x := AtP.below (alloc_at _ _ _ rfl) hb; obtain ⟨a0, a1, a2, a3, a4⟩ := hp.cells; clear hp hb)
      go_ret
      exact ⟨ret_bool HR.out.symm, HB1.out⟩

theorem V.law_pGood {x : V} (h : x.law = true) : x.pGood := by
  simp only [V.law, V.good, V.pOk, Bool.and_eq_true, Bool.or_eq_true, List.isEmpty_iff] at h
  exact h.2.1
theorem V.bare_pGood (a b c : Nat) : (V.bare a b c).pGood := .inl rfl
theorem inc_above (x : V) : x.cmp (V.bare (x.a + 1) 0 0) < 0 := by
  have h1 : M.seg x.a (x.a + 1) = -1 := by unfold M.seg; rw [if_pos (by omega)]
  have h2 : x.nums3 (V.bare (x.a + 1) 0 0) = -1 := by unfold V.nums3 V.bare; simp only; rw [h1]; rfl
  unfold V.cmp
  rw [h2]
  simp
theorem inc_least (x : V) (k : Nat) (h : ¬ (¬ M.bs x.p = [] ∧ x.b = 0 ∧ x.c = 0)) : (decide (x.cmp (V.bare k 0 0) < 0)) = decide ((V.bare (x.a + 1) 0 0).cmp (V.bare k 0 0) ≤ 0) := by
  have e0 : M.bs (⟨#[]⟩ : ByteArray) = [] := rfl
  have s0 : M.seg 0 0 = 0 := rfl
  unfold V.cmp V.nums3 V.bare
  simp only [s0, ne_eq, not_true_eq_false, if_false, e0, M.preCmp, if_true]
  rcases Nat.lt_trichotomy x.a k with h1 | h1 | h1
  · have a1 : M.seg x.a k = -1 := by unfold M.seg; rw [if_pos h1]
    rw [a1]
    by_cases h2 : x.a + 1 = k
    · have a2 : M.seg (x.a + 1) k = 0 := by unfold M.seg; rw [if_neg (by omega), if_neg (by omega)]
      rw [a2]; simp
    · have a2 : M.seg (x.a + 1) k = -1 := by unfold M.seg; rw [if_pos (by omega)]
      rw [a2]; simp
  · have a1 : M.seg x.a k = 0 := by unfold M.seg; rw [if_neg (by omega), if_neg (by omega)]
    have a2 : M.seg (x.a + 1) k = 1 := by unfold M.seg; rw [if_neg (by omega), if_pos (by omega)]
    rw [a1, a2]
    by_cases hb : x.b = 0
    · have b1 : M.seg x.b 0 = 0 := by rw [hb]; rfl
      rw [b1]
      by_cases hc : x.c = 0
      · have c1 : M.seg x.c 0 = 0 := by rw [hc]; rfl
        rw [c1]
        have hp : M.bs x.p = [] := Classical.byContradiction fun hp => h ⟨hp, hb, hc⟩
        rw [hp]; simp
      · have c1 : M.seg x.c 0 = 1 := by unfold M.seg; rw [if_neg (by omega), if_pos (by omega)]
        rw [c1]; simp
    · have b1 : M.seg x.b 0 = 1 := by unfold M.seg; rw [if_neg (by omega), if_pos (by omega)]
      rw [b1]; simp
  · have a1 : M.seg x.a k = 1 := by unfold M.seg; rw [if_neg (by omega), if_pos h1]
    have a2 : M.seg (x.a + 1) k = 1 := by unfold M.seg; rw [if_neg (by omega), if_pos (by omega)]
    rw [a1, a2]; simp

theorem plain_is (x : V) (r : Bool) (w : World) (h1 : x.p.size ≤ 2147483647) (h2 : x.m.size ≤ 2147483647) (hr : Hid (x.plain = r)) :
    Calls Tryd.prog 21 #[.agg #[.int .u64 x.a, .int .u64 x.b, .int .u64 x.c, .string x.p, .string x.m]] w fun e w' => e = .returned (.bool r) ∧ Below w.heap.size w w' := by
  have := plain_any x w h1 h2
  rw [hr.out] at this
  exact this
theorem zz_x (x : V) (r : Bool) (w : World) (h1 : x.p.size ≤ 140737488351232) (h2 : x.m.size ≤ 140737488351232) (hr : Hid (x.fits = r)) :
    Calls Tryd.prog 11 #[.agg #[.int .u64 x.a, .int .u64 x.b, .int .u64 x.c, .string x.p, .string x.m]] w fun e w' => e = .returned (.bool r) ∧ Below w.heap.size w w' := zzFits14_is x r w h1 h2 hr
theorem vLess_x (x y : V) (r : Bool) (w : World) (gx : x.pGood) (gy : y.pGood) (hn : NumErrs w) (zx : x.p.size ≤ 2147483647) (zy : y.p.size ≤ 2147483647) (hr : Hid (decide (x.cmp y < 0) = r)) :
    Calls Tryd.prog 23 #[.agg #[.int .u64 x.a, .int .u64 x.b, .int .u64 x.c, .string x.p, .string x.m], .agg #[.int .u64 y.a, .int .u64 y.b, .int .u64 y.c, .string y.p, .string y.m]] w fun e w' => e = .returned (.bool r) ∧ Below w.heap.size w w' := by
  have := vLess_any x y w gx gy hn zx zy
  rw [hr.out] at this
  exact this
theorem vLessEqual_x (x y : V) (r : Bool) (w : World) (gx : x.pGood) (gy : y.pGood) (hn : NumErrs w) (zx : x.p.size ≤ 2147483647) (zy : y.p.size ≤ 2147483647) (hr : Hid (decide (x.cmp y ≤ 0) = r)) :
    Calls Tryd.prog 24 #[.agg #[.int .u64 x.a, .int .u64 x.b, .int .u64 x.c, .string x.p, .string x.m], .agg #[.int .u64 y.a, .int .u64 y.b, .int .u64 y.c, .string y.p, .string y.m]] w fun e w' => e = .returned (.bool r) ∧ Below w.heap.size w w' := by
  have := vLessEqual_any x y w gx gy hn zx zy
  rw [hr.out] at this
  exact this
theorem AtP.other5 {w : World} {N M : Nat} {x : V} (h : AtP w N x) (hn : N ≠ M) (v0 v1 v2 v3 v4 : Value) :
    AtP (((((w.setCell ⟨M, 0, none⟩ v0).setCell ⟨M, 1, none⟩ v1).setCell ⟨M, 2, none⟩ v2).setCell ⟨M, 3, none⟩ v3).setCell ⟨M, 4, none⟩ v4) N x := by
  unfold AtP at *
  rw [heap_setCell_other _ _ N _ hn, heap_setCell_other _ _ N _ hn, heap_setCell_other _ _ N _ hn, heap_setCell_other _ _ N _ hn, heap_setCell_other _ _ N _ hn]
  exact h
theorem AtP.bare5 {w : World} {N : Nat} {x : V} (h : AtP w N x) (k : Nat) :
    AtP (((((w.setCell ⟨N, 0, none⟩ (.int .u64 k)).setCell ⟨N, 1, none⟩ (.int .u64 0)).setCell ⟨N, 2, none⟩ (.int .u64 0)).setCell ⟨N, 3, none⟩ (.string ⟨#[]⟩)).setCell ⟨N, 4, none⟩ (.string ⟨#[]⟩)) N (V.bare k 0 0) := AtP.store5 h (V.bare k 0 0)
theorem V.plain_lt {x : V} (h : x.plain = true) : x.a < 18446744073709551615 := by
  simp only [V.plain, Bool.and_eq_true, decide_eq_true_eq] at h
  exact h.1.1.1.2

set_option maxHeartbeats 4000000 in
theorem incMajor_law (x y : V) (w : World) (hn : NumErrs w) (ht : Pow10 w) (hu : x.u64) (h1 : x.p.size ≤ 140737488351232) (h2 : x.m.size ≤ 140737488351232) (h3 : y.p.size ≤ 140737488351232) (h4 : y.m.size ≤ 140737488351232) :
    Calls Tryd.prog 5 #[.agg #[.int .u64 x.a, .int .u64 x.b, .int .u64 x.c, .string x.p, .string x.m], .agg #[.int .u64 y.a, .int .u64 y.b, .int .u64 y.c, .string y.p, .string y.m]] w fun e w' => e = .returned (.bool true) ∧ Below w.heap.size w w' := by
  have HN := Lib.hid hn
  have HT := Lib.hid ht
  have HU := Lib.hid hu
  clear hn ht hu
  cases hfx : x.fits with
  | false =>
    have HFX := Lib.hid hfx
    clear hfx
    go_enter Tryd.func5, Tryd.ntmps5
    go_wp2_with (first
      | (go_at_call 11; (with_reducible refine (zz_x x false _ h1 h2 HFX).mono ?_); rintro e w1 ⟨rfl, hb⟩; have HB1 := Lib.hid (Below.up (w := w) (by (repeat (first | exact Below.refl _ _ | apply Below.drew | (apply below_alloc_on (Nat.le_refl _))))) hb); have hx : AtP w1 w.heap.size x := AtP.below (heap_alloc_some (alloc_at _ _ _ rfl)) hb; have hy : AtP w1 (w.heap.size + 1) y := AtP.below (alloc_at _ _ _ (by simp)) hb; obtain ⟨b0, b1, b2, b3, b4⟩ := hy.cells; have X1 := Lib.hid hx; have Y1 := Lib.hid hy; clear hx hy hb))
    go_ret
    exact ⟨rfl, HB1.out⟩
  | true =>
    have HFX := Lib.hid hfx
    have HZX := Lib.hid (V.fits_le hfx)
    clear hfx
    cases hfy : y.fits with
    | false =>
      have HFY := Lib.hid hfy
      clear hfy
      go_enter Tryd.func5, Tryd.ntmps5
      go_wp2_with (first
        | (go_at_call 11; (with_reducible refine (zz_x x true _ h1 h2 HFX).mono ?_); rintro e w1 ⟨rfl, hb⟩; have HB1 := Lib.hid (Below.up (w := w) (by (repeat (first | exact Below.refl _ _ | apply Below.drew | (apply below_alloc_on (Nat.le_refl _))))) hb); have hx : AtP w1 w.heap.size x := AtP.below (heap_alloc_some (alloc_at _ _ _ rfl)) hb; have hy : AtP w1 (w.heap.size + 1) y := AtP.below (alloc_at _ _ _ (by simp)) hb; obtain ⟨b0, b1, b2, b3, b4⟩ := hy.cells; have X1 := Lib.hid hx; have Y1 := Lib.hid hy; clear hx hy hb)
        | (go_at_call 11; (with_reducible refine (zz_x y false _ h3 h4 HFY).mono ?_); rintro e w2 ⟨rfl, hb⟩; have HB2 := Lib.hid (Below.up HB1.out hb); have hx : AtP w2 w.heap.size x := X1.out.below hb; have hy : AtP w2 (w.heap.size + 1) y := Y1.out.below hb; obtain ⟨c0, c1, c2, c3, c4⟩ := hx.cells; obtain ⟨d0, d1, d2, d3, d4⟩ := hy.cells; have l0 := hy.loose 0; have l1 := hy.loose 1; have l2 := hy.loose 2; have l3 := hy.loose 3; have l4 := hy.loose 4; have X2 := Lib.hid hx; have Y2 := Lib.hid hy; clear hx hy hb b0 b1 b2 b3 b4))
      go_ret
      exact ⟨rfl, HB2.out⟩
    | true =>
      have HFY := Lib.hid hfy
      clear hfy
      cases hl : x.law with
      | false =>
        have HL := Lib.hid hl
        clear hl
        go_enter Tryd.func5, Tryd.ntmps5
        go_wp2_with (first
          | (go_at_call 11; (with_reducible refine (zz_x x true _ h1 h2 HFX).mono ?_); rintro e w1 ⟨rfl, hb⟩; have HB1 := Lib.hid (Below.up (w := w) (by (repeat (first | exact Below.refl _ _ | apply Below.drew | (apply below_alloc_on (Nat.le_refl _))))) hb); have hx : AtP w1 w.heap.size x := AtP.below (heap_alloc_some (alloc_at _ _ _ rfl)) hb; have hy : AtP w1 (w.heap.size + 1) y := AtP.below (alloc_at _ _ _ (by simp)) hb; obtain ⟨b0, b1, b2, b3, b4⟩ := hy.cells; have X1 := Lib.hid hx; have Y1 := Lib.hid hy; clear hx hy hb)
          | (go_at_call 11; (with_reducible refine (zz_x y true _ h3 h4 HFY).mono ?_); rintro e w2 ⟨rfl, hb⟩; have HB2 := Lib.hid (Below.up HB1.out hb); have hx : AtP w2 w.heap.size x := X1.out.below hb; have hy : AtP w2 (w.heap.size + 1) y := Y1.out.below hb; obtain ⟨c0, c1, c2, c3, c4⟩ := hx.cells; obtain ⟨d0, d1, d2, d3, d4⟩ := hy.cells; have l0 := hy.loose 0; have l1 := hy.loose 1; have l2 := hy.loose 2; have l3 := hy.loose 3; have l4 := hy.loose 4; have X2 := Lib.hid hx; have Y2 := Lib.hid hy; clear hx hy hb b0 b1 b2 b3 b4)
          | (go_at_call 12; generalize hW3 : (((((w2.setCell ⟨w.heap.size + 1, 0, none⟩ (.int .u64 y.a)).setCell ⟨w.heap.size + 1, 1, none⟩ (.int .u64 0)).setCell ⟨w.heap.size + 1, 2, none⟩ (.int .u64 0)).setCell ⟨w.heap.size + 1, 3, none⟩ (.string ⟨#[]⟩)).setCell ⟨w.heap.size + 1, 4, none⟩ (.string ⟨#[]⟩)) = W3; have hsz : w2.heap.size = W3.heap.size := (by subst hW3; simp); have HX3 := Lib.hid (show AtP W3 w.heap.size x by subst hW3; exact AtP.other5 X2.out (Nat.ne_of_lt (Nat.lt_succ_self _)) _ _ _ _ _); have HY3 := Lib.hid (show AtP W3 (w.heap.size + 1) (V.bare y.a 0 0) by subst hW3; exact AtP.bare5 Y2.out y.a); have HBW3 := Lib.hid (show Below w.heap.size w W3 by subst hW3; exact up_store5 HB2.out (Nat.le_succ _) _ _ _ _ _); clear hW3 c0 c1 c2 c3 c4 d0 d1 d2 d3 d4 l0 l1 l2 l3 l4; (with_reducible refine (svGood_one_at _ W3 _ x false hsz HZX HL).mono ?_); rintro e w3 ⟨rfl, hb⟩; have HB3 := Lib.hid (Below.up HBW3.out hb); have hx : AtP w3 w.heap.size x := AtP.below HX3.out hb; have hy : AtP w3 (w.heap.size + 1) (V.bare y.a 0 0) := AtP.below HY3.out hb; obtain ⟨e0, e1, e2, e3, e4⟩ := hx.cells; have X3 := Lib.hid hx; have Y3 := Lib.hid hy; clear hx hy hb hsz))
        go_ret
        exact ⟨rfl, HB3.out⟩
      | true =>
        have HL := Lib.hid hl
        have GX := Lib.hid (V.law_pGood hl)
        clear hl
        cases hp : x.plain with
        | false =>
          have HPL := Lib.hid hp
          clear hp
          go_enter Tryd.func5, Tryd.ntmps5
          go_wp2_with (first
            | (go_at_call 11; (with_reducible refine (zz_x x true _ h1 h2 HFX).mono ?_); rintro e w1 ⟨rfl, hb⟩; have HB1 := Lib.hid (Below.up (w := w) (by (repeat (first | exact Below.refl _ _ | apply Below.drew | (apply below_alloc_on (Nat.le_refl _))))) hb); have hx : AtP w1 w.heap.size x := AtP.below (heap_alloc_some (alloc_at _ _ _ rfl)) hb; have hy : AtP w1 (w.heap.size + 1) y := AtP.below (alloc_at _ _ _ (by simp)) hb; obtain ⟨b0, b1, b2, b3, b4⟩ := hy.cells; have X1 := Lib.hid hx; have Y1 := Lib.hid hy; clear hx hy hb)
            | (go_at_call 11; (with_reducible refine (zz_x y true _ h3 h4 HFY).mono ?_); rintro e w2 ⟨rfl, hb⟩; have HB2 := Lib.hid (Below.up HB1.out hb); have hx : AtP w2 w.heap.size x := X1.out.below hb; have hy : AtP w2 (w.heap.size + 1) y := Y1.out.below hb; obtain ⟨c0, c1, c2, c3, c4⟩ := hx.cells; obtain ⟨d0, d1, d2, d3, d4⟩ := hy.cells; have l0 := hy.loose 0; have l1 := hy.loose 1; have l2 := hy.loose 2; have l3 := hy.loose 3; have l4 := hy.loose 4; have X2 := Lib.hid hx; have Y2 := Lib.hid hy; clear hx hy hb b0 b1 b2 b3 b4)
            | (go_at_call 12; generalize hW3 : (((((w2.setCell ⟨w.heap.size + 1, 0, none⟩ (.int .u64 y.a)).setCell ⟨w.heap.size + 1, 1, none⟩ (.int .u64 0)).setCell ⟨w.heap.size + 1, 2, none⟩ (.int .u64 0)).setCell ⟨w.heap.size + 1, 3, none⟩ (.string ⟨#[]⟩)).setCell ⟨w.heap.size + 1, 4, none⟩ (.string ⟨#[]⟩)) = W3; have hsz : w2.heap.size = W3.heap.size := (by subst hW3; simp); have HX3 := Lib.hid (show AtP W3 w.heap.size x by subst hW3; exact AtP.other5 X2.out (Nat.ne_of_lt (Nat.lt_succ_self _)) _ _ _ _ _); have HY3 := Lib.hid (show AtP W3 (w.heap.size + 1) (V.bare y.a 0 0) by subst hW3; exact AtP.bare5 Y2.out y.a); have HBW3 := Lib.hid (show Below w.heap.size w W3 by subst hW3; exact up_store5 HB2.out (Nat.le_succ _) _ _ _ _ _); clear hW3 c0 c1 c2 c3 c4 d0 d1 d2 d3 d4 l0 l1 l2 l3 l4; (with_reducible refine (svGood_one_at _ W3 _ x true hsz HZX HL).mono ?_); rintro e w3 ⟨rfl, hb⟩; have HB3 := Lib.hid (Below.up HBW3.out hb); have hx : AtP w3 w.heap.size x := AtP.below HX3.out hb; have hy : AtP w3 (w.heap.size + 1) (V.bare y.a 0 0) := AtP.below HY3.out hb; obtain ⟨e0, e1, e2, e3, e4⟩ := hx.cells; have X3 := Lib.hid hx; have Y3 := Lib.hid hy; clear hx hy hb hsz)
            | (go_at_call 21; (with_reducible refine (plain_is x false _ HZX.out.1 HZX.out.2 HPL).mono ?_); rintro e w4 ⟨rfl, hb⟩; have HB4 := Lib.hid (Below.up HB3.out hb); have hx : AtP w4 w.heap.size x := X3.out.below hb; obtain ⟨f0, f1, f2, f3, f4⟩ := hx.cells; have X4 := Lib.hid hx; have Y4 := Lib.hid (Y3.out.below hb); clear hx hb e0 e1 e2 e3 e4))
          go_ret
          exact ⟨rfl, HB4.out⟩
        | true =>
          have HPL := Lib.hid hp
          have HMX := Lib.hid (V.plain_lt hp)
          clear hp
          have GZ := Lib.hid (V.bare_pGood (x.a + 1) 0 0)
          have GU := Lib.hid (V.bare_pGood y.a 0 0)
          have HZZ : (V.bare (x.a + 1) 0 0).p.size ≤ 2147483647 := by show (0 : Nat) ≤ _; omega
          have HZU : (V.bare y.a 0 0).p.size ≤ 2147483647 := by show (0 : Nat) ≤ _; omega
          have HL1 := Lib.hid (decide_eq_true (inc_above x))
          by_cases he : M.bs x.p = []
          · have hs := empty_toList he
            obtain ⟨r, hr⟩ : ∃ r, decide (x.cmp (V.bare y.a 0 0) < 0) = r := ⟨_, rfl⟩
            have HL2 := Lib.hid hr
            have HL3 := Lib.hid ((inc_least x y.a (fun h => h.1 he)).symm.trans hr)
            clear he hr
            go_enter Tryd.func5, Tryd.ntmps5
            go_wp2_with (first
              | (go_at_call 11; (with_reducible refine (zz_x x true _ h1 h2 HFX).mono ?_); rintro e w1 ⟨rfl, hb⟩; have HB1 := Lib.hid (Below.up (w := w) (by (repeat (first | exact Below.refl _ _ | apply Below.drew | (apply below_alloc_on (Nat.le_refl _))))) hb); have hx : AtP w1 w.heap.size x := AtP.below (heap_alloc_some (alloc_at _ _ _ rfl)) hb; have hy : AtP w1 (w.heap.size + 1) y := AtP.below (alloc_at _ _ _ (by simp)) hb; obtain ⟨b0, b1, b2, b3, b4⟩ := hy.cells; have X1 := Lib.hid hx; have Y1 := Lib.hid hy; clear hx hy hb)
              | (go_at_call 11; (with_reducible refine (zz_x y true _ h3 h4 HFY).mono ?_); rintro e w2 ⟨rfl, hb⟩; have HB2 := Lib.hid (Below.up HB1.out hb); have hx : AtP w2 w.heap.size x := X1.out.below hb; have hy : AtP w2 (w.heap.size + 1) y := Y1.out.below hb; obtain ⟨c0, c1, c2, c3, c4⟩ := hx.cells; obtain ⟨d0, d1, d2, d3, d4⟩ := hy.cells; have l0 := hy.loose 0; have l1 := hy.loose 1; have l2 := hy.loose 2; have l3 := hy.loose 3; have l4 := hy.loose 4; have X2 := Lib.hid hx; have Y2 := Lib.hid hy; clear hx hy hb b0 b1 b2 b3 b4)
              | (go_at_call 12; generalize hW3 : (((((w2.setCell ⟨w.heap.size + 1, 0, none⟩ (.int .u64 y.a)).setCell ⟨w.heap.size + 1, 1, none⟩ (.int .u64 0)).setCell ⟨w.heap.size + 1, 2, none⟩ (.int .u64 0)).setCell ⟨w.heap.size + 1, 3, none⟩ (.string ⟨#[]⟩)).setCell ⟨w.heap.size + 1, 4, none⟩ (.string ⟨#[]⟩)) = W3; have hsz : w2.heap.size = W3.heap.size := (by subst hW3; simp); have HX3 := Lib.hid (show AtP W3 w.heap.size x by subst hW3; exact AtP.other5 X2.out (Nat.ne_of_lt (Nat.lt_succ_self _)) _ _ _ _ _); have HY3 := Lib.hid (show AtP W3 (w.heap.size + 1) (V.bare y.a 0 0) by subst hW3; exact AtP.bare5 Y2.out y.a); have HBW3 := Lib.hid (show Below w.heap.size w W3 by subst hW3; exact up_store5 HB2.out (Nat.le_succ _) _ _ _ _ _); clear hW3 c0 c1 c2 c3 c4 d0 d1 d2 d3 d4 l0 l1 l2 l3 l4; (with_reducible refine (svGood_one_at _ W3 _ x true hsz HZX HL).mono ?_); rintro e w3 ⟨rfl, hb⟩; have HB3 := Lib.hid (Below.up HBW3.out hb); have hx : AtP w3 w.heap.size x := AtP.below HX3.out hb; have hy : AtP w3 (w.heap.size + 1) (V.bare y.a 0 0) := AtP.below HY3.out hb; obtain ⟨e0, e1, e2, e3, e4⟩ := hx.cells; have X3 := Lib.hid hx; have Y3 := Lib.hid hy; clear hx hy hb hsz)
              | (go_at_call 21; (with_reducible refine (plain_is x true _ HZX.out.1 HZX.out.2 HPL).mono ?_); rintro e w4 ⟨rfl, hb⟩; have HB4 := Lib.hid (Below.up HB3.out hb); have hx : AtP w4 w.heap.size x := X3.out.below hb; obtain ⟨f0, f1, f2, f3, f4⟩ := hx.cells; have X4 := Lib.hid hx; have Y4 := Lib.hid (Y3.out.below hb); clear hx hb e0 e1 e2 e3 e4)
              | (go_at_call 22; (with_reducible refine (versionIncMajor_any x _ HU.out HMX.out (HT.out.below HB4.out)).mono ?_); rintro e w5 ⟨rfl, hb⟩; simp only [V.v]; have HB5 := Lib.hid (Below.up HB4.out hb); have X5 := Lib.hid (X4.out.below hb); have Y5 := Lib.hid (Y4.out.below hb); clear hb f0 f1 f2 f3 f4))
            have hC : AtP (w5.alloc (V.pc (V.bare (x.a + 1) 0 0))) w5.heap.size (V.bare (x.a + 1) 0 0) := alloc_at _ _ _ rfl
            have hD : AtP (w5.alloc (V.pc (V.bare (x.a + 1) 0 0))) w.heap.size x := AtP.below X5.out (below_alloc _ _)
            have hE : AtP (w5.alloc (V.pc (V.bare (x.a + 1) 0 0))) (w.heap.size + 1) (V.bare y.a 0 0) := AtP.below Y5.out (below_alloc _ _)
            have HB6 := Lib.hid (Below.up HB5.out (below_alloc _ (V.pc (V.bare (x.a + 1) 0 0))))
            generalize w5.heap.size = N5 at *
            change Code.wp _ _ _ _ (w5.alloc (V.pc (V.bare (x.a + 1) 0 0)))
            generalize (w5.alloc (V.pc (V.bare (x.a + 1) 0 0))) = W at *
            obtain ⟨m0, m1, m2, m3, m4⟩ := hC.cells
            obtain ⟨n0, n1, n2, n3, n4⟩ := hD.cells
            obtain ⟨o0, o1, o2, o3, o4⟩ := hE.cells
            clear hC hD hE
            generalize V.bare (x.a + 1) 0 0 = z at *
            generalize V.bare y.a 0 0 = u at *
            go_region_held3 (fun w' => w'.cell? ⟨N5, 0, none⟩ = some (.int .u64 z.a) ∧ w'.cell? ⟨N5, 1, none⟩ = some (.int .u64 z.b) ∧ w'.cell? ⟨N5, 2, none⟩ = some (.int .u64 z.c) ∧ w'.cell? ⟨N5, 3, none⟩ = some (.string z.p) ∧ w'.cell? ⟨N5, 4, none⟩ = some (.string z.m) ∧ w'.cell? ⟨w.heap.size, 0, none⟩ = some (.int .u64 x.a) ∧ w'.cell? ⟨w.heap.size, 1, none⟩ = some (.int .u64 x.b) ∧ w'.cell? ⟨w.heap.size, 2, none⟩ = some (.int .u64 x.c) ∧ w'.cell? ⟨w.heap.size, 3, none⟩ = some (.string x.p) ∧ w'.cell? ⟨w.heap.size, 4, none⟩ = some (.string x.m) ∧ w'.cell? ⟨w.heap.size + 1, 0, none⟩ = some (.int .u64 u.a) ∧ w'.cell? ⟨w.heap.size + 1, 1, none⟩ = some (.int .u64 u.b) ∧ w'.cell? ⟨w.heap.size + 1, 2, none⟩ = some (.int .u64 u.c) ∧ w'.cell? ⟨w.heap.size + 1, 3, none⟩ = some (.string u.p) ∧ w'.cell? ⟨w.heap.size + 1, 4, none⟩ = some (.string u.m)) (first | (refine ⟨?_, ?_, ?_, ?_, ?_, ?_, ?_, ?_, ?_, ?_, ?_, ?_, ?_, ?_, ?_⟩ <;> (repeat (first | with_reducible assumption | with_reducible apply cell_alloc_some | with_reducible apply cell_drew_some | with_reducible refine cell_below (by with_reducible assumption) ?_ | with_reducible refine cell_set_other (by omega) ?_))) | fail) (first
              | (go_at_call 23; (with_reducible refine (vLess_x x z true _ GX.out GZ.out (HN.out.below (Below.up HB6.out (by (repeat (first | exact Below.refl _ _ | apply Below.drew | (apply below_alloc_on (Nat.le_refl _))))))) HZX.out.1 HZZ HL1).mono ?_); rintro e w6 ⟨rfl, hb6⟩; have HB7 := Lib.hid (Below.up (w := W) (by (repeat (first | exact Below.refl _ _ | apply Below.drew | (apply below_alloc_on (Nat.le_refl _))))) hb6))
              | (go_at_call 23; (with_reducible refine (vLess_x x u r _ GX.out GU.out (HN.out.below (Below.up HB6.out (Below.up HB7.out (by (repeat (first | exact Below.refl _ _ | apply Below.drew | (apply below_alloc_on (Nat.le_refl _)))))))) HZX.out.1 HZU HL2).mono ?_); rintro e w7 ⟨rfl, hb7⟩; have HB8 := Lib.hid (Below.up HB7.out (Below.up (w := w6) (by (repeat (first | exact Below.refl _ _ | apply Below.drew | (apply below_alloc_on (Nat.le_refl _))))) hb7)))
              | (go_at_call 24; (with_reducible refine (vLessEqual_x z u r _ GZ.out GU.out (HN.out.below (Below.up HB6.out (Below.up HB8.out (by (repeat (first | exact Below.refl _ _ | apply Below.drew | (apply below_alloc_on (Nat.le_refl _)))))))) HZZ HZU HL3).mono ?_); rintro e w8 ⟨rfl, hb8⟩; have HB9 := Lib.hid (Below.up HB8.out (Below.up (w := w7) (by (repeat (first | exact Below.refl _ _ | apply Below.drew | (apply below_alloc_on (Nat.le_refl _))))) hb8)))
              | fail)
            go_wp2
            go_ret
            exact ⟨rfl, Below.up HB6.out HB9.out⟩
          · have hs := nonempty_toList he
            by_cases hb : x.b = 0
            · by_cases hc : x.c = 0
              · have i1 : ((x.b : Int) == 0) = true := by rw [hb]; rfl
                have i2 : ((x.c : Int) == 0) = true := by rw [hc]; rfl
                clear hb hc he
                go_enter Tryd.func5, Tryd.ntmps5
                go_wp2_with (first
                  | (go_at_call 11; (with_reducible refine (zz_x x true _ h1 h2 HFX).mono ?_); rintro e w1 ⟨rfl, hb⟩; have HB1 := Lib.hid (Below.up (w := w) (by (repeat (first | exact Below.refl _ _ | apply Below.drew | (apply below_alloc_on (Nat.le_refl _))))) hb); have hx : AtP w1 w.heap.size x := AtP.below (heap_alloc_some (alloc_at _ _ _ rfl)) hb; have hy : AtP w1 (w.heap.size + 1) y := AtP.below (alloc_at _ _ _ (by simp)) hb; obtain ⟨b0, b1, b2, b3, b4⟩ := hy.cells; have X1 := Lib.hid hx; have Y1 := Lib.hid hy; clear hx hy hb)
                  | (go_at_call 11; (with_reducible refine (zz_x y true _ h3 h4 HFY).mono ?_); rintro e w2 ⟨rfl, hb⟩; have HB2 := Lib.hid (Below.up HB1.out hb); have hx : AtP w2 w.heap.size x := X1.out.below hb; have hy : AtP w2 (w.heap.size + 1) y := Y1.out.below hb; obtain ⟨c0, c1, c2, c3, c4⟩ := hx.cells; obtain ⟨d0, d1, d2, d3, d4⟩ := hy.cells; have l0 := hy.loose 0; have l1 := hy.loose 1; have l2 := hy.loose 2; have l3 := hy.loose 3; have l4 := hy.loose 4; have X2 := Lib.hid hx; have Y2 := Lib.hid hy; clear hx hy hb b0 b1 b2 b3 b4)
                  | (go_at_call 12; generalize hW3 : (((((w2.setCell ⟨w.heap.size + 1, 0, none⟩ (.int .u64 y.a)).setCell ⟨w.heap.size + 1, 1, none⟩ (.int .u64 0)).setCell ⟨w.heap.size + 1, 2, none⟩ (.int .u64 0)).setCell ⟨w.heap.size + 1, 3, none⟩ (.string ⟨#[]⟩)).setCell ⟨w.heap.size + 1, 4, none⟩ (.string ⟨#[]⟩)) = W3; have hsz : w2.heap.size = W3.heap.size := (by subst hW3; simp); have HX3 := Lib.hid (show AtP W3 w.heap.size x by subst hW3; exact AtP.other5 X2.out (Nat.ne_of_lt (Nat.lt_succ_self _)) _ _ _ _ _); have HY3 := Lib.hid (show AtP W3 (w.heap.size + 1) (V.bare y.a 0 0) by subst hW3; exact AtP.bare5 Y2.out y.a); have HBW3 := Lib.hid (show Below w.heap.size w W3 by subst hW3; exact up_store5 HB2.out (Nat.le_succ _) _ _ _ _ _); clear hW3 c0 c1 c2 c3 c4 d0 d1 d2 d3 d4 l0 l1 l2 l3 l4; (with_reducible refine (svGood_one_at _ W3 _ x true hsz HZX HL).mono ?_); rintro e w3 ⟨rfl, hb⟩; have HB3 := Lib.hid (Below.up HBW3.out hb); have hx : AtP w3 w.heap.size x := AtP.below HX3.out hb; have hy : AtP w3 (w.heap.size + 1) (V.bare y.a 0 0) := AtP.below HY3.out hb; obtain ⟨e0, e1, e2, e3, e4⟩ := hx.cells; have X3 := Lib.hid hx; have Y3 := Lib.hid hy; clear hx hy hb hsz)
                  | (go_at_call 21; (with_reducible refine (plain_is x true _ HZX.out.1 HZX.out.2 HPL).mono ?_); rintro e w4 ⟨rfl, hb⟩; have HB4 := Lib.hid (Below.up HB3.out hb); have hx : AtP w4 w.heap.size x := X3.out.below hb; obtain ⟨f0, f1, f2, f3, f4⟩ := hx.cells; have X4 := Lib.hid hx; have Y4 := Lib.hid (Y3.out.below hb); clear hx hb e0 e1 e2 e3 e4))
                go_ret
                exact ⟨rfl, HB4.out⟩
              · have i1 : ((x.b : Int) == 0) = true := by rw [hb]; rfl
                have i2 : ((x.c : Int) == 0) = false := by simpa using hc
                obtain ⟨r, hr⟩ : ∃ r, decide (x.cmp (V.bare y.a 0 0) < 0) = r := ⟨_, rfl⟩
                have HL2 := Lib.hid hr
                have HL3 := Lib.hid ((inc_least x y.a (fun h => hc h.2.2)).symm.trans hr)
                clear hb hc he hr
                go_enter Tryd.func5, Tryd.ntmps5
                go_wp2_with (first
                  | (go_at_call 11; (with_reducible refine (zz_x x true _ h1 h2 HFX).mono ?_); rintro e w1 ⟨rfl, hb⟩; have HB1 := Lib.hid (Below.up (w := w) (by (repeat (first | exact Below.refl _ _ | apply Below.drew | (apply below_alloc_on (Nat.le_refl _))))) hb); have hx : AtP w1 w.heap.size x := AtP.below (heap_alloc_some (alloc_at _ _ _ rfl)) hb; have hy : AtP w1 (w.heap.size + 1) y := AtP.below (alloc_at _ _ _ (by simp)) hb; obtain ⟨b0, b1, b2, b3, b4⟩ := hy.cells; have X1 := Lib.hid hx; have Y1 := Lib.hid hy; clear hx hy hb)
                  | (go_at_call 11; (with_reducible refine (zz_x y true _ h3 h4 HFY).mono ?_); rintro e w2 ⟨rfl, hb⟩; have HB2 := Lib.hid (Below.up HB1.out hb); have hx : AtP w2 w.heap.size x := X1.out.below hb; have hy : AtP w2 (w.heap.size + 1) y := Y1.out.below hb; obtain ⟨c0, c1, c2, c3, c4⟩ := hx.cells; obtain ⟨d0, d1, d2, d3, d4⟩ := hy.cells; have l0 := hy.loose 0; have l1 := hy.loose 1; have l2 := hy.loose 2; have l3 := hy.loose 3; have l4 := hy.loose 4; have X2 := Lib.hid hx; have Y2 := Lib.hid hy; clear hx hy hb b0 b1 b2 b3 b4)
                  | (go_at_call 12; generalize hW3 : (((((w2.setCell ⟨w.heap.size + 1, 0, none⟩ (.int .u64 y.a)).setCell ⟨w.heap.size + 1, 1, none⟩ (.int .u64 0)).setCell ⟨w.heap.size + 1, 2, none⟩ (.int .u64 0)).setCell ⟨w.heap.size + 1, 3, none⟩ (.string ⟨#[]⟩)).setCell ⟨w.heap.size + 1, 4, none⟩ (.string ⟨#[]⟩)) = W3; have hsz : w2.heap.size = W3.heap.size := (by subst hW3; simp); have HX3 := Lib.hid (show AtP W3 w.heap.size x by subst hW3; exact AtP.other5 X2.out (Nat.ne_of_lt (Nat.lt_succ_self _)) _ _ _ _ _); have HY3 := Lib.hid (show AtP W3 (w.heap.size + 1) (V.bare y.a 0 0) by subst hW3; exact AtP.bare5 Y2.out y.a); have HBW3 := Lib.hid (show Below w.heap.size w W3 by subst hW3; exact up_store5 HB2.out (Nat.le_succ _) _ _ _ _ _); clear hW3 c0 c1 c2 c3 c4 d0 d1 d2 d3 d4 l0 l1 l2 l3 l4; (with_reducible refine (svGood_one_at _ W3 _ x true hsz HZX HL).mono ?_); rintro e w3 ⟨rfl, hb⟩; have HB3 := Lib.hid (Below.up HBW3.out hb); have hx : AtP w3 w.heap.size x := AtP.below HX3.out hb; have hy : AtP w3 (w.heap.size + 1) (V.bare y.a 0 0) := AtP.below HY3.out hb; obtain ⟨e0, e1, e2, e3, e4⟩ := hx.cells; have X3 := Lib.hid hx; have Y3 := Lib.hid hy; clear hx hy hb hsz)
                  | (go_at_call 21; (with_reducible refine (plain_is x true _ HZX.out.1 HZX.out.2 HPL).mono ?_); rintro e w4 ⟨rfl, hb⟩; have HB4 := Lib.hid (Below.up HB3.out hb); have hx : AtP w4 w.heap.size x := X3.out.below hb; obtain ⟨f0, f1, f2, f3, f4⟩ := hx.cells; have X4 := Lib.hid hx; have Y4 := Lib.hid (Y3.out.below hb); clear hx hb e0 e1 e2 e3 e4)
                  | (go_at_call 22; (with_reducible refine (versionIncMajor_any x _ HU.out HMX.out (HT.out.below HB4.out)).mono ?_); rintro e w5 ⟨rfl, hb⟩; simp only [V.v]; have HB5 := Lib.hid (Below.up HB4.out hb); have X5 := Lib.hid (X4.out.below hb); have Y5 := Lib.hid (Y4.out.below hb); clear hb f0 f1 f2 f3 f4))
                have hC : AtP (w5.alloc (V.pc (V.bare (x.a + 1) 0 0))) w5.heap.size (V.bare (x.a + 1) 0 0) := alloc_at _ _ _ rfl
                have hD : AtP (w5.alloc (V.pc (V.bare (x.a + 1) 0 0))) w.heap.size x := AtP.below X5.out (below_alloc _ _)
                have hE : AtP (w5.alloc (V.pc (V.bare (x.a + 1) 0 0))) (w.heap.size + 1) (V.bare y.a 0 0) := AtP.below Y5.out (below_alloc _ _)
                have HB6 := Lib.hid (Below.up HB5.out (below_alloc _ (V.pc (V.bare (x.a + 1) 0 0))))
                generalize w5.heap.size = N5 at *
                change Code.wp _ _ _ _ (w5.alloc (V.pc (V.bare (x.a + 1) 0 0)))
                generalize (w5.alloc (V.pc (V.bare (x.a + 1) 0 0))) = W at *
                obtain ⟨m0, m1, m2, m3, m4⟩ := hC.cells
                obtain ⟨n0, n1, n2, n3, n4⟩ := hD.cells
                obtain ⟨o0, o1, o2, o3, o4⟩ := hE.cells
                clear hC hD hE
                generalize V.bare (x.a + 1) 0 0 = z at *
                generalize V.bare y.a 0 0 = u at *
                go_region_held3 (fun w' => w'.cell? ⟨N5, 0, none⟩ = some (.int .u64 z.a) ∧ w'.cell? ⟨N5, 1, none⟩ = some (.int .u64 z.b) ∧ w'.cell? ⟨N5, 2, none⟩ = some (.int .u64 z.c) ∧ w'.cell? ⟨N5, 3, none⟩ = some (.string z.p) ∧ w'.cell? ⟨N5, 4, none⟩ = some (.string z.m) ∧ w'.cell? ⟨w.heap.size, 0, none⟩ = some (.int .u64 x.a) ∧ w'.cell? ⟨w.heap.size, 1, none⟩ = some (.int .u64 x.b) ∧ w'.cell? ⟨w.heap.size, 2, none⟩ = some (.int .u64 x.c) ∧ w'.cell? ⟨w.heap.size, 3, none⟩ = some (.string x.p) ∧ w'.cell? ⟨w.heap.size, 4, none⟩ = some (.string x.m) ∧ w'.cell? ⟨w.heap.size + 1, 0, none⟩ = some (.int .u64 u.a) ∧ w'.cell? ⟨w.heap.size + 1, 1, none⟩ = some (.int .u64 u.b) ∧ w'.cell? ⟨w.heap.size + 1, 2, none⟩ = some (.int .u64 u.c) ∧ w'.cell? ⟨w.heap.size + 1, 3, none⟩ = some (.string u.p) ∧ w'.cell? ⟨w.heap.size + 1, 4, none⟩ = some (.string u.m)) (first | (refine ⟨?_, ?_, ?_, ?_, ?_, ?_, ?_, ?_, ?_, ?_, ?_, ?_, ?_, ?_, ?_⟩ <;> (repeat (first | with_reducible assumption | with_reducible apply cell_alloc_some | with_reducible apply cell_drew_some | with_reducible refine cell_below (by with_reducible assumption) ?_ | with_reducible refine cell_set_other (by omega) ?_))) | fail) (first
                  | (go_at_call 23; (with_reducible refine (vLess_x x z true _ GX.out GZ.out (HN.out.below (Below.up HB6.out (by (repeat (first | exact Below.refl _ _ | apply Below.drew | (apply below_alloc_on (Nat.le_refl _))))))) HZX.out.1 HZZ HL1).mono ?_); rintro e w6 ⟨rfl, hb6⟩; have HB7 := Lib.hid (Below.up (w := W) (by (repeat (first | exact Below.refl _ _ | apply Below.drew | (apply below_alloc_on (Nat.le_refl _))))) hb6))
                  | (go_at_call 23; (with_reducible refine (vLess_x x u r _ GX.out GU.out (HN.out.below (Below.up HB6.out (Below.up HB7.out (by (repeat (first | exact Below.refl _ _ | apply Below.drew | (apply below_alloc_on (Nat.le_refl _)))))))) HZX.out.1 HZU HL2).mono ?_); rintro e w7 ⟨rfl, hb7⟩; have HB8 := Lib.hid (Below.up HB7.out (Below.up (w := w6) (by (repeat (first | exact Below.refl _ _ | apply Below.drew | (apply below_alloc_on (Nat.le_refl _))))) hb7)))
                  | (go_at_call 24; (with_reducible refine (vLessEqual_x z u r _ GZ.out GU.out (HN.out.below (Below.up HB6.out (Below.up HB8.out (by (repeat (first | exact Below.refl _ _ | apply Below.drew | (apply below_alloc_on (Nat.le_refl _)))))))) HZZ HZU HL3).mono ?_); rintro e w8 ⟨rfl, hb8⟩; have HB9 := Lib.hid (Below.up HB8.out (Below.up (w := w7) (by (repeat (first | exact Below.refl _ _ | apply Below.drew | (apply below_alloc_on (Nat.le_refl _))))) hb8)))
                  | fail)
                go_wp2
                go_ret
                exact ⟨rfl, Below.up HB6.out HB9.out⟩
            · have i1 : ((x.b : Int) == 0) = false := by simpa using hb
              obtain ⟨r, hr⟩ : ∃ r, decide (x.cmp (V.bare y.a 0 0) < 0) = r := ⟨_, rfl⟩
              have HL2 := Lib.hid hr
              have HL3 := Lib.hid ((inc_least x y.a (fun h => hb h.2.1)).symm.trans hr)
              clear hb he hr
              go_enter Tryd.func5, Tryd.ntmps5
              go_wp2_with (first
                | (go_at_call 11; (with_reducible refine (zz_x x true _ h1 h2 HFX).mono ?_); rintro e w1 ⟨rfl, hb⟩; have HB1 := Lib.hid (Below.up (w := w) (by (repeat (first | exact Below.refl _ _ | apply Below.drew | (apply below_alloc_on (Nat.le_refl _))))) hb); have hx : AtP w1 w.heap.size x := AtP.below (heap_alloc_some (alloc_at _ _ _ rfl)) hb; have hy : AtP w1 (w.heap.size + 1) y := AtP.below (alloc_at _ _ _ (by simp)) hb; obtain ⟨b0, b1, b2, b3, b4⟩ := hy.cells; have X1 := Lib.hid hx; have Y1 := Lib.hid hy; clear hx hy hb)
                | (go_at_call 11; (with_reducible refine (zz_x y true _ h3 h4 HFY).mono ?_); rintro e w2 ⟨rfl, hb⟩; have HB2 := Lib.hid (Below.up HB1.out hb); have hx : AtP w2 w.heap.size x := X1.out.below hb; have hy : AtP w2 (w.heap.size + 1) y := Y1.out.below hb; obtain ⟨c0, c1, c2, c3, c4⟩ := hx.cells; obtain ⟨d0, d1, d2, d3, d4⟩ := hy.cells; have l0 := hy.loose 0; have l1 := hy.loose 1; have l2 := hy.loose 2; have l3 := hy.loose 3; have l4 := hy.loose 4; have X2 := Lib.hid hx; have Y2 := Lib.hid hy; clear hx hy hb b0 b1 b2 b3 b4)
                | (go_at_call 12; generalize hW3 : (((((w2.setCell ⟨w.heap.size + 1, 0, none⟩ (.int .u64 y.a)).setCell ⟨w.heap.size + 1, 1, none⟩ (.int .u64 0)).setCell ⟨w.heap.size + 1, 2, none⟩ (.int .u64 0)).setCell ⟨w.heap.size + 1, 3, none⟩ (.string ⟨#[]⟩)).setCell ⟨w.heap.size + 1, 4, none⟩ (.string ⟨#[]⟩)) = W3; have hsz : w2.heap.size = W3.heap.size := (by subst hW3; simp); have HX3 := Lib.hid (show AtP W3 w.heap.size x by subst hW3; exact AtP.other5 X2.out (Nat.ne_of_lt (Nat.lt_succ_self _)) _ _ _ _ _); have HY3 := Lib.hid (show AtP W3 (w.heap.size + 1) (V.bare y.a 0 0) by subst hW3; exact AtP.bare5 Y2.out y.a); have HBW3 := Lib.hid (show Below w.heap.size w W3 by subst hW3; exact up_store5 HB2.out (Nat.le_succ _) _ _ _ _ _); clear hW3 c0 c1 c2 c3 c4 d0 d1 d2 d3 d4 l0 l1 l2 l3 l4; (with_reducible refine (svGood_one_at _ W3 _ x true hsz HZX HL).mono ?_); rintro e w3 ⟨rfl, hb⟩; have HB3 := Lib.hid (Below.up HBW3.out hb); have hx : AtP w3 w.heap.size x := AtP.below HX3.out hb; have hy : AtP w3 (w.heap.size + 1) (V.bare y.a 0 0) := AtP.below HY3.out hb; obtain ⟨e0, e1, e2, e3, e4⟩ := hx.cells; have X3 := Lib.hid hx; have Y3 := Lib.hid hy; clear hx hy hb hsz)
                | (go_at_call 21; (with_reducible refine (plain_is x true _ HZX.out.1 HZX.out.2 HPL).mono ?_); rintro e w4 ⟨rfl, hb⟩; have HB4 := Lib.hid (Below.up HB3.out hb); have hx : AtP w4 w.heap.size x := X3.out.below hb; obtain ⟨f0, f1, f2, f3, f4⟩ := hx.cells; have X4 := Lib.hid hx; have Y4 := Lib.hid (Y3.out.below hb); clear hx hb e0 e1 e2 e3 e4)
                | (go_at_call 22; (with_reducible refine (versionIncMajor_any x _ HU.out HMX.out (HT.out.below HB4.out)).mono ?_); rintro e w5 ⟨rfl, hb⟩; simp only [V.v]; have HB5 := Lib.hid (Below.up HB4.out hb); have X5 := Lib.hid (X4.out.below hb); have Y5 := Lib.hid (Y4.out.below hb); clear hb f0 f1 f2 f3 f4))
              have hC : AtP (w5.alloc (V.pc (V.bare (x.a + 1) 0 0))) w5.heap.size (V.bare (x.a + 1) 0 0) := alloc_at _ _ _ rfl
              have hD : AtP (w5.alloc (V.pc (V.bare (x.a + 1) 0 0))) w.heap.size x := AtP.below X5.out (below_alloc _ _)
              have hE : AtP (w5.alloc (V.pc (V.bare (x.a + 1) 0 0))) (w.heap.size + 1) (V.bare y.a 0 0) := AtP.below Y5.out (below_alloc _ _)
              have HB6 := Lib.hid (Below.up HB5.out (below_alloc _ (V.pc (V.bare (x.a + 1) 0 0))))
              generalize w5.heap.size = N5 at *
              change Code.wp _ _ _ _ (w5.alloc (V.pc (V.bare (x.a + 1) 0 0)))
              generalize (w5.alloc (V.pc (V.bare (x.a + 1) 0 0))) = W at *
              obtain ⟨m0, m1, m2, m3, m4⟩ := hC.cells
              obtain ⟨n0, n1, n2, n3, n4⟩ := hD.cells
              obtain ⟨o0, o1, o2, o3, o4⟩ := hE.cells
              clear hC hD hE
              generalize V.bare (x.a + 1) 0 0 = z at *
              generalize V.bare y.a 0 0 = u at *
              go_region_held3 (fun w' => w'.cell? ⟨N5, 0, none⟩ = some (.int .u64 z.a) ∧ w'.cell? ⟨N5, 1, none⟩ = some (.int .u64 z.b) ∧ w'.cell? ⟨N5, 2, none⟩ = some (.int .u64 z.c) ∧ w'.cell? ⟨N5, 3, none⟩ = some (.string z.p) ∧ w'.cell? ⟨N5, 4, none⟩ = some (.string z.m) ∧ w'.cell? ⟨w.heap.size, 0, none⟩ = some (.int .u64 x.a) ∧ w'.cell? ⟨w.heap.size, 1, none⟩ = some (.int .u64 x.b) ∧ w'.cell? ⟨w.heap.size, 2, none⟩ = some (.int .u64 x.c) ∧ w'.cell? ⟨w.heap.size, 3, none⟩ = some (.string x.p) ∧ w'.cell? ⟨w.heap.size, 4, none⟩ = some (.string x.m) ∧ w'.cell? ⟨w.heap.size + 1, 0, none⟩ = some (.int .u64 u.a) ∧ w'.cell? ⟨w.heap.size + 1, 1, none⟩ = some (.int .u64 u.b) ∧ w'.cell? ⟨w.heap.size + 1, 2, none⟩ = some (.int .u64 u.c) ∧ w'.cell? ⟨w.heap.size + 1, 3, none⟩ = some (.string u.p) ∧ w'.cell? ⟨w.heap.size + 1, 4, none⟩ = some (.string u.m)) (first | (refine ⟨?_, ?_, ?_, ?_, ?_, ?_, ?_, ?_, ?_, ?_, ?_, ?_, ?_, ?_, ?_⟩ <;> (repeat (first | with_reducible assumption | with_reducible apply cell_alloc_some | with_reducible apply cell_drew_some | with_reducible refine cell_below (by with_reducible assumption) ?_ | with_reducible refine cell_set_other (by omega) ?_))) | fail) (first
                | (go_at_call 23; (with_reducible refine (vLess_x x z true _ GX.out GZ.out (HN.out.below (Below.up HB6.out (by (repeat (first | exact Below.refl _ _ | apply Below.drew | (apply below_alloc_on (Nat.le_refl _))))))) HZX.out.1 HZZ HL1).mono ?_); rintro e w6 ⟨rfl, hb6⟩; have HB7 := Lib.hid (Below.up (w := W) (by (repeat (first | exact Below.refl _ _ | apply Below.drew | (apply below_alloc_on (Nat.le_refl _))))) hb6))
                | (go_at_call 23; (with_reducible refine (vLess_x x u r _ GX.out GU.out (HN.out.below (Below.up HB6.out (Below.up HB7.out (by (repeat (first | exact Below.refl _ _ | apply Below.drew | (apply below_alloc_on (Nat.le_refl _)))))))) HZX.out.1 HZU HL2).mono ?_); rintro e w7 ⟨rfl, hb7⟩; have HB8 := Lib.hid (Below.up HB7.out (Below.up (w := w6) (by (repeat (first | exact Below.refl _ _ | apply Below.drew | (apply below_alloc_on (Nat.le_refl _))))) hb7)))
                | (go_at_call 24; (with_reducible refine (vLessEqual_x z u r _ GZ.out GU.out (HN.out.below (Below.up HB6.out (Below.up HB8.out (by (repeat (first | exact Below.refl _ _ | apply Below.drew | (apply below_alloc_on (Nat.le_refl _)))))))) HZZ HZU HL3).mono ?_); rintro e w8 ⟨rfl, hb8⟩; have HB9 := Lib.hid (Below.up HB8.out (Below.up (w := w7) (by (repeat (first | exact Below.refl _ _ | apply Below.drew | (apply below_alloc_on (Nat.le_refl _))))) hb8)))
                | fail)
              go_wp2
              go_ret
              exact ⟨rfl, Below.up HB6.out HB9.out⟩
theorem incMajor_walk (x y : V) (w : World) (hE : NumErrs w ∧ Pow10 w) (hu : x.u64) (hz : x.p.size ≤ 140737488351232 ∧ x.m.size ≤ 140737488351232) (hu2 : y.u64) (hz2 : y.p.size ≤ 140737488351232 ∧ y.m.size ≤ 140737488351232) :
    Calls Tryd.prog 5 #[x.v, y.v] w fun e w' => e = .returned (.bool true) ∧ Below w.heap.size w w' :=
  incMajor_law x y w hE.1 hE.2 hu hz.1 hz.2 hz2.1 hz2.2
end Go.Proofs.YtopaileliohpdaaDoor
