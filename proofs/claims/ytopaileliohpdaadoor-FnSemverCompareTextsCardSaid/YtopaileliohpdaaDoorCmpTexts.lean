/-
  laws.FnSemverCompareTexts returns true for all texts.
-/
import Derived.Test.YtopaileliohpdaaDoorGramW
import Derived.Test.YtopaileliohpdaaDoorFirstLaw
import Derived.Test.YtopaileliohpdaaDoorBelowHW
namespace Go.Proofs.YtopaileliohpdaaDoor
open Go.RowKit
set_option maxRecDepth 100000
set_option linter.unusedVariables false

theorem specStrict_gram {s : M.Bs} {x : V} (h : M.specStrict s = some x) : M.gram s = some x ∧ s.length ≤ 256 := by
  unfold M.specStrict at h
  split at h
  · cases h
  · exact ⟨h, by omega⟩
theorem specStrict_strict {s : M.Bs} {x : V} (h : M.specStrict s = some x) : M.strict s = some x := M.gram_strict (specStrict_gram h).1 (specStrict_gram h).2
theorem specStrict_size {s : M.Bs} {x : V} (h : M.specStrict s = some x) : x.p.size ≤ 256 ∧ x.m.size ≤ 256 := by
  obtain ⟨hg, hl⟩ := specStrict_gram h
  obtain ⟨a, b, c, _, _, _, _, _, rfl⟩ := M.gram_three hg
  have h1 := cut2_len 45 (M.cut1 43 s)
  have h2 := cut1_len 43 s
  have h3 := cut2_len 43 s
  refine ⟨?_, ?_⟩
  · have : (M.toB (M.cut2 45 (M.cut1 43 s))).size = (M.cut2 45 (M.cut1 43 s)).length := by rw [← M.bs_length, M.bs_toB]
    show (M.toB (M.cut2 45 (M.cut1 43 s))).size ≤ 256
    omega
  · have : (M.toB (M.cut2 43 s)).size = (M.cut2 43 s).length := by rw [← M.bs_length, M.bs_toB]
    show (M.toB (M.cut2 43 s)).size ≤ 256
    omega
theorem V.good_pGood {x : V} (h : x.good = true) : x.pGood := by
  unfold V.good V.pOk at h
  rw [Bool.and_eq_true, Bool.or_eq_true] at h
  rcases h.1 with h | h
  · exact .inl (by simpa using h)
  · exact .inr h
theorem svShort_two_is (n : Nat) (w : World) (t : TypeId) (a b : ByteArray) (r : Bool) (hn : n = w.heap.size) (ha : a.size ≤ 140737488351232) (hb : b.size ≤ 140737488351232) (hr : Hid ((decide (a.size ≤ 65536) && decide (b.size ≤ 65536)) = r)) :
    Calls Tryd.prog 13 #[.slice (some ⟨n, 0, none⟩) 2 2] (w.alloc (.cells #[.string a, .string b] t)) fun e w' => e = .returned (.bool r) ∧ Below w.heap.size w w' := by
  have := svShort_two_at n w t a b hn ha hb
  rw [hr.out] at this
  exact this.mono fun e w' h => ⟨h.1, h.2 ▸ below_alloc _ _⟩
set_option maxHeartbeats 4000000 in
theorem compareTexts_law (a b : ByteArray) (w : World) (h : SErrs w) (z1 : a.size ≤ 140737488351232) (z2 : b.size ≤ 140737488351232) :
    Calls Tryd.prog 10 #[.string a, .string b] w fun e w' => e = .returned (.bool true) ∧ Below w.heap.size w w' := by
  have HE := Lib.hid h
  clear h
  by_cases y1 : (2147483647 : Int) < a.size
  · go_enter Tryd.func10, Tryd.ntmps10
    go_wp2_with fail
    go_ret
    exact ⟨rfl, Below.refl _ _⟩
  by_cases y2 : (2147483647 : Int) < b.size
  · go_enter Tryd.func10, Tryd.ntmps10
    go_wp2_with fail
    go_ret
    exact ⟨rfl, Below.refl _ _⟩
  have y1' : (a.size : Int) ≤ 2147483647 := by omega
  have y2' : (b.size : Int) ≤ 2147483647 := by omega
  have n1 : a.size ≤ 2147483647 := by omega
  have n2 : b.size ≤ 2147483647 := by omega
  clear y1 y2
  rcases hs : (decide (a.size ≤ 65536) && decide (b.size ≤ 65536)) with _ | _
  · have HS := Lib.hid hs
    clear hs
    go_enter Tryd.func10, Tryd.ntmps10
    go_wp2_with (go_at_call 13; (with_reducible refine (svShort_two_is _ _ _ a b false rfl z1 z2 HS).mono ?_); rintro e w1 ⟨rfl, hb⟩; have HB1 := Lib.hid hb; clear hb)
    go_ret
    exact ⟨rfl, HB1.out⟩
  have HS := Lib.hid hs
  clear hs
  rcases hx : M.specStrict (M.bs a) with _ | x <;> rcases hy : M.specStrict (M.bs b) with _ | y
  · have HX := Lib.hid hx
    have HY := Lib.hid hy
    clear hx hy
    go_enter Tryd.func10, Tryd.ntmps10
    go_wp2_with (first
      | (go_at_call 13; (with_reducible refine (svShort_two_is _ _ _ a b true rfl z1 z2 HS).mono ?_); rintro e w1 ⟨rfl, hb⟩; have HB1 := Lib.hid hb; clear hb)
      | (go_at_call 38; (with_reducible refine (specStrict_none a _ n1 HX).mono ?_); rintro e w2 ⟨rfl, hb⟩; have HB2 := Lib.hid (Below.up HB1.out hb); clear hb)
      | (go_at_call 38; (with_reducible refine (specStrict_none b _ n2 HY).mono ?_); rintro e w3 ⟨rfl, hb⟩; have HB3 := Lib.hid (Below.up HB2.out (Below.up (w := w2) (by (repeat (first | exact Below.refl _ _ | apply Below.drew | (apply below_alloc_on (Nat.le_refl _))))) hb)); clear hb))
    go_ret
    exact ⟨rfl, Below.up HB3.out (by (repeat (first | exact Below.refl _ _ | apply Below.drew | (apply below_alloc_on (Nat.le_refl _)))))⟩
  · have HX := Lib.hid hx
    have HY := Lib.hid hy
    clear hx hy
    go_enter Tryd.func10, Tryd.ntmps10
    go_wp2_with (first
      | (go_at_call 13; (with_reducible refine (svShort_two_is _ _ _ a b true rfl z1 z2 HS).mono ?_); rintro e w1 ⟨rfl, hb⟩; have HB1 := Lib.hid hb; clear hb)
      | (go_at_call 38; (with_reducible refine (specStrict_none a _ n1 HX).mono ?_); rintro e w2 ⟨rfl, hb⟩; have HB2 := Lib.hid (Below.up HB1.out hb); clear hb)
      | (go_at_call 38; (with_reducible refine (specStrict_some b y _ n2 HY).mono ?_); rintro e w3 ⟨rfl, hb⟩; have HB3 := Lib.hid (Below.up HB2.out (Below.up (w := w2) (by (repeat (first | exact Below.refl _ _ | apply Below.drew | (apply below_alloc_on (Nat.le_refl _))))) hb)); clear hb))
    go_ret
    exact ⟨rfl, Below.up HB3.out (by (repeat (first | exact Below.refl _ _ | apply Below.drew | (apply below_alloc_on (Nat.le_refl _)))))⟩
  · have HX := Lib.hid hx
    have HY := Lib.hid hy
    clear hx hy
    go_enter Tryd.func10, Tryd.ntmps10
    go_wp2_with (first
      | (go_at_call 13; (with_reducible refine (svShort_two_is _ _ _ a b true rfl z1 z2 HS).mono ?_); rintro e w1 ⟨rfl, hb⟩; have HB1 := Lib.hid hb; clear hb)
      | (go_at_call 38; (with_reducible refine (specStrict_some a x _ n1 HX).mono ?_); rintro e w2 ⟨rfl, hb⟩; have HB2 := Lib.hid (Below.up HB1.out hb); clear hb)
      | (go_at_call 38; (with_reducible refine (specStrict_none b _ n2 HY).mono ?_); rintro e w3 ⟨rfl, hb⟩; have HB3 := Lib.hid (Below.up HB2.out (Below.up (w := w2) (by (repeat (first | exact Below.refl _ _ | apply Below.drew | (apply below_alloc_on (Nat.le_refl _))))) hb)); clear hb))
    go_ret
    exact ⟨rfl, Below.up HB3.out (by (repeat (first | exact Below.refl _ _ | apply Below.drew | (apply below_alloc_on (Nat.le_refl _)))))⟩
  · have ZX := specStrict_size hx
    have ZY := specStrict_size hy
    have KX := Lib.hid (specStrict_strict hx)
    have KY := Lib.hid (specStrict_strict hy)
    have HX := Lib.hid hx
    have HY := Lib.hid hy
    have px : x.p.size ≤ 2147483647 := by omega
    have mx : x.m.size ≤ 2147483647 := by omega
    have py : y.p.size ≤ 2147483647 := by omega
    have my : y.m.size ≤ 2147483647 := by omega
    clear hx hy ZX ZY
    go_enter Tryd.func10, Tryd.ntmps10
    go_upto_region 6 with (first | (go_at_call 13; (with_reducible refine (svShort_two_is _ _ _ a b true rfl z1 z2 HS).mono ?_); rintro e w1 ⟨rfl, hb⟩; have HB1 := Lib.hid hb; clear hb) | (go_at_call 38; (with_reducible refine (specStrict_some a x _ n1 HX).mono ?_); rintro e w2 ⟨rfl, hb⟩; have HB2 := Lib.hid (Below.up HB1.out hb); clear hb))
    change Code.wp _ _ _ _ (w2.alloc (V.pc x))
    have A5 : Hid (AtP (w2.alloc (V.pc x)) w2.heap.size x) := Lib.hid (alloc_at _ _ _ rfl)
    have HW5 := Lib.hid (Below.up HB2.out (below_alloc _ (V.pc x)))
    generalize (w2.alloc (V.pc x)) = W5 at *
    generalize w2.heap.size = N5 at *
    go_upto_region 7 with (go_at_call 38; (with_reducible refine (specStrict_some b y _ n2 HY).mono ?_); rintro e w3 ⟨rfl, hb⟩; have A5b := Lib.hid (A5.out.below hb); have HB3 := Lib.hid (Below.up HW5.out hb); clear hb)
    change Code.wp _ _ _ _ (w3.alloc (V.pc y))
    have C7 : Hid (AtP (w3.alloc (V.pc y)) w3.heap.size y) := Lib.hid (alloc_at _ _ _ rfl)
    have HW7 := Lib.hid (Below.up HB3.out (below_alloc _ (V.pc y)))
    have C5 : Hid (AtP (w3.alloc (V.pc y)) N5 x) := Lib.hid (A5b.out.below (below_alloc _ _))
    generalize (w3.alloc (V.pc y)) = W7 at *
    generalize w3.heap.size = N7 at *
    obtain ⟨k00, k01, k02, k03, k04⟩ := C5.out.cells
    obtain ⟨k10, k11, k12, k13, k14⟩ := C7.out.cells
    go_upto_region 9 with (first
      | (go_at_call 39; (with_reducible refine (good_is x x.good _ px mx (Lib.hid rfl)).mono ?_); rintro e w8 ⟨rfl, hb⟩; clear k00 k01 k02 k03 k04 k10 k11 k12 k13 k14; have D5 := Lib.hid (C5.out.below hb); have D7 := Lib.hid (C7.out.below hb); have HB8 := Lib.hid (Below.up HW7.out hb); clear hb; obtain ⟨k10, k11, k12, k13, k14⟩ := D7.out.cells; rcases hg : x.good with _ | _; all_goals (have GX := Lib.hid hg; clear hg))
      | (go_at_call 39; (with_reducible refine (good_is y y.good _ py my (Lib.hid rfl)).mono ?_); rintro e w9 ⟨rfl, hb⟩; clear k10 k11 k12 k13 k14; have E5 := Lib.hid (D5.out.below hb); have E7 := Lib.hid (D7.out.below hb); have HB9 := Lib.hid (Below.up HB8.out hb); clear hb; rcases hg : y.good with _ | _; all_goals (have GY := Lib.hid hg; clear hg)))
    all_goals try (go_ret; first | exact ⟨rfl, HB9.out⟩ | exact ⟨rfl, HB8.out⟩)
    go_upto_region 10 with (go_at_call 37; (with_reducible refine (strictVersion_some a x _ (HE.out.below HB9.out) n1 KX).mono ?_); rintro e w10 ⟨rfl, hb⟩; have F5 := Lib.hid (E5.out.below hb); have F7 := Lib.hid (E7.out.below hb); have HB10 := Lib.hid (Below.up HB9.out hb); clear hb)
    change Code.wp _ _ _ _ (w10.alloc (V.pc x))
    have G10 : Hid (AtP (w10.alloc (V.pc x)) w10.heap.size x) := Lib.hid (alloc_at _ _ _ rfl)
    have HW10 := Lib.hid (Below.up HB10.out (below_alloc _ (V.pc x)))
    have G5 : Hid (AtP (w10.alloc (V.pc x)) N5 x) := Lib.hid (F5.out.below (below_alloc _ _))
    have G7 : Hid (AtP (w10.alloc (V.pc x)) N7 y) := Lib.hid (F7.out.below (below_alloc _ _))
    generalize (w10.alloc (V.pc x)) = W10 at *
    generalize w10.heap.size = N10 at *
    go_upto_region 11 with (go_at_call 37; (with_reducible refine (strictVersion_some b y _ (HE.out.below HW10.out) n2 KY).mono ?_); rintro e w11 ⟨rfl, hb⟩; have H5 := Lib.hid (G5.out.below hb); have H7 := Lib.hid (G7.out.below hb); have H10 := Lib.hid (G10.out.below hb); have HB11 := Lib.hid (Below.up HW10.out hb); clear hb)
    change Code.wp _ _ _ _ (w11.alloc (V.pc y))
    have J11 : Hid (AtP (w11.alloc (V.pc y)) w11.heap.size y) := Lib.hid (alloc_at _ _ _ rfl)
    have HW12 := Lib.hid (Below.up HB11.out (below_alloc _ (V.pc y)))
    have J5 : Hid (AtP (w11.alloc (V.pc y)) N5 x) := Lib.hid (H5.out.below (below_alloc _ _))
    have J7 : Hid (AtP (w11.alloc (V.pc y)) N7 y) := Lib.hid (H7.out.below (below_alloc _ _))
    have J10 : Hid (AtP (w11.alloc (V.pc y)) N10 x) := Lib.hid (H10.out.below (below_alloc _ _))
    generalize (w11.alloc (V.pc y)) = W12 at *
    generalize w11.heap.size = N11 at *
    obtain ⟨k00, k01, k02, k03, k04⟩ := J5.out.cells
    obtain ⟨k10, k11, k12, k13, k14⟩ := J7.out.cells
    obtain ⟨k20, k21, k22, k23, k24⟩ := J10.out.cells
    obtain ⟨k30, k31, k32, k33, k34⟩ := J11.out.cells
    obtain ⟨r, hr⟩ : ∃ r, x.cmp y = r := ⟨_, rfl⟩
    have HR := Lib.hid hr
    have PX := Lib.hid (V.good_pGood GX.out)
    have PY := Lib.hid (V.good_pGood GY.out)
    clear hr
    go_region_held3 (fun w' => w'.cell? ⟨N5, 0, none⟩ = some (.int .u64 x.a) ∧ w'.cell? ⟨N5, 1, none⟩ = some (.int .u64 x.b) ∧ w'.cell? ⟨N5, 2, none⟩ = some (.int .u64 x.c) ∧ w'.cell? ⟨N5, 3, none⟩ = some (.string x.p) ∧ w'.cell? ⟨N5, 4, none⟩ = some (.string x.m) ∧ w'.cell? ⟨N7, 0, none⟩ = some (.int .u64 y.a) ∧ w'.cell? ⟨N7, 1, none⟩ = some (.int .u64 y.b) ∧ w'.cell? ⟨N7, 2, none⟩ = some (.int .u64 y.c) ∧ w'.cell? ⟨N7, 3, none⟩ = some (.string y.p) ∧ w'.cell? ⟨N7, 4, none⟩ = some (.string y.m) ∧ w'.cell? ⟨N10, 0, none⟩ = some (.int .u64 x.a) ∧ w'.cell? ⟨N10, 1, none⟩ = some (.int .u64 x.b) ∧ w'.cell? ⟨N10, 2, none⟩ = some (.int .u64 x.c) ∧ w'.cell? ⟨N10, 3, none⟩ = some (.string x.p) ∧ w'.cell? ⟨N10, 4, none⟩ = some (.string x.m) ∧ w'.cell? ⟨N11, 0, none⟩ = some (.int .u64 y.a) ∧ w'.cell? ⟨N11, 1, none⟩ = some (.int .u64 y.b) ∧ w'.cell? ⟨N11, 2, none⟩ = some (.int .u64 y.c) ∧ w'.cell? ⟨N11, 3, none⟩ = some (.string y.p) ∧ w'.cell? ⟨N11, 4, none⟩ = some (.string y.m)) (first | (refine ⟨?_, ?_, ?_, ?_, ?_, ?_, ?_, ?_, ?_, ?_, ?_, ?_, ?_, ?_, ?_, ?_, ?_, ?_, ?_, ?_⟩ <;> (repeat (first | with_reducible assumption | with_reducible apply cell_alloc_some | with_reducible apply cell_drew_some | with_reducible refine cell_below (by with_reducible assumption) ?_ | with_reducible refine cell_set_other (by omega) ?_))) | fail) (first
      | (go_at_call 19; (with_reducible refine (vCompare_x x y r _ PX.out PY.out ((HE.out.below (Below.up HW12.out (by (repeat (first | exact Below.refl _ _ | apply Below.drew | (apply below_alloc_on (Nat.le_refl _))))))).num) px py HR).mono ?_); rintro e w13 ⟨rfl, hb13⟩; have HB13 := Lib.hid (Below.up (w := W12) (by (repeat (first | exact Below.refl _ _ | apply Below.drew | (apply below_alloc_on (Nat.le_refl _))))) hb13))
      | (go_at_call 40; (with_reducible refine (specCompare_is x y r _ px py HR).mono ?_); rintro e w14 ⟨rfl, hb14⟩; have HB14 := Lib.hid (Below.up HB13.out (Below.up (w := w13) (by (repeat (first | exact Below.refl _ _ | apply Below.drew | (apply below_alloc_on (Nat.le_refl _))))) hb14)))
      | fail)
    go_wp2
    go_ret
    exact ⟨ret_bool (by simp), Below.up HW12.out HB14.out⟩
theorem compareTexts_walk (a b : ByteArray) (w : World) (hE : SErrs w) (z1 : a.size ≤ 140737488351232) (z2 : b.size ≤ 140737488351232) :
    Calls Tryd.prog 10 #[.string a, .string b] w fun e w' => e = .returned (.bool true) ∧ Below w.heap.size w w' := compareTexts_law a b w hE z1 z2
end Go.Proofs.YtopaileliohpdaaDoor
