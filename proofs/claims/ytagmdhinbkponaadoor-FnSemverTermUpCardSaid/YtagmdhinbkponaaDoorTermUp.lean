/-
  laws.FnSemverTermUp returns true for all terms and versions.
-/
import Derived.Test.YtagmdhinbkponaaDoorSays
import Derived.Test.YtagmdhinbkponaaDoorBaseC
import Derived.Test.YtagmdhinbkponaaDoorIncLaw
namespace Go.Proofs.YtagmdhinbkponaaDoor
open Go.RowKit
set_option maxRecDepth 100000
set_option linter.unusedVariables false

theorem svGood_big2 (n : Nat) (w : World) (t : TypeId) (x y : V) (r : Bool) (hn : n = w.heap.size) (hz : Hid (x.p.size ≤ 2147483647 ∧ x.m.size ≤ 2147483647)) (hz2 : Hid (y.p.size ≤ 2147483647 ∧ y.m.size ≤ 2147483647)) (hr : Hid ((x.law && y.law) = r)) :
    Calls Tryd.prog 11 #[.slice (some ⟨n, 0, none⟩) 2 2] (w.alloc (.cells #[.int .u64 x.a, .int .u64 x.b, .int .u64 x.c, .string x.p, .string x.m, .int .u64 y.a, .int .u64 y.b, .int .u64 y.c, .string y.p, .string y.m] t)) fun e w' => e = .returned (.bool r) ∧ Below w.heap.size w w' :=
  svGood_two_at n w t x y r hn hz hz2 hr
theorem specNum3_is (x y : V) (r : Int) (w : World) (hr : Hid (x.nums3 y = r)) :
    Calls Tryd.prog 15 #[.agg #[.int .u64 x.a, .int .u64 x.b, .int .u64 x.c, .string x.p, .string x.m], .agg #[.int .u64 y.a, .int .u64 y.b, .int .u64 y.c, .string y.p, .string y.m], .int .i64 3] w fun e w' => e = .returned (.int .i64 r) ∧ Below w.heap.size w w' := by
  have := specNumbers_3 x y w
  rw [hr.out] at this
  exact this
theorem specCmp_is (x y : V) (r : Int) (w : World) (zx : x.p.size ≤ 2147483647) (zy : y.p.size ≤ 2147483647) (hr : Hid (x.cmp y = r)) :
    Calls Tryd.prog 12 #[.agg #[.int .u64 x.a, .int .u64 x.b, .int .u64 x.c, .string x.p, .string x.m], .agg #[.int .u64 y.a, .int .u64 y.b, .int .u64 y.c, .string y.p, .string y.m]] w fun e w' => e = .returned (.int .i64 r) ∧ Below w.heap.size w w' := by
  have := specCompare_any x y w zx zy
  rw [hr.out] at this
  exact this
/-- what the walk of the law keeps -/
structure USt (w wx : World) (t : T) (x y : V) : Prop where
  att : AtT wx w.heap.size t
  atx : AtP wx (w.heap.size + 1) x
  aty : AtP wx (w.heap.size + 2) y
  bel : Below w.heap.size w wx
theorem USt.below {w wx wy : World} {t : T} {x y : V} (h : USt w wx t x y) (b : Below wx.heap.size wx wy) : USt w wy t x y :=
  ⟨blk_below b h.att, h.atx.below b, h.aty.below b, Below.up h.bel b⟩
theorem T.patch_lt {t : T} (h : t.patch = true) : t.g < 3 := by
  have : t.g = 2 := by simpa [T.patch] using h
  omega
theorem USt.cells {w wx : World} {t : T} {x y : V} (h : USt w wx t x y) :
    (wx.cell? ⟨w.heap.size, 0, none⟩ = some (.int .i64 t.op) ∧ wx.cell? ⟨w.heap.size, 1, none⟩ = some (.int .i64 t.g) ∧ wx.cell? ⟨w.heap.size, 2, none⟩ = some (.int .u64 t.a) ∧ wx.cell? ⟨w.heap.size, 3, none⟩ = some (.int .u64 t.b) ∧ wx.cell? ⟨w.heap.size, 4, none⟩ = some (.int .u64 t.c) ∧ wx.cell? ⟨w.heap.size, 5, none⟩ = some (.string t.p)) ∧
    (wx.cell? ⟨w.heap.size + 1, 0, none⟩ = some (.int .u64 x.a) ∧ wx.cell? ⟨w.heap.size + 1, 1, none⟩ = some (.int .u64 x.b) ∧ wx.cell? ⟨w.heap.size + 1, 2, none⟩ = some (.int .u64 x.c) ∧ wx.cell? ⟨w.heap.size + 1, 3, none⟩ = some (.string x.p) ∧ wx.cell? ⟨w.heap.size + 1, 4, none⟩ = some (.string x.m)) ∧
    (wx.cell? ⟨w.heap.size + 1 + 1, 0, none⟩ = some (.int .u64 y.a) ∧ wx.cell? ⟨w.heap.size + 1 + 1, 1, none⟩ = some (.int .u64 y.b) ∧ wx.cell? ⟨w.heap.size + 1 + 1, 2, none⟩ = some (.int .u64 y.c) ∧ wx.cell? ⟨w.heap.size + 1 + 1, 3, none⟩ = some (.string y.p) ∧ wx.cell? ⟨w.heap.size + 1 + 1, 4, none⟩ = some (.string y.m)) :=
  ⟨h.att.cells, h.atx.cells, h.aty.cells⟩
theorem termHolds_k (t : T) (k : Int) (x : V) (pre r : Bool) (w : World) (hk : t.op = k) (hg : t.Good) (gx : x.pGood) (hn : NumErrs w) (zx : x.p.size ≤ 2147483647) (zy : t.p.size ≤ 2147483647) (hr : Hid ((x.inl pre && t.hold x) = r)) :
    Calls Tryd.prog 14 #[.agg #[.int .i64 k, .int .i64 t.g, .int .u64 t.a, .int .u64 t.b, .int .u64 t.c, .string t.p], .agg #[.int .u64 x.a, .int .u64 x.b, .int .u64 x.c, .string x.p, .string x.m], .bool pre] w fun e w' => e = .returned (.bool r) ∧ Below w.heap.size w w' := by
  subst hk
  exact termHolds_is t x pre r w hg.2.1 hg.1 (fun h => (hg.2.2.2.2.1 (T.patch_lt h)).2) gx hg.2.2.2.2.2.2.2 hn zx zy hr
theorem termHolds_v (t : T) (k : Int) (pre r : Bool) (w : World) (hk : t.op = k) (hg : t.Good) (hn : NumErrs w) (zy : t.p.size ≤ 2147483647) (hr : Hid ((t.ver.inl pre && t.hold t.ver) = r)) :
    Calls Tryd.prog 14 #[.agg #[.int .i64 k, .int .i64 t.g, .int .u64 t.a, .int .u64 t.b, .int .u64 t.c, .string t.p], .agg #[.int .u64 t.a, .int .u64 t.b, .int .u64 t.c, .string t.p, .string ⟨#[]⟩], .bool pre] w fun e w' => e = .returned (.bool r) ∧ Below w.heap.size w w' :=
  termHolds_k t k t.ver pre r w hk hg hg.2.2.2.2.2.2.2 hn zy zy hr
theorem hold_up_24 {t : T} {x y : V} (ho : t.op = 2 ∨ t.op = 4) (hxy : x.cmp y ≤ 0) (h : t.hold x = true) : t.hold y = true := by
  unfold T.hold at *
  rcases ho with ho | ho
  · rw [ho] at h ⊢
    exact above_up h hxy
  · rw [ho] at h ⊢
    have h : decide (x.cmp t.ver ≥ 0) = true := h
    have h1 := of_decide_eq_true h
    show decide (y.cmp t.ver ≥ 0) = true
    have h2 := V.ge_up (t := t.ver) (by omega : ¬ x.cmp t.ver < 0) hxy
    exact decide_eq_true (by omega)
theorem hold_up_67 {t : T} {x y : V} (ho : t.op = 6 ∨ t.op = 7) (hxy : x.cmp y ≤ 0) (hn : x.nums3 y = 0) (h : t.hold x = true) : t.hold y = true := by
  unfold T.hold at *
  rcases ho with ho | ho
  · rw [ho] at h ⊢
    exact tilde_up h hxy hn
  · rw [ho] at h ⊢
    exact caret_up h hxy hn
theorem hold_own_67 {t : T} (ho : t.op = 6 ∨ t.op = 7) : t.hold t.ver = true := by
  unfold T.hold
  rcases ho with ho | ho
  · rw [ho]; exact tilde_own t
  · rw [ho]; exact caret_own t
set_option maxHeartbeats 8000000 in
theorem termUp_law (t : T) (x y : V) (w : World) (hn : NumErrs w) (h0 : t.p.size ≤ 140737488351232) (h1 : x.p.size ≤ 140737488351232) (h2 : x.m.size ≤ 140737488351232) (h3 : y.p.size ≤ 140737488351232) (h4 : y.m.size ≤ 140737488351232) :
    Calls Tryd.prog 3 #[.agg #[.int .i64 t.op, .int .i64 t.g, .int .u64 t.a, .int .u64 t.b, .int .u64 t.c, .string t.p], .agg #[.int .u64 x.a, .int .u64 x.b, .int .u64 x.c, .string x.p, .string x.m], .agg #[.int .u64 y.a, .int .u64 y.b, .int .u64 y.c, .string y.p, .string y.m]] w fun e w' => e = .returned (.bool true) ∧ Below w.heap.size w w' := by
  have HN := Lib.hid hn
  obtain ⟨rc, hrc⟩ : ∃ r, x.cmp y = r := ⟨_, rfl⟩
  have HC := Lib.hid hrc
  clear hn hrc
  go_enter Tryd.func3, Tryd.ntmps3
  go_wp2_with fail
  have I : Hid (USt w (((w.alloc (.cells #[.int .i64 t.op, .int .i64 t.g, .int .u64 t.a, .int .u64 t.b, .int .u64 t.c, .string t.p] 24)).alloc (.cells #[.int .u64 x.a, .int .u64 x.b, .int .u64 x.c, .string x.p, .string x.m] 26)).alloc (.cells #[.int .u64 y.a, .int .u64 y.b, .int .u64 y.c, .string y.p, .string y.m] 26)) t x y) := Lib.hid ⟨heap_alloc_some (heap_alloc_some (alloc_at _ _ _ rfl)), heap_alloc_some (alloc_at _ _ _ (by simp)), alloc_at _ _ _ (by simp), by (repeat (first | exact Below.refl _ _ | apply Below.drew | (apply below_alloc_on (Nat.le_refl _))))⟩
  generalize (((w.alloc (.cells #[.int .i64 t.op, .int .i64 t.g, .int .u64 t.a, .int .u64 t.b, .int .u64 t.c, .string t.p] 24)).alloc (.cells #[.int .u64 x.a, .int .u64 x.b, .int .u64 x.c, .string x.p, .string x.m] 26)).alloc (.cells #[.int .u64 y.a, .int .u64 y.b, .int .u64 y.c, .string y.p, .string y.m] 26)) = W at *
  obtain ⟨⟨c0, c1, c2, c3, c4, c5⟩, ⟨d0, d1, d2, d3, d4⟩, ⟨e0, e1, e2, e3, e4⟩⟩ := I.out.cells
  go_upto_region 5 with (first
    | (go_at_call 8; (with_reducible refine (zzFits13_is t (decide (t.p.size ≤ 2147483647)) _ h0 (Lib.hid rfl)).mono ?_); rintro e w' ⟨rfl, hb⟩; clear c0 c1 c2 c3 c4 c5 d0 d1 d2 d3 d4 e0 e1 e2 e3 e4; replace I := Lib.hid (I.out.below hb); clear hb; obtain ⟨⟨c0, c1, c2, c3, c4, c5⟩, ⟨d0, d1, d2, d3, d4⟩, ⟨e0, e1, e2, e3, e4⟩⟩ := I.out.cells; rcases hf : decide (t.p.size ≤ 2147483647) with _ | _; all_goals (have HF0 := Lib.hid hf; clear hf))
    | (go_at_call 9; (with_reducible refine (zz_x x x.fits _ h1 h2 (Lib.hid rfl)).mono ?_); rintro e w' ⟨rfl, hb⟩; clear c0 c1 c2 c3 c4 c5 d0 d1 d2 d3 d4 e0 e1 e2 e3 e4; replace I := Lib.hid (I.out.below hb); clear hb; obtain ⟨⟨c0, c1, c2, c3, c4, c5⟩, ⟨d0, d1, d2, d3, d4⟩, ⟨e0, e1, e2, e3, e4⟩⟩ := I.out.cells; rcases hf : x.fits with _ | _; all_goals (have HF1 := Lib.hid hf; clear hf))
    | (go_at_call 9; (with_reducible refine (zz_x y y.fits _ h3 h4 (Lib.hid rfl)).mono ?_); rintro e w' ⟨rfl, hb⟩; clear c0 c1 c2 c3 c4 c5 d0 d1 d2 d3 d4 e0 e1 e2 e3 e4; replace I := Lib.hid (I.out.below hb); clear hb; obtain ⟨⟨c0, c1, c2, c3, c4, c5⟩, ⟨d0, d1, d2, d3, d4⟩, ⟨e0, e1, e2, e3, e4⟩⟩ := I.out.cells; rcases hf : y.fits with _ | _; all_goals (have HF2 := Lib.hid hf; clear hf))
    | (go_at_call 10; (with_reducible refine (goodTerm_is t t.goodB _ (of_decide_eq_true HF0.out) (Lib.hid rfl)).mono ?_); rintro e w' ⟨rfl, hb⟩; clear c0 c1 c2 c3 c4 c5 d0 d1 d2 d3 d4 e0 e1 e2 e3 e4; replace I := Lib.hid (I.out.below hb); clear hb; obtain ⟨⟨c0, c1, c2, c3, c4, c5⟩, ⟨d0, d1, d2, d3, d4⟩, ⟨e0, e1, e2, e3, e4⟩⟩ := I.out.cells; rcases hf : t.goodB with _ | _; all_goals (have HG := Lib.hid hf; clear hf))
    | (go_at_call 11; (with_reducible refine (svGood_big2 _ _ _ x y (x.law && y.law) rfl (Lib.hid (V.fits_le HF1.out)) (Lib.hid (V.fits_le HF2.out)) (Lib.hid rfl)).mono ?_); rintro e w' ⟨rfl, hb⟩; clear c0 c1 c2 c3 c4 c5 d0 d1 d2 d3 d4 e0 e1 e2 e3 e4; replace I := Lib.hid (I.out.below hb); clear hb; obtain ⟨⟨c0, c1, c2, c3, c4, c5⟩, ⟨d0, d1, d2, d3, d4⟩, ⟨e0, e1, e2, e3, e4⟩⟩ := I.out.cells; rcases hf : (x.law && y.law) with _ | _; all_goals (have HL := Lib.hid hf; clear hf))
    | (go_at_call 12; (with_reducible refine (specCmp_is x y rc _ (V.fits_le HF1.out).1 (V.fits_le HF2.out).1 HC).mono ?_); rintro e w' ⟨rfl, hb⟩; clear c0 c1 c2 c3 c4 c5 d0 d1 d2 d3 d4 e0 e1 e2 e3 e4; replace I := Lib.hid (I.out.below hb); clear hb; obtain ⟨⟨c0, c1, c2, c3, c4, c5⟩, ⟨d0, d1, d2, d3, d4⟩, ⟨e0, e1, e2, e3, e4⟩⟩ := I.out.cells))
  all_goals try (go_ret; exact ⟨rfl, I.out.bel⟩)
  have hle : rc ≤ 0 := (by assumption : (t.g == 0) = false ∧ rc ≤ 0).2
  have HLE := Lib.hid (show x.cmp y ≤ 0 by rw [HC.out]; exact hle)
  have HGD := Lib.hid ((T.goodB_iff t).1 HG.out)
  have hlw := HL.out
  rw [Bool.and_eq_true] at hlw
  have GX := Lib.hid (V.law_pGood hlw.1)
  have GY := Lib.hid (V.law_pGood hlw.2)
  have zt : t.p.size ≤ 2147483647 := of_decide_eq_true HF0.out
  have zx := (V.fits_le HF1.out).1
  have zy := (V.fits_le HF2.out).1
  have HN2 := Lib.hid (HN.out.below I.out.bel)
  clear hle hlw h0 h1 h2 h3 h4 HF0 HF1 HF2 HG HL HC
  go_upto_region 6 with ((go_at_call 13; (with_reducible refine (least_any t _).mono ?_); rintro e w' ⟨rfl, hb⟩; clear c0 c1 c2 c3 c4 c5 d0 d1 d2 d3 d4 e0 e1 e2 e3 e4; replace I := Lib.hid (I.out.below hb); clear hb; obtain ⟨⟨c0, c1, c2, c3, c4, c5⟩, ⟨d0, d1, d2, d3, d4⟩, ⟨e0, e1, e2, e3, e4⟩⟩ := I.out.cells))
  have I2 := Lib.hid (I.out.below (below_alloc _ (.cells #[.int .u64 t.a, .int .u64 t.b, .int .u64 t.c, .string t.p, .string ⟨#[]⟩] 26)))
  have hl7 : AtP (w'.alloc (.cells #[.int .u64 t.a, .int .u64 t.b, .int .u64 t.c, .string t.p, .string ⟨#[]⟩] 26)) w'.heap.size t.ver := alloc_at _ _ _ rfl
  have HNW := Lib.hid (HN.out.below I2.out.bel)
  clear c0 c1 c2 c3 c4 c5 d0 d1 d2 d3 d4 e0 e1 e2 e3 e4
  clear I
  generalize w'.heap.size = N7 at *
  change Code.wp _ _ _ _ (w'.alloc (.cells #[.int .u64 t.a, .int .u64 t.b, .int .u64 t.c, .string t.p, .string ⟨#[]⟩] 26))
  generalize (w'.alloc (.cells #[.int .u64 t.a, .int .u64 t.b, .int .u64 t.c, .string t.p, .string ⟨#[]⟩] 26)) = W5 at *
  have I := I2
  have HL7 := Lib.hid hl7
  clear I2 hl7
  obtain ⟨⟨c0, c1, c2, c3, c4, c5⟩, ⟨d0, d1, d2, d3, d4⟩, ⟨e0, e1, e2, e3, e4⟩⟩ := I.out.cells
  have hop : t.op = 0 ∨ t.op = 1 ∨ t.op = 2 ∨ t.op = 3 ∨ t.op = 4 ∨ t.op = 5 ∨ t.op = 6 ∨ t.op = 7 := by have := HGD.out.2.1; omega
  have HX1 : Hid ((x.inl true && t.hold x) = t.hold x) := Lib.hid (by simp [V.inl])
  have HY1 : Hid ((y.inl true && t.hold y) = t.hold y) := Lib.hid (by simp [V.inl])
  have HV1 : Hid ((t.ver.inl true && t.hold t.ver) = t.hold t.ver) := Lib.hid (by simp [V.inl])
  have GV := Lib.hid (HGD.out.2.2.2.2.2.2.2)
  have zv : t.ver.p.size ≤ 2147483647 := zt
  have hcase : (t.op = 0 ∨ t.op = 1 ∨ t.op = 3 ∨ t.op = 5) ∨ (t.op = 2 ∨ t.op = 4) ∨ (t.op = 6 ∨ t.op = 7) := by omega
  clear hop
  rcases hcase with hc | hc | hc
  · rcases hc with h | h | h | h
    all_goals
      rw [h] at c0
      have HO := Lib.hid h
      clear h
      go_wp2
      go_ret
      exact ⟨rfl, I.out.bel⟩
  · have HU := Lib.hid (hold_up_24 hc HLE.out)
    obtain ⟨r1, hr1⟩ : ∃ r, t.hold x = r := ⟨_, rfl⟩
    obtain ⟨r2, hr2⟩ : ∃ r, t.hold y = r := ⟨_, rfl⟩
    have HR1 := Lib.hid (HX1.out.trans hr1)
    have HR2 := Lib.hid (HY1.out.trans hr2)
    have himp : r1 = true → r2 = true := fun e => by rw [← hr2]; exact HU.out (by rw [hr1]; exact e)
    have HI := Lib.hid himp
    clear hr1 hr2 himp
    rcases hc with h | h
    all_goals
      rw [h] at c0
      have HO := Lib.hid h
      clear h
      rcases r1 with _ | _
    all_goals try (obtain rfl := HI.out rfl)
    all_goals
      go_wp2_with (first
        | (go_at_call 14; (with_reducible refine (termHolds_k t _ x true _ _ HO.out HGD.out GX.out (HN.out.below I.out.bel) zx zt HR1).mono ?_); rintro e w' ⟨rfl, hb⟩; clear c0 c1 c2 c3 c4 c5 d0 d1 d2 d3 d4 e0 e1 e2 e3 e4; replace I := Lib.hid (I.out.below hb); clear hb; obtain ⟨⟨c0, c1, c2, c3, c4, c5⟩, ⟨d0, d1, d2, d3, d4⟩, ⟨e0, e1, e2, e3, e4⟩⟩ := I.out.cells; rw [HO.out] at c0)
        | (go_at_call 14; (with_reducible refine (termHolds_k t _ y true _ _ HO.out HGD.out GY.out (HN.out.below I.out.bel) zy zt HR2).mono ?_); rintro e w' ⟨rfl, hb⟩; clear c0 c1 c2 c3 c4 c5 d0 d1 d2 d3 d4 e0 e1 e2 e3 e4; replace I := Lib.hid (I.out.below hb); clear hb; obtain ⟨⟨c0, c1, c2, c3, c4, c5⟩, ⟨d0, d1, d2, d3, d4⟩, ⟨e0, e1, e2, e3, e4⟩⟩ := I.out.cells; rw [HO.out] at c0))
      go_ret
      exact ⟨rfl, I.out.bel⟩
  · by_cases hz : x.nums3 y = 0
    · have HZ := Lib.hid hz
      have HU := Lib.hid (hold_up_67 hc HLE.out hz)
      have HR3 := Lib.hid (HV1.out.trans (hold_own_67 hc))
      clear hz
      obtain ⟨r1, hr1⟩ : ∃ r, t.hold x = r := ⟨_, rfl⟩
      obtain ⟨r2, hr2⟩ : ∃ r, t.hold y = r := ⟨_, rfl⟩
      have HR1 := Lib.hid (HX1.out.trans hr1)
      have HR2 := Lib.hid (HY1.out.trans hr2)
      have himp : r1 = true → r2 = true := fun e => by rw [← hr2]; exact HU.out (by rw [hr1]; exact e)
      have HI := Lib.hid himp
      clear hr1 hr2 himp
      obtain ⟨f0, f1, f2, f3, f4⟩ := HL7.out.cells
      rcases hc with h | h
      all_goals
        rw [h] at c0
        have HO := Lib.hid h
        clear h
        rcases r1 with _ | _
      all_goals try (obtain rfl := HI.out rfl)
      all_goals
        go_wp2_with (first
          | (go_at_call 15; (with_reducible refine (specNum3_is x y 0 _ HZ).mono ?_); rintro e w' ⟨rfl, hb⟩; have hb0 := hb; clear c0 c1 c2 c3 c4 c5 d0 d1 d2 d3 d4 e0 e1 e2 e3 e4; replace I := Lib.hid (I.out.below hb); clear hb; obtain ⟨⟨c0, c1, c2, c3, c4, c5⟩, ⟨d0, d1, d2, d3, d4⟩, ⟨e0, e1, e2, e3, e4⟩⟩ := I.out.cells; rw [HO.out] at c0; replace HL7 := Lib.hid (AtP.below HL7.out hb0); clear hb0; clear f0 f1 f2 f3 f4; obtain ⟨f0, f1, f2, f3, f4⟩ := HL7.out.cells)
          | (go_at_call 14; (with_reducible refine (termHolds_k t _ x true _ _ HO.out HGD.out GX.out (HN.out.below I.out.bel) zx zt HR1).mono ?_); rintro e w' ⟨rfl, hb⟩; have hb0 := hb; clear c0 c1 c2 c3 c4 c5 d0 d1 d2 d3 d4 e0 e1 e2 e3 e4; replace I := Lib.hid (I.out.below hb); clear hb; obtain ⟨⟨c0, c1, c2, c3, c4, c5⟩, ⟨d0, d1, d2, d3, d4⟩, ⟨e0, e1, e2, e3, e4⟩⟩ := I.out.cells; rw [HO.out] at c0; replace HL7 := Lib.hid (AtP.below HL7.out hb0); clear hb0; clear f0 f1 f2 f3 f4; obtain ⟨f0, f1, f2, f3, f4⟩ := HL7.out.cells)
          | (go_at_call 14; (with_reducible refine (termHolds_k t _ y true _ _ HO.out HGD.out GY.out (HN.out.below I.out.bel) zy zt HR2).mono ?_); rintro e w' ⟨rfl, hb⟩; have hb0 := hb; clear c0 c1 c2 c3 c4 c5 d0 d1 d2 d3 d4 e0 e1 e2 e3 e4; replace I := Lib.hid (I.out.below hb); clear hb; obtain ⟨⟨c0, c1, c2, c3, c4, c5⟩, ⟨d0, d1, d2, d3, d4⟩, ⟨e0, e1, e2, e3, e4⟩⟩ := I.out.cells; rw [HO.out] at c0; replace HL7 := Lib.hid (AtP.below HL7.out hb0); clear hb0; clear f0 f1 f2 f3 f4; obtain ⟨f0, f1, f2, f3, f4⟩ := HL7.out.cells)
          | (go_at_call 14; (with_reducible refine (termHolds_k t _ t.ver true _ _ HO.out HGD.out GV.out (HN.out.below I.out.bel) zv zt HR3).mono ?_); rintro e w' ⟨rfl, hb⟩; have hb0 := hb; clear c0 c1 c2 c3 c4 c5 d0 d1 d2 d3 d4 e0 e1 e2 e3 e4; replace I := Lib.hid (I.out.below hb); clear hb; obtain ⟨⟨c0, c1, c2, c3, c4, c5⟩, ⟨d0, d1, d2, d3, d4⟩, ⟨e0, e1, e2, e3, e4⟩⟩ := I.out.cells; rw [HO.out] at c0; replace HL7 := Lib.hid (AtP.below HL7.out hb0); clear hb0; clear f0 f1 f2 f3 f4; obtain ⟨f0, f1, f2, f3, f4⟩ := HL7.out.cells))
        go_ret
        exact ⟨rfl, I.out.bel⟩
    · obtain ⟨rn, hrn⟩ : ∃ r, x.nums3 y = r := ⟨_, rfl⟩
      have HZ := Lib.hid hrn
      rw [hrn] at hz
      clear hrn
      rcases hc with h | h
      all_goals
        rw [h] at c0
        have HO := Lib.hid h
        clear h
        go_wp2_with (go_at_call 15; (with_reducible refine (specNum3_is x y rn _ HZ).mono ?_); rintro e w' ⟨rfl, hb⟩; clear c0 c1 c2 c3 c4 c5 d0 d1 d2 d3 d4 e0 e1 e2 e3 e4; replace I := Lib.hid (I.out.below hb); clear hb; obtain ⟨⟨c0, c1, c2, c3, c4, c5⟩, ⟨d0, d1, d2, d3, d4⟩, ⟨e0, e1, e2, e3, e4⟩⟩ := I.out.cells; rw [HO.out] at c0)
        go_ret
        exact ⟨rfl, I.out.bel⟩
theorem termUp_walk (t : T) (x y : V) (w : World) (hE : NumErrs w) (hu : t.wf) (hz : t.p.size ≤ 140737488351232) (hu2 : x.u64) (hz2 : x.p.size ≤ 140737488351232 ∧ x.m.size ≤ 140737488351232) (hu3 : y.u64) (hz3 : y.p.size ≤ 140737488351232 ∧ y.m.size ≤ 140737488351232) :
    Calls Tryd.prog 3 #[t.val, x.v, y.v] w fun e w' => e = .returned (.bool true) ∧ Below w.heap.size w w' :=
  termUp_law t x y w hE hz hz2.1 hz2.2 hz3.1 hz3.2
end Go.Proofs.YtagmdhinbkponaaDoor
