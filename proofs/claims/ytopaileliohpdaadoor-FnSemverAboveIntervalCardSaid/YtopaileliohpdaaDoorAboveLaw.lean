/-
  laws.FnSemverAboveInterval returns true for all versions and counts.
-/
import Derived.Test.YtopaileliohpdaaDoorAbovePl
namespace Go.Proofs.YtopaileliohpdaaDoor
open Go.RowKit
set_option maxRecDepth 100000
set_option linter.unusedVariables false

set_option maxHeartbeats 8000000 in
theorem aboveInterval_law (x : V) (k : Int) (y : V) (w : World) (hn : NumErrs w) (hux : x.u64) (h1 : x.p.size ≤ 140737488351232) (h2 : x.m.size ≤ 140737488351232) (h3 : y.p.size ≤ 140737488351232) (h4 : y.m.size ≤ 140737488351232) :
    Calls Tryd.prog 8 #[.agg #[.int .u64 x.a, .int .u64 x.b, .int .u64 x.c, .string x.p, .string x.m], .int .i64 k, .agg #[.int .u64 y.a, .int .u64 y.b, .int .u64 y.c, .string y.p, .string y.m]] w fun e w' => e = .returned (.bool true) ∧ Below w.heap.size w w' := by
  have HN := Lib.hid hn
  clear hn
  cases hfx : x.fits with
  | false =>
    have HFX := Lib.hid hfx
    clear hfx hux
    go_enter Tryd.func8, Tryd.ntmps8
    go_wp2_with (first
      | (go_at_call 11; (with_reducible refine (zz_x x false _ h1 h2 HFX).mono ?_); rintro e w1 ⟨rfl, hb⟩; have HB1 := Lib.hid (Below.up (w := w) (by (repeat (first | exact Below.refl _ _ | apply Below.drew | (apply below_alloc_on (Nat.le_refl _))))) hb); have hx : AtP w1 w.heap.size x := AtP.below (heap_alloc_some (alloc_at _ _ _ rfl)) hb; have hy : AtP w1 (w.heap.size + 1) y := AtP.below (alloc_at _ _ _ (by simp)) hb; obtain ⟨b0, b1, b2, b3, b4⟩ := hy.cells; have X1 := Lib.hid hx; have Y1 := Lib.hid hy; clear hx hy hb))
    go_ret
    exact ⟨rfl, HB1.out⟩
  | true =>
    have HFX := Lib.hid hfx
    clear hfx
    cases hfy : y.fits with
    | false =>
      have HFY := Lib.hid hfy
      clear hfy hux
      go_enter Tryd.func8, Tryd.ntmps8
      go_wp2_with (first
        | (go_at_call 11; (with_reducible refine (zz_x x true _ h1 h2 HFX).mono ?_); rintro e w1 ⟨rfl, hb⟩; have HB1 := Lib.hid (Below.up (w := w) (by (repeat (first | exact Below.refl _ _ | apply Below.drew | (apply below_alloc_on (Nat.le_refl _))))) hb); have hx : AtP w1 w.heap.size x := AtP.below (heap_alloc_some (alloc_at _ _ _ rfl)) hb; have hy : AtP w1 (w.heap.size + 1) y := AtP.below (alloc_at _ _ _ (by simp)) hb; obtain ⟨b0, b1, b2, b3, b4⟩ := hy.cells; have X1 := Lib.hid hx; have Y1 := Lib.hid hy; clear hx hy hb)
        | (go_at_call 11; (with_reducible refine (zz_x y false _ h3 h4 HFY).mono ?_); rintro e w2 ⟨rfl, hb⟩; have HB2 := Lib.hid (Below.up HB1.out hb); have hx : AtP w2 w.heap.size x := X1.out.below hb; have hy : AtP w2 (w.heap.size + 1) y := Y1.out.below hb; obtain ⟨c0, c1, c2, c3, c4⟩ := hx.cells; obtain ⟨d0, d1, d2, d3, d4⟩ := hy.cells; have X2 := Lib.hid hx; have Y2 := Lib.hid hy; clear hx hy hb b0 b1 b2 b3 b4))
      go_ret
      exact ⟨rfl, HB2.out⟩
    | true =>
      have HFY := Lib.hid hfy
      clear hfy
      obtain ⟨u, hu⟩ : ∃ u, x.strip = u := ⟨_, rfl⟩
      obtain ⟨v, hv⟩ : ∃ v, y.strip = v := ⟨_, rfl⟩
      have hvp : M.bs v.p = [] := by rw [← hv]; rfl
      have hua : u.a < 18446744073709551616 := by rw [← hu]; exact hux.1
      have hub : u.b < 18446744073709551616 := by rw [← hu]; exact hux.2.1
      have HSU := Lib.hid hu
      have HSV := Lib.hid hv
      have HVP := Lib.hid (empty_toList hvp)
      have GV : Hid v.pGood := Lib.hid (.inl hvp)
      have HZV : v.p.size ≤ 2147483647 := by rw [← hv]; show (0 : Nat) ≤ _; omega
      clear hu hv hux
      by_cases k1 : k < 1
      · have HR : Hid (InK k false) := Lib.hid (.inl ⟨k1, rfl⟩)
        clear k1 hua hub hvp
        go_enter Tryd.func8, Tryd.ntmps8
        go_wp2_with (first
          | (go_at_call 11; (with_reducible refine (zz_x x true _ h1 h2 HFX).mono ?_); rintro e w1 ⟨rfl, hb⟩; have HB1 := Lib.hid (Below.up (w := w) (by (repeat (first | exact Below.refl _ _ | apply Below.drew | (apply below_alloc_on (Nat.le_refl _))))) hb); have hx : AtP w1 w.heap.size x := AtP.below (heap_alloc_some (alloc_at _ _ _ rfl)) hb; have hy : AtP w1 (w.heap.size + 1) y := AtP.below (alloc_at _ _ _ (by simp)) hb; obtain ⟨b0, b1, b2, b3, b4⟩ := hy.cells; have X1 := Lib.hid hx; have Y1 := Lib.hid hy; clear hx hy hb)
          | (go_at_call 11; (with_reducible refine (zz_x y true _ h3 h4 HFY).mono ?_); rintro e w2 ⟨rfl, hb⟩; have HB2 := Lib.hid (Below.up HB1.out hb); have hx : AtP w2 w.heap.size x := X1.out.below hb; have hy : AtP w2 (w.heap.size + 1) y := Y1.out.below hb; obtain ⟨c0, c1, c2, c3, c4⟩ := hx.cells; obtain ⟨d0, d1, d2, d3, d4⟩ := hy.cells; have X2 := Lib.hid hx; have Y2 := Lib.hid hy; clear hx hy hb b0 b1 b2 b3 b4)
          | (go_at_call 31; (with_reducible refine (stBare_x x y u v _ false _ HSU HSV HR).mono ?_); rintro e w3 ⟨rfl, hb⟩; have HB3 := Lib.hid (Below.up HB2.out hb); have hx : AtP w3 w.heap.size x := X2.out.below hb; have hy : AtP w3 (w.heap.size + 1) y := Y2.out.below hb; obtain ⟨e0, e1, e2, e3, e4⟩ := hx.cells; obtain ⟨f0, f1, f2, f3, f4⟩ := hy.cells; have l0 := hx.loose 0; have l1 := hx.loose 1; have l2 := hx.loose 2; have l3 := hx.loose 3; have l4 := hx.loose 4; have n0 := hy.loose 0; have n1 := hy.loose 1; have n2 := hy.loose 2; have n3 := hy.loose 3; have n4 := hy.loose 4; have X3 := Lib.hid hx; have Y3 := Lib.hid hy; clear hx hy hb c0 c1 c2 c3 c4 d0 d1 d2 d3 d4))
        go_ret
        exact ⟨rfl, up_store5 (up_store5 HB3.out (Nat.le_refl _) _ _ _ _ _) (Nat.le_succ _) _ _ _ _ _⟩
      · by_cases k3 : 3 < k
        · have HR : Hid (InK k false) := Lib.hid (.inr (.inl ⟨⟨k1, k3⟩, rfl⟩))
          clear k1 k3 hua hub hvp
          go_enter Tryd.func8, Tryd.ntmps8
          go_wp2_with (first
            | (go_at_call 11; (with_reducible refine (zz_x x true _ h1 h2 HFX).mono ?_); rintro e w1 ⟨rfl, hb⟩; have HB1 := Lib.hid (Below.up (w := w) (by (repeat (first | exact Below.refl _ _ | apply Below.drew | (apply below_alloc_on (Nat.le_refl _))))) hb); have hx : AtP w1 w.heap.size x := AtP.below (heap_alloc_some (alloc_at _ _ _ rfl)) hb; have hy : AtP w1 (w.heap.size + 1) y := AtP.below (alloc_at _ _ _ (by simp)) hb; obtain ⟨b0, b1, b2, b3, b4⟩ := hy.cells; have X1 := Lib.hid hx; have Y1 := Lib.hid hy; clear hx hy hb)
            | (go_at_call 11; (with_reducible refine (zz_x y true _ h3 h4 HFY).mono ?_); rintro e w2 ⟨rfl, hb⟩; have HB2 := Lib.hid (Below.up HB1.out hb); have hx : AtP w2 w.heap.size x := X1.out.below hb; have hy : AtP w2 (w.heap.size + 1) y := Y1.out.below hb; obtain ⟨c0, c1, c2, c3, c4⟩ := hx.cells; obtain ⟨d0, d1, d2, d3, d4⟩ := hy.cells; have X2 := Lib.hid hx; have Y2 := Lib.hid hy; clear hx hy hb b0 b1 b2 b3 b4)
            | (go_at_call 31; (with_reducible refine (stBare_x x y u v _ false _ HSU HSV HR).mono ?_); rintro e w3 ⟨rfl, hb⟩; have HB3 := Lib.hid (Below.up HB2.out hb); have hx : AtP w3 w.heap.size x := X2.out.below hb; have hy : AtP w3 (w.heap.size + 1) y := Y2.out.below hb; obtain ⟨e0, e1, e2, e3, e4⟩ := hx.cells; obtain ⟨f0, f1, f2, f3, f4⟩ := hy.cells; have l0 := hx.loose 0; have l1 := hx.loose 1; have l2 := hx.loose 2; have l3 := hx.loose 3; have l4 := hx.loose 4; have n0 := hy.loose 0; have n1 := hy.loose 1; have n2 := hy.loose 2; have n3 := hy.loose 3; have n4 := hy.loose 4; have X3 := Lib.hid hx; have Y3 := Lib.hid hy; clear hx hy hb c0 c1 c2 c3 c4 d0 d1 d2 d3 d4))
          go_ret
          exact ⟨rfl, up_store5 (up_store5 HB3.out (Nat.le_refl _) _ _ _ _ _) (Nat.le_succ _) _ _ _ _ _⟩
        · obtain rfl | rfl | rfl : k = 1 ∨ k = 2 ∨ k = 3 := by omega
          · have HR : Hid (InK 1 true) := Lib.hid (.inr (.inr ⟨⟨k1, k3⟩, rfl⟩))
            clear k1 k3 hub
            by_cases hm : u.a < 18446744073709551615
            · have HM1 := Lib.hid hm
              clear hua
              have HWR := Lib.hid (wrap_less hm)
              obtain ⟨r, hr⟩ : ∃ r, v.gt1 ⟨u.a, 0, 0, ⟨#[]⟩, ⟨#[]⟩⟩ = r := ⟨_, rfl⟩
              have HL1 := Lib.hid hr
              have HL2 : Hid (decide (v.cmp (V.bare (u.a + 1) 0 0) ≥ 0) = r) := Lib.hid ((above_1 v u.a hvp).symm.trans hr)
              have HL3 := Lib.hid (above_1z u.a)
              have GZ := Lib.hid (V.bare_pGood (u.a + 1) 0 0)
              have HZZ : (V.bare (u.a + 1) 0 0).p.size ≤ 2147483647 := by show (0 : Nat) ≤ _; omega
              have HZP := Lib.hid (show (V.bare (u.a + 1) 0 0).p.toList = [] from empty_toList rfl)
              clear hr hm hvp
              go_enter Tryd.func8, Tryd.ntmps8
              go_wp2_with (first
                | (go_at_call 11; (with_reducible refine (zz_x x true _ h1 h2 HFX).mono ?_); rintro e w1 ⟨rfl, hb⟩; have HB1 := Lib.hid (Below.up (w := w) (by (repeat (first | exact Below.refl _ _ | apply Below.drew | (apply below_alloc_on (Nat.le_refl _))))) hb); have hx : AtP w1 w.heap.size x := AtP.below (heap_alloc_some (alloc_at _ _ _ rfl)) hb; have hy : AtP w1 (w.heap.size + 1) y := AtP.below (alloc_at _ _ _ (by simp)) hb; obtain ⟨b0, b1, b2, b3, b4⟩ := hy.cells; have X1 := Lib.hid hx; have Y1 := Lib.hid hy; clear hx hy hb)
                | (go_at_call 11; (with_reducible refine (zz_x y true _ h3 h4 HFY).mono ?_); rintro e w2 ⟨rfl, hb⟩; have HB2 := Lib.hid (Below.up HB1.out hb); have hx : AtP w2 w.heap.size x := X1.out.below hb; have hy : AtP w2 (w.heap.size + 1) y := Y1.out.below hb; obtain ⟨c0, c1, c2, c3, c4⟩ := hx.cells; obtain ⟨d0, d1, d2, d3, d4⟩ := hy.cells; have X2 := Lib.hid hx; have Y2 := Lib.hid hy; clear hx hy hb b0 b1 b2 b3 b4)
                | (go_at_call 31; (with_reducible refine (stBare_x x y u v _ true _ HSU HSV HR).mono ?_); rintro e w3 ⟨rfl, hb⟩; have HB3 := Lib.hid (Below.up HB2.out hb); have hx : AtP w3 w.heap.size x := X2.out.below hb; have hy : AtP w3 (w.heap.size + 1) y := Y2.out.below hb; obtain ⟨e0, e1, e2, e3, e4⟩ := hx.cells; obtain ⟨f0, f1, f2, f3, f4⟩ := hy.cells; have l0 := hx.loose 0; have l1 := hx.loose 1; have l2 := hx.loose 2; have l3 := hx.loose 3; have l4 := hx.loose 4; have n0 := hy.loose 0; have n1 := hy.loose 1; have n2 := hy.loose 2; have n3 := hy.loose 3; have n4 := hy.loose 4; have X3 := Lib.hid hx; have Y3 := Lib.hid hy; clear hx hy hb c0 c1 c2 c3 c4 d0 d1 d2 d3 d4)
                | (go_at_call 32; generalize hW3 : ((((((((((w3.setCell ⟨w.heap.size, 0, none⟩ (.int .u64 u.a)).setCell ⟨w.heap.size, 1, none⟩ (.int .u64 u.b)).setCell ⟨w.heap.size, 2, none⟩ (.int .u64 u.c)).setCell ⟨w.heap.size, 3, none⟩ (.string u.p)).setCell ⟨w.heap.size, 4, none⟩ (.string u.m)).setCell ⟨w.heap.size + 1, 0, none⟩ (.int .u64 v.a)).setCell ⟨w.heap.size + 1, 1, none⟩ (.int .u64 v.b)).setCell ⟨w.heap.size + 1, 2, none⟩ (.int .u64 v.c)).setCell ⟨w.heap.size + 1, 3, none⟩ (.string v.p)).setCell ⟨w.heap.size + 1, 4, none⟩ (.string v.m)) = W3; have HX3 := Lib.hid (show AtP W3 w.heap.size u by subst hW3; exact AtP.aside (AtP.store5 X3.out u) (Nat.ne_of_lt (Nat.lt_succ_self _)) _ _ _ _ _); have HY3 := Lib.hid (show AtP W3 (w.heap.size + 1) v by subst hW3; exact AtP.store5 (AtP.aside Y3.out (Nat.ne_of_gt (Nat.lt_succ_self _)) _ _ _ _ _) v); have HBW3 := Lib.hid (show Below w.heap.size w W3 by subst hW3; exact up_store5 (up_store5 HB3.out (Nat.le_refl _) _ _ _ _ _) (Nat.le_succ _) _ _ _ _ _); clear hW3 e0 e1 e2 e3 e4 f0 f1 f2 f3 f4 l0 l1 l2 l3 l4 n0 n1 n2 n3 n4; (with_reducible refine (scPlus_1t u _ HM1.out).mono ?_); rintro e w4 ⟨rfl, hb⟩; have HB4 := Lib.hid (Below.up HBW3.out hb); have hx : AtP w4 w.heap.size u := HX3.out.below hb; obtain ⟨g0, g1, g2, g3, g4⟩ := hx.cells; have a0 := fun o : Obj => cell_alloc_some (o := o) g0; have a1 := fun o : Obj => cell_alloc_some (o := o) g1; have X4 := Lib.hid hx; have Y4 := Lib.hid (HY3.out.below hb); clear hx hb))
              rw [HWR.out]
              have hC : AtP (w4.alloc (V.pc (V.bare (u.a + 1) 0 0))) w4.heap.size (V.bare (u.a + 1) 0 0) := alloc_at _ _ _ rfl
              have hD : AtP (w4.alloc (V.pc (V.bare (u.a + 1) 0 0))) w.heap.size u := AtP.below X4.out (below_alloc _ _)
              have hE : AtP (w4.alloc (V.pc (V.bare (u.a + 1) 0 0))) (w.heap.size + 1) v := AtP.below Y4.out (below_alloc _ _)
              have HW := Lib.hid (Below.up HB4.out (below_alloc _ (V.pc (V.bare (u.a + 1) 0 0))))
              clear a0 a1
              generalize w4.heap.size = N5 at *
              change Code.wp _ _ _ _ (w4.alloc (V.pc (V.bare (u.a + 1) 0 0)))
              generalize (w4.alloc (V.pc (V.bare (u.a + 1) 0 0))) = W at *
              obtain ⟨m0, m1, m2, m3, m4⟩ := hC.cells
              obtain ⟨n0, n1, n2, n3, n4⟩ := hD.cells
              obtain ⟨o0, o1, o2, o3, o4⟩ := hE.cells
              clear hC hD hE g0 g1 g2 g3 g4
              generalize (V.bare (u.a + 1) 0 0) = z at *
              go_region_held3 (fun w' => w'.cell? ⟨N5, 0, none⟩ = some (.int .u64 z.a) ∧ w'.cell? ⟨N5, 1, none⟩ = some (.int .u64 z.b) ∧ w'.cell? ⟨N5, 2, none⟩ = some (.int .u64 z.c) ∧ w'.cell? ⟨N5, 3, none⟩ = some (.string z.p) ∧ w'.cell? ⟨N5, 4, none⟩ = some (.string z.m) ∧ w'.cell? ⟨w.heap.size, 0, none⟩ = some (.int .u64 u.a) ∧ w'.cell? ⟨w.heap.size, 1, none⟩ = some (.int .u64 u.b) ∧ w'.cell? ⟨w.heap.size, 2, none⟩ = some (.int .u64 u.c) ∧ w'.cell? ⟨w.heap.size, 3, none⟩ = some (.string u.p) ∧ w'.cell? ⟨w.heap.size, 4, none⟩ = some (.string u.m) ∧ w'.cell? ⟨w.heap.size + 1, 0, none⟩ = some (.int .u64 v.a) ∧ w'.cell? ⟨w.heap.size + 1, 1, none⟩ = some (.int .u64 v.b) ∧ w'.cell? ⟨w.heap.size + 1, 2, none⟩ = some (.int .u64 v.c) ∧ w'.cell? ⟨w.heap.size + 1, 3, none⟩ = some (.string v.p) ∧ w'.cell? ⟨w.heap.size + 1, 4, none⟩ = some (.string v.m)) (first | (refine ⟨?_, ?_, ?_, ?_, ?_, ?_, ?_, ?_, ?_, ?_, ?_, ?_, ?_, ?_, ?_⟩ <;> (repeat (first | with_reducible assumption | with_reducible apply cell_alloc_some | with_reducible apply cell_drew_some | with_reducible refine cell_below (by with_reducible assumption) ?_ | with_reducible refine cell_set_other (by omega) ?_))) | fail) (first
                | (go_at_call 29; (with_reducible refine (stTermLit_1 0 u _).mono ?_); rintro e w5 ⟨rfl, hb4⟩; have HR4 := Lib.hid (show Below W.heap.size W w5 from Below.up (w := W) (by first | exact Below.refl _ _ | exact (Below.refl _ _).drew) hb4))
                | (go_at_call 33; (with_reducible refine (aboveHolds_1 0 u.a v r _ HVP.out HL1).mono ?_); rintro e w6 ⟨rfl, hb5⟩; have HR5 := Lib.hid (Below.up HR4.out (Below.up (w := w5) (by (repeat (first | exact Below.refl _ _ | apply Below.drew | (apply below_alloc_on (Nat.le_refl _))))) hb5)))
                | (go_at_call 34; (with_reducible refine (vGreaterEqual_x v z r _ GV.out GZ.out (HN.out.below (Below.up HW.out (Below.up HR5.out (by (repeat (first | exact Below.refl _ _ | apply Below.drew | (apply below_alloc_on (Nat.le_refl _)))))))) HZV HZZ HL2).mono ?_); rintro e w7 ⟨rfl, hb6⟩; have HR6 := Lib.hid (Below.up HR5.out (Below.up (w := w6) (by (repeat (first | exact Below.refl _ _ | apply Below.drew | (apply below_alloc_on (Nat.le_refl _))))) hb6)))
                | (go_at_call 29; (with_reducible refine (stTermLit_1 0 u _).mono ?_); rintro e w8 ⟨rfl, hb7⟩; have HR7 := Lib.hid (Below.up HR6.out (Below.up (w := w7) (by (repeat (first | exact Below.refl _ _ | apply Below.drew | (apply below_alloc_on (Nat.le_refl _))))) hb7)))
                | (go_at_call 33; (with_reducible refine (aboveHolds_1 0 u.a z true _ HZP.out HL3).mono ?_); rintro e w9 ⟨rfl, hb8⟩; have HR8 := Lib.hid (Below.up HR7.out (Below.up (w := w8) (by (repeat (first | exact Below.refl _ _ | apply Below.drew | (apply below_alloc_on (Nat.le_refl _))))) hb8)))
                | fail)
              go_wp2
              go_ret
              exact ⟨rfl, Below.up HW.out HR8.out⟩
            · have HM1 := Lib.hid (show u.a = 18446744073709551615 by omega)
              clear hm hua hvp
              go_enter Tryd.func8, Tryd.ntmps8
              go_wp2_with (first
                | (go_at_call 11; (with_reducible refine (zz_x x true _ h1 h2 HFX).mono ?_); rintro e w1 ⟨rfl, hb⟩; have HB1 := Lib.hid (Below.up (w := w) (by (repeat (first | exact Below.refl _ _ | apply Below.drew | (apply below_alloc_on (Nat.le_refl _))))) hb); have hx : AtP w1 w.heap.size x := AtP.below (heap_alloc_some (alloc_at _ _ _ rfl)) hb; have hy : AtP w1 (w.heap.size + 1) y := AtP.below (alloc_at _ _ _ (by simp)) hb; obtain ⟨b0, b1, b2, b3, b4⟩ := hy.cells; have X1 := Lib.hid hx; have Y1 := Lib.hid hy; clear hx hy hb)
                | (go_at_call 11; (with_reducible refine (zz_x y true _ h3 h4 HFY).mono ?_); rintro e w2 ⟨rfl, hb⟩; have HB2 := Lib.hid (Below.up HB1.out hb); have hx : AtP w2 w.heap.size x := X1.out.below hb; have hy : AtP w2 (w.heap.size + 1) y := Y1.out.below hb; obtain ⟨c0, c1, c2, c3, c4⟩ := hx.cells; obtain ⟨d0, d1, d2, d3, d4⟩ := hy.cells; have X2 := Lib.hid hx; have Y2 := Lib.hid hy; clear hx hy hb b0 b1 b2 b3 b4)
                | (go_at_call 31; (with_reducible refine (stBare_x x y u v _ true _ HSU HSV HR).mono ?_); rintro e w3 ⟨rfl, hb⟩; have HB3 := Lib.hid (Below.up HB2.out hb); have hx : AtP w3 w.heap.size x := X2.out.below hb; have hy : AtP w3 (w.heap.size + 1) y := Y2.out.below hb; obtain ⟨e0, e1, e2, e3, e4⟩ := hx.cells; obtain ⟨f0, f1, f2, f3, f4⟩ := hy.cells; have l0 := hx.loose 0; have l1 := hx.loose 1; have l2 := hx.loose 2; have l3 := hx.loose 3; have l4 := hx.loose 4; have n0 := hy.loose 0; have n1 := hy.loose 1; have n2 := hy.loose 2; have n3 := hy.loose 3; have n4 := hy.loose 4; have X3 := Lib.hid hx; have Y3 := Lib.hid hy; clear hx hy hb c0 c1 c2 c3 c4 d0 d1 d2 d3 d4)
                | (go_at_call 32; generalize hW3 : ((((((((((w3.setCell ⟨w.heap.size, 0, none⟩ (.int .u64 u.a)).setCell ⟨w.heap.size, 1, none⟩ (.int .u64 u.b)).setCell ⟨w.heap.size, 2, none⟩ (.int .u64 u.c)).setCell ⟨w.heap.size, 3, none⟩ (.string u.p)).setCell ⟨w.heap.size, 4, none⟩ (.string u.m)).setCell ⟨w.heap.size + 1, 0, none⟩ (.int .u64 v.a)).setCell ⟨w.heap.size + 1, 1, none⟩ (.int .u64 v.b)).setCell ⟨w.heap.size + 1, 2, none⟩ (.int .u64 v.c)).setCell ⟨w.heap.size + 1, 3, none⟩ (.string v.p)).setCell ⟨w.heap.size + 1, 4, none⟩ (.string v.m)) = W3; have HX3 := Lib.hid (show AtP W3 w.heap.size u by subst hW3; exact AtP.aside (AtP.store5 X3.out u) (Nat.ne_of_lt (Nat.lt_succ_self _)) _ _ _ _ _); have HY3 := Lib.hid (show AtP W3 (w.heap.size + 1) v by subst hW3; exact AtP.store5 (AtP.aside Y3.out (Nat.ne_of_gt (Nat.lt_succ_self _)) _ _ _ _ _) v); have HBW3 := Lib.hid (show Below w.heap.size w W3 by subst hW3; exact up_store5 (up_store5 HB3.out (Nat.le_refl _) _ _ _ _ _) (Nat.le_succ _) _ _ _ _ _); clear hW3 e0 e1 e2 e3 e4 f0 f1 f2 f3 f4 l0 l1 l2 l3 l4 n0 n1 n2 n3 n4; (with_reducible refine (scPlus_1f u _ HM1.out).mono ?_); rintro e w4 ⟨rfl, hb⟩; have HB4 := Lib.hid (Below.up HBW3.out hb); have hx : AtP w4 w.heap.size u := HX3.out.below hb; obtain ⟨g0, g1, g2, g3, g4⟩ := hx.cells; have a0 := fun o : Obj => cell_alloc_some (o := o) g0; have a1 := fun o : Obj => cell_alloc_some (o := o) g1; have X4 := Lib.hid hx; have Y4 := Lib.hid (HY3.out.below hb); clear hx hb))
              go_ret
              exact ⟨rfl, HB4.out⟩
          · have HR : Hid (InK 2 true) := Lib.hid (.inr (.inr ⟨⟨k1, k3⟩, rfl⟩))
            clear k1 k3
            by_cases hm : u.a < 18446744073709551615
            · have HM1 := Lib.hid hm
              by_cases hm2 : u.b < 18446744073709551615
              · have HM2 := Lib.hid hm2
                clear hua hub
                have HWR := Lib.hid (wrap_less hm2)
                obtain ⟨r, hr⟩ : ∃ r, v.gt2 ⟨u.a, u.b, 0, ⟨#[]⟩, ⟨#[]⟩⟩ = r := ⟨_, rfl⟩
                have HL1 := Lib.hid hr
                have HL2 : Hid (decide (v.cmp (V.bare u.a (u.b + 1) 0) ≥ 0) = r) := Lib.hid ((above_2 v u.a u.b hvp).symm.trans hr)
                have HL3 := Lib.hid (above_2z u.a u.b)
                have GZ := Lib.hid (V.bare_pGood u.a (u.b + 1) 0)
                have HZZ : (V.bare u.a (u.b + 1) 0).p.size ≤ 2147483647 := by show (0 : Nat) ≤ _; omega
                have HZP := Lib.hid (show (V.bare u.a (u.b + 1) 0).p.toList = [] from empty_toList rfl)
                clear hr hm hm2 hvp
                go_enter Tryd.func8, Tryd.ntmps8
                go_wp2_with (first
                  | (go_at_call 11; (with_reducible refine (zz_x x true _ h1 h2 HFX).mono ?_); rintro e w1 ⟨rfl, hb⟩; have HB1 := Lib.hid (Below.up (w := w) (by (repeat (first | exact Below.refl _ _ | apply Below.drew | (apply below_alloc_on (Nat.le_refl _))))) hb); have hx : AtP w1 w.heap.size x := AtP.below (heap_alloc_some (alloc_at _ _ _ rfl)) hb; have hy : AtP w1 (w.heap.size + 1) y := AtP.below (alloc_at _ _ _ (by simp)) hb; obtain ⟨b0, b1, b2, b3, b4⟩ := hy.cells; have X1 := Lib.hid hx; have Y1 := Lib.hid hy; clear hx hy hb)
                  | (go_at_call 11; (with_reducible refine (zz_x y true _ h3 h4 HFY).mono ?_); rintro e w2 ⟨rfl, hb⟩; have HB2 := Lib.hid (Below.up HB1.out hb); have hx : AtP w2 w.heap.size x := X1.out.below hb; have hy : AtP w2 (w.heap.size + 1) y := Y1.out.below hb; obtain ⟨c0, c1, c2, c3, c4⟩ := hx.cells; obtain ⟨d0, d1, d2, d3, d4⟩ := hy.cells; have X2 := Lib.hid hx; have Y2 := Lib.hid hy; clear hx hy hb b0 b1 b2 b3 b4)
                  | (go_at_call 31; (with_reducible refine (stBare_x x y u v _ true _ HSU HSV HR).mono ?_); rintro e w3 ⟨rfl, hb⟩; have HB3 := Lib.hid (Below.up HB2.out hb); have hx : AtP w3 w.heap.size x := X2.out.below hb; have hy : AtP w3 (w.heap.size + 1) y := Y2.out.below hb; obtain ⟨e0, e1, e2, e3, e4⟩ := hx.cells; obtain ⟨f0, f1, f2, f3, f4⟩ := hy.cells; have l0 := hx.loose 0; have l1 := hx.loose 1; have l2 := hx.loose 2; have l3 := hx.loose 3; have l4 := hx.loose 4; have n0 := hy.loose 0; have n1 := hy.loose 1; have n2 := hy.loose 2; have n3 := hy.loose 3; have n4 := hy.loose 4; have X3 := Lib.hid hx; have Y3 := Lib.hid hy; clear hx hy hb c0 c1 c2 c3 c4 d0 d1 d2 d3 d4)
                  | (go_at_call 32; generalize hW3 : ((((((((((w3.setCell ⟨w.heap.size, 0, none⟩ (.int .u64 u.a)).setCell ⟨w.heap.size, 1, none⟩ (.int .u64 u.b)).setCell ⟨w.heap.size, 2, none⟩ (.int .u64 u.c)).setCell ⟨w.heap.size, 3, none⟩ (.string u.p)).setCell ⟨w.heap.size, 4, none⟩ (.string u.m)).setCell ⟨w.heap.size + 1, 0, none⟩ (.int .u64 v.a)).setCell ⟨w.heap.size + 1, 1, none⟩ (.int .u64 v.b)).setCell ⟨w.heap.size + 1, 2, none⟩ (.int .u64 v.c)).setCell ⟨w.heap.size + 1, 3, none⟩ (.string v.p)).setCell ⟨w.heap.size + 1, 4, none⟩ (.string v.m)) = W3; have HX3 := Lib.hid (show AtP W3 w.heap.size u by subst hW3; exact AtP.aside (AtP.store5 X3.out u) (Nat.ne_of_lt (Nat.lt_succ_self _)) _ _ _ _ _); have HY3 := Lib.hid (show AtP W3 (w.heap.size + 1) v by subst hW3; exact AtP.store5 (AtP.aside Y3.out (Nat.ne_of_gt (Nat.lt_succ_self _)) _ _ _ _ _) v); have HBW3 := Lib.hid (show Below w.heap.size w W3 by subst hW3; exact up_store5 (up_store5 HB3.out (Nat.le_refl _) _ _ _ _ _) (Nat.le_succ _) _ _ _ _ _); clear hW3 e0 e1 e2 e3 e4 f0 f1 f2 f3 f4 l0 l1 l2 l3 l4 n0 n1 n2 n3 n4; (with_reducible refine (scPlus_2t u _ HM1.out HM2.out).mono ?_); rintro e w4 ⟨rfl, hb⟩; have HB4 := Lib.hid (Below.up HBW3.out hb); have hx : AtP w4 w.heap.size u := HX3.out.below hb; obtain ⟨g0, g1, g2, g3, g4⟩ := hx.cells; have a0 := fun o : Obj => cell_alloc_some (o := o) g0; have a1 := fun o : Obj => cell_alloc_some (o := o) g1; have X4 := Lib.hid hx; have Y4 := Lib.hid (HY3.out.below hb); clear hx hb))
                rw [HWR.out]
                have hC : AtP (w4.alloc (V.pc (V.bare u.a (u.b + 1) 0))) w4.heap.size (V.bare u.a (u.b + 1) 0) := alloc_at _ _ _ rfl
                have hD : AtP (w4.alloc (V.pc (V.bare u.a (u.b + 1) 0))) w.heap.size u := AtP.below X4.out (below_alloc _ _)
                have hE : AtP (w4.alloc (V.pc (V.bare u.a (u.b + 1) 0))) (w.heap.size + 1) v := AtP.below Y4.out (below_alloc _ _)
                have HW := Lib.hid (Below.up HB4.out (below_alloc _ (V.pc (V.bare u.a (u.b + 1) 0))))
                clear a0 a1
                generalize w4.heap.size = N5 at *
                change Code.wp _ _ _ _ (w4.alloc (V.pc (V.bare u.a (u.b + 1) 0)))
                generalize (w4.alloc (V.pc (V.bare u.a (u.b + 1) 0))) = W at *
                obtain ⟨m0, m1, m2, m3, m4⟩ := hC.cells
                obtain ⟨n0, n1, n2, n3, n4⟩ := hD.cells
                obtain ⟨o0, o1, o2, o3, o4⟩ := hE.cells
                clear hC hD hE g0 g1 g2 g3 g4
                generalize (V.bare u.a (u.b + 1) 0) = z at *
                go_region_held3 (fun w' => w'.cell? ⟨N5, 0, none⟩ = some (.int .u64 z.a) ∧ w'.cell? ⟨N5, 1, none⟩ = some (.int .u64 z.b) ∧ w'.cell? ⟨N5, 2, none⟩ = some (.int .u64 z.c) ∧ w'.cell? ⟨N5, 3, none⟩ = some (.string z.p) ∧ w'.cell? ⟨N5, 4, none⟩ = some (.string z.m) ∧ w'.cell? ⟨w.heap.size, 0, none⟩ = some (.int .u64 u.a) ∧ w'.cell? ⟨w.heap.size, 1, none⟩ = some (.int .u64 u.b) ∧ w'.cell? ⟨w.heap.size, 2, none⟩ = some (.int .u64 u.c) ∧ w'.cell? ⟨w.heap.size, 3, none⟩ = some (.string u.p) ∧ w'.cell? ⟨w.heap.size, 4, none⟩ = some (.string u.m) ∧ w'.cell? ⟨w.heap.size + 1, 0, none⟩ = some (.int .u64 v.a) ∧ w'.cell? ⟨w.heap.size + 1, 1, none⟩ = some (.int .u64 v.b) ∧ w'.cell? ⟨w.heap.size + 1, 2, none⟩ = some (.int .u64 v.c) ∧ w'.cell? ⟨w.heap.size + 1, 3, none⟩ = some (.string v.p) ∧ w'.cell? ⟨w.heap.size + 1, 4, none⟩ = some (.string v.m)) (first | (refine ⟨?_, ?_, ?_, ?_, ?_, ?_, ?_, ?_, ?_, ?_, ?_, ?_, ?_, ?_, ?_⟩ <;> (repeat (first | with_reducible assumption | with_reducible apply cell_alloc_some | with_reducible apply cell_drew_some | with_reducible refine cell_below (by with_reducible assumption) ?_ | with_reducible refine cell_set_other (by omega) ?_))) | fail) (first
                  | (go_at_call 29; (with_reducible refine (stTermLit_2 0 u _).mono ?_); rintro e w5 ⟨rfl, hb4⟩; have HR4 := Lib.hid (show Below W.heap.size W w5 from Below.up (w := W) (by first | exact Below.refl _ _ | exact (Below.refl _ _).drew) hb4))
                  | (go_at_call 33; (with_reducible refine (aboveHolds_2 0 u.a u.b v r _ HVP.out HL1).mono ?_); rintro e w6 ⟨rfl, hb5⟩; have HR5 := Lib.hid (Below.up HR4.out (Below.up (w := w5) (by (repeat (first | exact Below.refl _ _ | apply Below.drew | (apply below_alloc_on (Nat.le_refl _))))) hb5)))
                  | (go_at_call 34; (with_reducible refine (vGreaterEqual_x v z r _ GV.out GZ.out (HN.out.below (Below.up HW.out (Below.up HR5.out (by (repeat (first | exact Below.refl _ _ | apply Below.drew | (apply below_alloc_on (Nat.le_refl _)))))))) HZV HZZ HL2).mono ?_); rintro e w7 ⟨rfl, hb6⟩; have HR6 := Lib.hid (Below.up HR5.out (Below.up (w := w6) (by (repeat (first | exact Below.refl _ _ | apply Below.drew | (apply below_alloc_on (Nat.le_refl _))))) hb6)))
                  | (go_at_call 29; (with_reducible refine (stTermLit_2 0 u _).mono ?_); rintro e w8 ⟨rfl, hb7⟩; have HR7 := Lib.hid (Below.up HR6.out (Below.up (w := w7) (by (repeat (first | exact Below.refl _ _ | apply Below.drew | (apply below_alloc_on (Nat.le_refl _))))) hb7)))
                  | (go_at_call 33; (with_reducible refine (aboveHolds_2 0 u.a u.b z true _ HZP.out HL3).mono ?_); rintro e w9 ⟨rfl, hb8⟩; have HR8 := Lib.hid (Below.up HR7.out (Below.up (w := w8) (by (repeat (first | exact Below.refl _ _ | apply Below.drew | (apply below_alloc_on (Nat.le_refl _))))) hb8)))
                  | fail)
                go_wp2
                go_ret
                exact ⟨rfl, Below.up HW.out HR8.out⟩
              · have HM2 := Lib.hid (show u.b = 18446744073709551615 by omega)
                clear hm hm2 hua hub hvp
                go_enter Tryd.func8, Tryd.ntmps8
                go_wp2_with (first
                  | (go_at_call 11; (with_reducible refine (zz_x x true _ h1 h2 HFX).mono ?_); rintro e w1 ⟨rfl, hb⟩; have HB1 := Lib.hid (Below.up (w := w) (by (repeat (first | exact Below.refl _ _ | apply Below.drew | (apply below_alloc_on (Nat.le_refl _))))) hb); have hx : AtP w1 w.heap.size x := AtP.below (heap_alloc_some (alloc_at _ _ _ rfl)) hb; have hy : AtP w1 (w.heap.size + 1) y := AtP.below (alloc_at _ _ _ (by simp)) hb; obtain ⟨b0, b1, b2, b3, b4⟩ := hy.cells; have X1 := Lib.hid hx; have Y1 := Lib.hid hy; clear hx hy hb)
                  | (go_at_call 11; (with_reducible refine (zz_x y true _ h3 h4 HFY).mono ?_); rintro e w2 ⟨rfl, hb⟩; have HB2 := Lib.hid (Below.up HB1.out hb); have hx : AtP w2 w.heap.size x := X1.out.below hb; have hy : AtP w2 (w.heap.size + 1) y := Y1.out.below hb; obtain ⟨c0, c1, c2, c3, c4⟩ := hx.cells; obtain ⟨d0, d1, d2, d3, d4⟩ := hy.cells; have X2 := Lib.hid hx; have Y2 := Lib.hid hy; clear hx hy hb b0 b1 b2 b3 b4)
                  | (go_at_call 31; (with_reducible refine (stBare_x x y u v _ true _ HSU HSV HR).mono ?_); rintro e w3 ⟨rfl, hb⟩; have HB3 := Lib.hid (Below.up HB2.out hb); have hx : AtP w3 w.heap.size x := X2.out.below hb; have hy : AtP w3 (w.heap.size + 1) y := Y2.out.below hb; obtain ⟨e0, e1, e2, e3, e4⟩ := hx.cells; obtain ⟨f0, f1, f2, f3, f4⟩ := hy.cells; have l0 := hx.loose 0; have l1 := hx.loose 1; have l2 := hx.loose 2; have l3 := hx.loose 3; have l4 := hx.loose 4; have n0 := hy.loose 0; have n1 := hy.loose 1; have n2 := hy.loose 2; have n3 := hy.loose 3; have n4 := hy.loose 4; have X3 := Lib.hid hx; have Y3 := Lib.hid hy; clear hx hy hb c0 c1 c2 c3 c4 d0 d1 d2 d3 d4)
                  | (go_at_call 32; generalize hW3 : ((((((((((w3.setCell ⟨w.heap.size, 0, none⟩ (.int .u64 u.a)).setCell ⟨w.heap.size, 1, none⟩ (.int .u64 u.b)).setCell ⟨w.heap.size, 2, none⟩ (.int .u64 u.c)).setCell ⟨w.heap.size, 3, none⟩ (.string u.p)).setCell ⟨w.heap.size, 4, none⟩ (.string u.m)).setCell ⟨w.heap.size + 1, 0, none⟩ (.int .u64 v.a)).setCell ⟨w.heap.size + 1, 1, none⟩ (.int .u64 v.b)).setCell ⟨w.heap.size + 1, 2, none⟩ (.int .u64 v.c)).setCell ⟨w.heap.size + 1, 3, none⟩ (.string v.p)).setCell ⟨w.heap.size + 1, 4, none⟩ (.string v.m)) = W3; have HX3 := Lib.hid (show AtP W3 w.heap.size u by subst hW3; exact AtP.aside (AtP.store5 X3.out u) (Nat.ne_of_lt (Nat.lt_succ_self _)) _ _ _ _ _); have HY3 := Lib.hid (show AtP W3 (w.heap.size + 1) v by subst hW3; exact AtP.store5 (AtP.aside Y3.out (Nat.ne_of_gt (Nat.lt_succ_self _)) _ _ _ _ _) v); have HBW3 := Lib.hid (show Below w.heap.size w W3 by subst hW3; exact up_store5 (up_store5 HB3.out (Nat.le_refl _) _ _ _ _ _) (Nat.le_succ _) _ _ _ _ _); clear hW3 e0 e1 e2 e3 e4 f0 f1 f2 f3 f4 l0 l1 l2 l3 l4 n0 n1 n2 n3 n4; (with_reducible refine (scPlus_2fb u _ HM1.out HM2.out).mono ?_); rintro e w4 ⟨rfl, hb⟩; have HB4 := Lib.hid (Below.up HBW3.out hb); have hx : AtP w4 w.heap.size u := HX3.out.below hb; obtain ⟨g0, g1, g2, g3, g4⟩ := hx.cells; have a0 := fun o : Obj => cell_alloc_some (o := o) g0; have a1 := fun o : Obj => cell_alloc_some (o := o) g1; have X4 := Lib.hid hx; have Y4 := Lib.hid (HY3.out.below hb); clear hx hb))
                go_ret
                exact ⟨rfl, HB4.out⟩
            · have HM1 := Lib.hid (show u.a = 18446744073709551615 by omega)
              clear hm hua hub hvp
              go_enter Tryd.func8, Tryd.ntmps8
              go_wp2_with (first
                | (go_at_call 11; (with_reducible refine (zz_x x true _ h1 h2 HFX).mono ?_); rintro e w1 ⟨rfl, hb⟩; have HB1 := Lib.hid (Below.up (w := w) (by (repeat (first | exact Below.refl _ _ | apply Below.drew | (apply below_alloc_on (Nat.le_refl _))))) hb); have hx : AtP w1 w.heap.size x := AtP.below (heap_alloc_some (alloc_at _ _ _ rfl)) hb; have hy : AtP w1 (w.heap.size + 1) y := AtP.below (alloc_at _ _ _ (by simp)) hb; obtain ⟨b0, b1, b2, b3, b4⟩ := hy.cells; have X1 := Lib.hid hx; have Y1 := Lib.hid hy; clear hx hy hb)
                | (go_at_call 11; (with_reducible refine (zz_x y true _ h3 h4 HFY).mono ?_); rintro e w2 ⟨rfl, hb⟩; have HB2 := Lib.hid (Below.up HB1.out hb); have hx : AtP w2 w.heap.size x := X1.out.below hb; have hy : AtP w2 (w.heap.size + 1) y := Y1.out.below hb; obtain ⟨c0, c1, c2, c3, c4⟩ := hx.cells; obtain ⟨d0, d1, d2, d3, d4⟩ := hy.cells; have X2 := Lib.hid hx; have Y2 := Lib.hid hy; clear hx hy hb b0 b1 b2 b3 b4)
                | (go_at_call 31; (with_reducible refine (stBare_x x y u v _ true _ HSU HSV HR).mono ?_); rintro e w3 ⟨rfl, hb⟩; have HB3 := Lib.hid (Below.up HB2.out hb); have hx : AtP w3 w.heap.size x := X2.out.below hb; have hy : AtP w3 (w.heap.size + 1) y := Y2.out.below hb; obtain ⟨e0, e1, e2, e3, e4⟩ := hx.cells; obtain ⟨f0, f1, f2, f3, f4⟩ := hy.cells; have l0 := hx.loose 0; have l1 := hx.loose 1; have l2 := hx.loose 2; have l3 := hx.loose 3; have l4 := hx.loose 4; have n0 := hy.loose 0; have n1 := hy.loose 1; have n2 := hy.loose 2; have n3 := hy.loose 3; have n4 := hy.loose 4; have X3 := Lib.hid hx; have Y3 := Lib.hid hy; clear hx hy hb c0 c1 c2 c3 c4 d0 d1 d2 d3 d4)
                | (go_at_call 32; generalize hW3 : ((((((((((w3.setCell ⟨w.heap.size, 0, none⟩ (.int .u64 u.a)).setCell ⟨w.heap.size, 1, none⟩ (.int .u64 u.b)).setCell ⟨w.heap.size, 2, none⟩ (.int .u64 u.c)).setCell ⟨w.heap.size, 3, none⟩ (.string u.p)).setCell ⟨w.heap.size, 4, none⟩ (.string u.m)).setCell ⟨w.heap.size + 1, 0, none⟩ (.int .u64 v.a)).setCell ⟨w.heap.size + 1, 1, none⟩ (.int .u64 v.b)).setCell ⟨w.heap.size + 1, 2, none⟩ (.int .u64 v.c)).setCell ⟨w.heap.size + 1, 3, none⟩ (.string v.p)).setCell ⟨w.heap.size + 1, 4, none⟩ (.string v.m)) = W3; have HX3 := Lib.hid (show AtP W3 w.heap.size u by subst hW3; exact AtP.aside (AtP.store5 X3.out u) (Nat.ne_of_lt (Nat.lt_succ_self _)) _ _ _ _ _); have HY3 := Lib.hid (show AtP W3 (w.heap.size + 1) v by subst hW3; exact AtP.store5 (AtP.aside Y3.out (Nat.ne_of_gt (Nat.lt_succ_self _)) _ _ _ _ _) v); have HBW3 := Lib.hid (show Below w.heap.size w W3 by subst hW3; exact up_store5 (up_store5 HB3.out (Nat.le_refl _) _ _ _ _ _) (Nat.le_succ _) _ _ _ _ _); clear hW3 e0 e1 e2 e3 e4 f0 f1 f2 f3 f4 l0 l1 l2 l3 l4 n0 n1 n2 n3 n4; (with_reducible refine (scPlus_2fa u _ HM1.out).mono ?_); rintro e w4 ⟨rfl, hb⟩; have HB4 := Lib.hid (Below.up HBW3.out hb); have hx : AtP w4 w.heap.size u := HX3.out.below hb; obtain ⟨g0, g1, g2, g3, g4⟩ := hx.cells; have a0 := fun o : Obj => cell_alloc_some (o := o) g0; have a1 := fun o : Obj => cell_alloc_some (o := o) g1; have X4 := Lib.hid hx; have Y4 := Lib.hid (HY3.out.below hb); clear hx hb))
              go_ret
              exact ⟨rfl, HB4.out⟩
          · have HR : Hid (InK 3 true) := Lib.hid (.inr (.inr ⟨⟨k1, k3⟩, rfl⟩))
            clear k1 k3 hua hub hvp
            go_enter Tryd.func8, Tryd.ntmps8
            go_wp2_with (first
              | (go_at_call 11; (with_reducible refine (zz_x x true _ h1 h2 HFX).mono ?_); rintro e w1 ⟨rfl, hb⟩; have HB1 := Lib.hid (Below.up (w := w) (by (repeat (first | exact Below.refl _ _ | apply Below.drew | (apply below_alloc_on (Nat.le_refl _))))) hb); have hx : AtP w1 w.heap.size x := AtP.below (heap_alloc_some (alloc_at _ _ _ rfl)) hb; have hy : AtP w1 (w.heap.size + 1) y := AtP.below (alloc_at _ _ _ (by simp)) hb; obtain ⟨b0, b1, b2, b3, b4⟩ := hy.cells; have X1 := Lib.hid hx; have Y1 := Lib.hid hy; clear hx hy hb)
              | (go_at_call 11; (with_reducible refine (zz_x y true _ h3 h4 HFY).mono ?_); rintro e w2 ⟨rfl, hb⟩; have HB2 := Lib.hid (Below.up HB1.out hb); have hx : AtP w2 w.heap.size x := X1.out.below hb; have hy : AtP w2 (w.heap.size + 1) y := Y1.out.below hb; obtain ⟨c0, c1, c2, c3, c4⟩ := hx.cells; obtain ⟨d0, d1, d2, d3, d4⟩ := hy.cells; have X2 := Lib.hid hx; have Y2 := Lib.hid hy; clear hx hy hb b0 b1 b2 b3 b4)
              | (go_at_call 31; (with_reducible refine (stBare_x x y u v _ true _ HSU HSV HR).mono ?_); rintro e w3 ⟨rfl, hb⟩; have HB3 := Lib.hid (Below.up HB2.out hb); have hx : AtP w3 w.heap.size x := X2.out.below hb; have hy : AtP w3 (w.heap.size + 1) y := Y2.out.below hb; obtain ⟨e0, e1, e2, e3, e4⟩ := hx.cells; obtain ⟨f0, f1, f2, f3, f4⟩ := hy.cells; have l0 := hx.loose 0; have l1 := hx.loose 1; have l2 := hx.loose 2; have l3 := hx.loose 3; have l4 := hx.loose 4; have n0 := hy.loose 0; have n1 := hy.loose 1; have n2 := hy.loose 2; have n3 := hy.loose 3; have n4 := hy.loose 4; have X3 := Lib.hid hx; have Y3 := Lib.hid hy; clear hx hy hb c0 c1 c2 c3 c4 d0 d1 d2 d3 d4))
            go_ret
            exact ⟨rfl, up_store5 (up_store5 HB3.out (Nat.le_refl _) _ _ _ _ _) (Nat.le_succ _) _ _ _ _ _⟩
theorem aboveInterval_walk (x : V) (k : Int) (y : V) (w : World) (hE : NumErrs w) (hu : x.u64) (hz : x.p.size ≤ 140737488351232 ∧ x.m.size ≤ 140737488351232) (hk : (Lit.int .i64 k).wf = true) (hu2 : y.u64) (hz2 : y.p.size ≤ 140737488351232 ∧ y.m.size ≤ 140737488351232) :
    Calls Tryd.prog 8 #[x.v, .int .i64 k, y.v] w fun e w' => e = .returned (.bool true) ∧ Below w.heap.size w w' :=
  aboveInterval_law x k y w hE hu hz.1 hz.2 hz2.1 hz2.2
end Go.Proofs.YtopaileliohpdaaDoor
