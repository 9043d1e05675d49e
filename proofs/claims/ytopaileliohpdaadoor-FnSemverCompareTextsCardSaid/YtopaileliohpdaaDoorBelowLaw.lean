/-
  laws.FnSemverBelowCompares returns true for all versions.
-/
import Derived.Test.YtopaileliohpdaaDoorStTerm
import Derived.Test.YtopaileliohpdaaDoorIncLaw
namespace Go.Proofs.YtopaileliohpdaaDoor
open Go.RowKit
set_option maxRecDepth 100000
set_option linter.unusedVariables false

def V.down (x : V) : V := ⟨x.a, x.b, x.c, ⟨#[48]⟩, ⟨#[]⟩⟩
theorem belowHolds_x (t : T) (x : V) (r : Bool) (pre : Bool) (w : World) (hg : t.g = 0 ∨ t.g = 1 ∨ t.g = 2 ∨ t.g = 3) (gx : x.pGood) (gy : t.ver.pGood) (hn : NumErrs w) (zx : x.p.size ≤ 2147483647) (zy : t.ver.p.size ≤ 2147483647) (hr : Hid ((x.inl pre && decide (x.cmp t.ver < 0)) = r)) :
    Calls Tryd.prog 27 #[.agg #[.int .i64 t.op, .int .i64 t.g, .int .u64 t.a, .int .u64 t.b, .int .u64 t.c, .string t.p], .agg #[.int .u64 x.a, .int .u64 x.b, .int .u64 x.c, .string x.p, .string x.m], .bool pre] w fun e w' => e = .returned (.bool r) ∧ Below w.heap.size w w' := by
  have := belowHolds_any t x pre w hg gx gy hn zx zy
  rw [hr.out] at this
  exact this
theorem stTerm_bare (x : V) (w : World) : Calls Tryd.prog 29 #[.int .i64 0, .agg #[.int .u64 x.a, .int .u64 x.b, .int .u64 x.c, .string ⟨#[]⟩, .string ⟨#[]⟩], .int .i64 3] w fun e w' => e = .returned (T.val ⟨0, 3, x.a, x.b, x.c, ⟨#[]⟩⟩) ∧ Below w.heap.size w w' := stTerm_3 0 ⟨x.a, x.b, x.c, ⟨#[]⟩, ⟨#[]⟩⟩ w
theorem down_good (x : V) : x.down.pGood := .inr (by show M.goodPre [48] = true; decide)
theorem down_below (x : V) : (x.down.inl true && decide (x.down.cmp (T.ver ⟨0, 3, x.a, x.b, x.c, ⟨#[]⟩⟩) < 0)) = true := by
  have s (n : Nat) : M.seg n n = 0 := by unfold M.seg; rw [if_neg (by omega), if_neg (by omega)]
  have e0 : M.bs (⟨#[]⟩ : ByteArray) = [] := rfl
  have e1 : M.bs (⟨#[48]⟩ : ByteArray) = [48] := rfl
  unfold V.cmp V.nums3 V.down T.ver V.inl M.preCmp
  simp [s, e0, e1]

set_option maxHeartbeats 4000000 in
theorem belowCompares_law (x y : V) (w : World) (hn : NumErrs w) (h1 : x.p.size ≤ 140737488351232) (h2 : x.m.size ≤ 140737488351232) (h3 : y.p.size ≤ 140737488351232) (h4 : y.m.size ≤ 140737488351232) :
    Calls Tryd.prog 7 #[.agg #[.int .u64 x.a, .int .u64 x.b, .int .u64 x.c, .string x.p, .string x.m], .agg #[.int .u64 y.a, .int .u64 y.b, .int .u64 y.c, .string y.p, .string y.m]] w fun e w' => e = .returned (.bool true) ∧ Below w.heap.size w w' := by
  have HN := Lib.hid hn
  clear hn
  cases hfx : x.fits with
  | false =>
    have HFX := Lib.hid hfx
    clear hfx
    go_enter Tryd.func7, Tryd.ntmps7
    go_wp2_with (first
      | (go_at_call 11; (with_reducible refine (zz_x x false _ h1 h2 HFX).mono ?_); rintro e w1 ⟨rfl, hb⟩; have HB1 := Lib.hid (Below.up (w := w) (by (repeat (first | exact Below.refl _ _ | apply Below.drew | (apply below_alloc_on (Nat.le_refl _))))) hb); have hx : AtP w1 w.heap.size x := AtP.below (heap_alloc_some (alloc_at _ _ _ rfl)) hb; have hy : AtP w1 (w.heap.size + 1) y := AtP.below (alloc_at _ _ _ (by simp)) hb; obtain ⟨b0, b1, b2, b3, b4⟩ := hy.cells; have X1 := Lib.hid hx; have Y1 := Lib.hid hy; clear hx hy hb))
    go_ret
    exact ⟨rfl, HB1.out⟩
  | true =>
    have HFX := Lib.hid hfx
    have HZX := Lib.hid (V.fits_le hfx)
    clear hfx
    cases hfy : y.fits with
    | false =>
      have HFY := Lib.hid hfy
      clear hfy
      go_enter Tryd.func7, Tryd.ntmps7
      go_wp2_with (first
        | (go_at_call 11; (with_reducible refine (zz_x x true _ h1 h2 HFX).mono ?_); rintro e w1 ⟨rfl, hb⟩; have HB1 := Lib.hid (Below.up (w := w) (by (repeat (first | exact Below.refl _ _ | apply Below.drew | (apply below_alloc_on (Nat.le_refl _))))) hb); have hx : AtP w1 w.heap.size x := AtP.below (heap_alloc_some (alloc_at _ _ _ rfl)) hb; have hy : AtP w1 (w.heap.size + 1) y := AtP.below (alloc_at _ _ _ (by simp)) hb; obtain ⟨b0, b1, b2, b3, b4⟩ := hy.cells; have X1 := Lib.hid hx; have Y1 := Lib.hid hy; clear hx hy hb)
        | (go_at_call 11; (with_reducible refine (zz_x y false _ h3 h4 HFY).mono ?_); rintro e w2 ⟨rfl, hb⟩; have HB2 := Lib.hid (Below.up HB1.out hb); have hx : AtP w2 w.heap.size x := X1.out.below hb; have hy : AtP w2 (w.heap.size + 1) y := Y1.out.below hb; obtain ⟨c0, c1, c2, c3, c4⟩ := hx.cells; obtain ⟨d0, d1, d2, d3, d4⟩ := hy.cells; have X2 := Lib.hid hx; have Y2 := Lib.hid hy; clear hx hy hb b0 b1 b2 b3 b4))
      go_ret
      exact ⟨rfl, HB2.out⟩
    | true =>
      have HFY := Lib.hid hfy
      have HZY := Lib.hid (V.fits_le hfy)
      clear hfy
      cases hl : x.law && y.law with
      | false =>
        have HL := Lib.hid hl
        clear hl
        go_enter Tryd.func7, Tryd.ntmps7
        go_wp2_with (first
          | (go_at_call 11; (with_reducible refine (zz_x x true _ h1 h2 HFX).mono ?_); rintro e w1 ⟨rfl, hb⟩; have HB1 := Lib.hid (Below.up (w := w) (by (repeat (first | exact Below.refl _ _ | apply Below.drew | (apply below_alloc_on (Nat.le_refl _))))) hb); have hx : AtP w1 w.heap.size x := AtP.below (heap_alloc_some (alloc_at _ _ _ rfl)) hb; have hy : AtP w1 (w.heap.size + 1) y := AtP.below (alloc_at _ _ _ (by simp)) hb; obtain ⟨b0, b1, b2, b3, b4⟩ := hy.cells; have X1 := Lib.hid hx; have Y1 := Lib.hid hy; clear hx hy hb)
          | (go_at_call 11; (with_reducible refine (zz_x y true _ h3 h4 HFY).mono ?_); rintro e w2 ⟨rfl, hb⟩; have HB2 := Lib.hid (Below.up HB1.out hb); have hx : AtP w2 w.heap.size x := X1.out.below hb; have hy : AtP w2 (w.heap.size + 1) y := Y1.out.below hb; obtain ⟨c0, c1, c2, c3, c4⟩ := hx.cells; obtain ⟨d0, d1, d2, d3, d4⟩ := hy.cells; have X2 := Lib.hid hx; have Y2 := Lib.hid hy; clear hx hy hb b0 b1 b2 b3 b4)
          | (go_at_call 12; (with_reducible refine (svGood_two_at _ _ _ x y false rfl HZX HZY HL).mono ?_); rintro e w3 ⟨rfl, hb⟩; have HB3 := Lib.hid (Below.up HB2.out hb); have hx : AtP w3 w.heap.size x := AtP.below X2.out hb; have hy : AtP w3 (w.heap.size + 1) y := AtP.below Y2.out hb; obtain ⟨e0, e1, e2, e3, e4⟩ := hx.cells; have X3 := Lib.hid hx; have Y3 := Lib.hid hy; clear hx hy hb c0 c1 c2 c3 c4 d0 d1 d2 d3 d4))
        go_ret
        exact ⟨rfl, HB3.out⟩
      | true =>
        have HL := Lib.hid hl
        rw [Bool.and_eq_true] at hl
        have GX := Lib.hid (V.law_pGood hl.1)
        have GY := Lib.hid (V.law_pGood hl.2)
        have hgy : y.pGood := V.law_pGood hl.2
        have GTY : Hid (T.ver ⟨0, 3, y.a, y.b, y.c, y.p⟩).pGood := Lib.hid hgy
        have GTX : Hid (T.ver ⟨0, 3, x.a, x.b, x.c, ⟨#[]⟩⟩).pGood := Lib.hid (.inl rfl)
        clear hl hgy
        have GZ := Lib.hid (down_good x)
        have HZZ : x.down.p.size ≤ 2147483647 := by show (1 : Nat) ≤ _; omega
        have HZT : (T.ver ⟨0, 3, y.a, y.b, y.c, y.p⟩).p.size ≤ 2147483647 := HZY.out.1
        have HZT2 : (T.ver ⟨0, 3, x.a, x.b, x.c, ⟨#[]⟩⟩).p.size ≤ 2147483647 := by show (0 : Nat) ≤ _; omega
        have HL3 := Lib.hid (down_below x)
        obtain ⟨r, hr⟩ : ∃ r, decide (x.cmp y < 0) = r := ⟨_, rfl⟩
        have HL2 := Lib.hid hr
        have HL1 : Hid ((x.inl true && decide (x.cmp (T.ver ⟨0, 3, y.a, y.b, y.c, y.p⟩) < 0)) = r) := Lib.hid (by rw [show x.cmp (T.ver ⟨0, 3, y.a, y.b, y.c, y.p⟩) = x.cmp y from rfl, hr, V.inl, Bool.true_or, Bool.true_and])
        clear hr
        go_enter Tryd.func7, Tryd.ntmps7
        go_wp2_with (first
          | (go_at_call 11; (with_reducible refine (zz_x x true _ h1 h2 HFX).mono ?_); rintro e w1 ⟨rfl, hb⟩; have HB1 := Lib.hid (Below.up (w := w) (by (repeat (first | exact Below.refl _ _ | apply Below.drew | (apply below_alloc_on (Nat.le_refl _))))) hb); have hx : AtP w1 w.heap.size x := AtP.below (heap_alloc_some (alloc_at _ _ _ rfl)) hb; have hy : AtP w1 (w.heap.size + 1) y := AtP.below (alloc_at _ _ _ (by simp)) hb; obtain ⟨b0, b1, b2, b3, b4⟩ := hy.cells; have X1 := Lib.hid hx; have Y1 := Lib.hid hy; clear hx hy hb)
          | (go_at_call 11; (with_reducible refine (zz_x y true _ h3 h4 HFY).mono ?_); rintro e w2 ⟨rfl, hb⟩; have HB2 := Lib.hid (Below.up HB1.out hb); have hx : AtP w2 w.heap.size x := X1.out.below hb; have hy : AtP w2 (w.heap.size + 1) y := Y1.out.below hb; obtain ⟨c0, c1, c2, c3, c4⟩ := hx.cells; obtain ⟨d0, d1, d2, d3, d4⟩ := hy.cells; have X2 := Lib.hid hx; have Y2 := Lib.hid hy; clear hx hy hb b0 b1 b2 b3 b4)
          | (go_at_call 12; (with_reducible refine (svGood_two_at _ _ _ x y true rfl HZX HZY HL).mono ?_); rintro e w3 ⟨rfl, hb⟩; have HB3 := Lib.hid (Below.up HB2.out hb); have hx : AtP w3 w.heap.size x := AtP.below X2.out hb; have hy : AtP w3 (w.heap.size + 1) y := AtP.below Y2.out hb; obtain ⟨e0, e1, e2, e3, e4⟩ := hx.cells; have X3 := Lib.hid hx; have Y3 := Lib.hid hy; clear hx hy hb c0 c1 c2 c3 c4 d0 d1 d2 d3 d4))
        have hC : AtP (w3.alloc (V.pc x.down)) w3.heap.size x.down := alloc_at _ _ _ rfl
        have hD : AtP (w3.alloc (V.pc x.down)) w.heap.size x := AtP.below X3.out (below_alloc _ _)
        have hE : AtP (w3.alloc (V.pc x.down)) (w.heap.size + 1) y := AtP.below Y3.out (below_alloc _ _)
        have HW := Lib.hid (Below.up HB3.out (below_alloc _ (V.pc x.down)))
        generalize w3.heap.size = N5 at *
        change Code.wp _ _ _ _ (w3.alloc (V.pc x.down))
        generalize (w3.alloc (V.pc x.down)) = W at *
        obtain ⟨m0, m1, m2, m3, m4⟩ := hC.cells
        obtain ⟨n0, n1, n2, n3, n4⟩ := hD.cells
        obtain ⟨o0, o1, o2, o3, o4⟩ := hE.cells
        clear hC hD hE e0 e1 e2 e3 e4
        generalize x.down = z at *
        go_region_held3 (fun w' => w'.cell? ⟨N5, 0, none⟩ = some (.int .u64 z.a) ∧ w'.cell? ⟨N5, 1, none⟩ = some (.int .u64 z.b) ∧ w'.cell? ⟨N5, 2, none⟩ = some (.int .u64 z.c) ∧ w'.cell? ⟨N5, 3, none⟩ = some (.string z.p) ∧ w'.cell? ⟨N5, 4, none⟩ = some (.string z.m) ∧ w'.cell? ⟨w.heap.size, 0, none⟩ = some (.int .u64 x.a) ∧ w'.cell? ⟨w.heap.size, 1, none⟩ = some (.int .u64 x.b) ∧ w'.cell? ⟨w.heap.size, 2, none⟩ = some (.int .u64 x.c) ∧ w'.cell? ⟨w.heap.size, 3, none⟩ = some (.string x.p) ∧ w'.cell? ⟨w.heap.size, 4, none⟩ = some (.string x.m) ∧ w'.cell? ⟨w.heap.size + 1, 0, none⟩ = some (.int .u64 y.a) ∧ w'.cell? ⟨w.heap.size + 1, 1, none⟩ = some (.int .u64 y.b) ∧ w'.cell? ⟨w.heap.size + 1, 2, none⟩ = some (.int .u64 y.c) ∧ w'.cell? ⟨w.heap.size + 1, 3, none⟩ = some (.string y.p) ∧ w'.cell? ⟨w.heap.size + 1, 4, none⟩ = some (.string y.m)) (first | (refine ⟨?_, ?_, ?_, ?_, ?_, ?_, ?_, ?_, ?_, ?_, ?_, ?_, ?_, ?_, ?_⟩ <;> (repeat (first | with_reducible assumption | with_reducible apply cell_alloc_some | with_reducible apply cell_drew_some | with_reducible refine cell_below (by with_reducible assumption) ?_ | with_reducible refine cell_set_other (by omega) ?_))) | fail) (first
          | (go_at_call 29; (with_reducible refine (stTerm_3 0 y _).mono ?_); rintro e w4 ⟨rfl, hb4⟩; simp only [T.val]; have HR4 := Lib.hid (Below.up (w := W) (by (repeat (first | exact Below.refl _ _ | apply Below.drew | (apply below_alloc_on (Nat.le_refl _))))) hb4))
          | (go_at_call 27; (with_reducible refine (belowHolds_x ⟨0, 3, y.a, y.b, y.c, y.p⟩ x r true _ (.inr (.inr (.inr rfl))) GX.out GTY.out (HN.out.below (Below.up HW.out (Below.up HR4.out (by (repeat (first | exact Below.refl _ _ | apply Below.drew | (apply below_alloc_on (Nat.le_refl _)))))))) HZX.out.1 HZT HL1).mono ?_); rintro e w5 ⟨rfl, hb5⟩; have HR5 := Lib.hid (Below.up HR4.out (Below.up (w := w4) (by (repeat (first | exact Below.refl _ _ | apply Below.drew | (apply below_alloc_on (Nat.le_refl _))))) hb5)))
          | (go_at_call 23; (with_reducible refine (vLess_x x y r _ GX.out GY.out (HN.out.below (Below.up HW.out (Below.up HR5.out (by (repeat (first | exact Below.refl _ _ | apply Below.drew | (apply below_alloc_on (Nat.le_refl _)))))))) HZX.out.1 HZY.out.1 HL2).mono ?_); rintro e w6 ⟨rfl, hb6⟩; have HR6 := Lib.hid (Below.up HR5.out (Below.up (w := w5) (by (repeat (first | exact Below.refl _ _ | apply Below.drew | (apply below_alloc_on (Nat.le_refl _))))) hb6)))
          | (go_at_call 30; (with_reducible refine (bare_any x _).mono ?_); rintro e w7 ⟨rfl, hb7⟩; have HR7 := Lib.hid (Below.up HR6.out (Below.up (w := w6) (by (repeat (first | exact Below.refl _ _ | apply Below.drew | (apply below_alloc_on (Nat.le_refl _))))) hb7)))
          | (go_at_call 29; (with_reducible refine (stTerm_bare x _).mono ?_); rintro e w8 ⟨rfl, hb8⟩; simp only [T.val]; have HR8 := Lib.hid (Below.up HR7.out (Below.up (w := w7) (by (repeat (first | exact Below.refl _ _ | apply Below.drew | (apply below_alloc_on (Nat.le_refl _))))) hb8)))
          | (go_at_call 27; (with_reducible refine (belowHolds_x ⟨0, 3, x.a, x.b, x.c, ⟨#[]⟩⟩ z true true _ (.inr (.inr (.inr rfl))) GZ.out GTX.out (HN.out.below (Below.up HW.out (Below.up HR8.out (by (repeat (first | exact Below.refl _ _ | apply Below.drew | (apply below_alloc_on (Nat.le_refl _)))))))) HZZ HZT2 HL3).mono ?_); rintro e w9 ⟨rfl, hb9⟩; have HR9 := Lib.hid (Below.up HR8.out (Below.up (w := w8) (by (repeat (first | exact Below.refl _ _ | apply Below.drew | (apply below_alloc_on (Nat.le_refl _))))) hb9)))
          | fail)

        go_wp2
        go_ret
        exact ⟨rfl, Below.up HW.out HR9.out⟩
theorem belowCompares_walk (x y : V) (w : World) (hE : NumErrs w) (hu : x.u64) (hz : x.p.size ≤ 140737488351232 ∧ x.m.size ≤ 140737488351232) (hu2 : y.u64) (hz2 : y.p.size ≤ 140737488351232 ∧ y.m.size ≤ 140737488351232) :
    Calls Tryd.prog 7 #[x.v, y.v] w fun e w' => e = .returned (.bool true) ∧ Below w.heap.size w w' :=
  belowCompares_law x y w hE hz.1 hz.2 hz2.1 hz2.2
end Go.Proofs.YtopaileliohpdaaDoor
