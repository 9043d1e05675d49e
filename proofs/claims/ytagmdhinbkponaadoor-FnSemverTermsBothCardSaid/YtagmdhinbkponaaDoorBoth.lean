/-
  laws.FnSemverTermsBoth returns true for all lists of terms and versions.
-/
import Derived.Test.YtagmdhinbkponaaDoorApp
import Derived.Test.YtagmdhinbkponaaDoorIncLaw
namespace Go.Proofs.YtagmdhinbkponaaDoor
open Go.RowKit
set_option maxRecDepth 100000
set_option linter.unusedVariables false

theorem infoT : (Tryd.prog.info? 24).map (fun i => (i.zero, i.size, i.bytes)) = some (some (.agg #[.int .i64 0, .int .i64 0, .int .u64 0, .int .u64 0, .int .u64 0, .string ⟨#[]⟩]), 6, 56) := by kernel_rfl
theorem new_cell (w : World) (v : Value) (t : TypeId) (g : Nat) (h : g = w.heap.size) : (w.alloc (.cells #[v] t)).cell? ⟨g, 0, none⟩ = some v := by
  rw [cell_of_row _ _ _ _ _ _ (alloc_at _ _ _ h)]; rfl
theorem t6_len (t : T) : (t6 t).length = 6 := rfl
theorem t6_one (t : T) : ∀ u ∈ t6 t, u.oneCell' = true := by
  intro u hu
  simp only [t6, List.mem_cons, List.not_mem_nil, or_false] at hu
  rcases hu with rfl | rfl | rfl | rfl | rfl | rfl <;> rfl
theorem ReadT.two (w : World) (t : TypeId) (a b : T) : ReadT (w.alloc (.cells #[.int .i64 a.op, .int .i64 a.g, .int .u64 a.a, .int .u64 a.b, .int .u64 a.c, .string a.p, .int .i64 b.op, .int .i64 b.g, .int .u64 b.a, .int .u64 b.b, .int .u64 b.c, .string b.p] t)) (.slice (some ⟨w.heap.size, 0, none⟩) 2 2) [a, b] := by
  refine ⟨some ⟨w.heap.size, 0, none⟩, 2, rfl, fun i hi => ⟨w.heap.size, 0, rfl, by simp, fun j u hu => ?_⟩⟩
  have hi3 : i < 2 := hi
  rw [cell_of_row _ _ _ _ _ _ (alloc_at _ _ _ rfl)]
  have hj : j < 6 := (List.getElem?_eq_some_iff.1 hu).1
  obtain rfl | rfl : i = 0 ∨ i = 1 := by omega
  · obtain rfl | rfl | rfl | rfl | rfl | rfl : j = 0 ∨ j = 1 ∨ j = 2 ∨ j = 3 ∨ j = 4 ∨ j = 5 := by omega
    all_goals simpa [t6] using hu
  · obtain rfl | rfl | rfl | rfl | rfl | rfl : j = 0 ∨ j = 1 ∨ j = 2 ∨ j = 3 ∨ j = 4 ∨ j = 5 := by omega
    all_goals simpa [t6] using hu
structure BSt (w wx : World) (x : V) (vL vK : Value) (L K : List T) : Prop where
  atx : AtP wx w.heap.size x
  rl : ReadT wx vL L
  rk : ReadT wx vK K
  bel : Below w.heap.size w wx
theorem BSt.below {w wx wy : World} {x : V} {vL vK : Value} {L K : List T} (h : BSt w wx x vL vK L K) (b : Below wx.heap.size wx wy) : BSt w wy x vL vK L K :=
  ⟨h.atx.below b, h.rl.below b, h.rk.below b, Below.up h.bel b⟩
structure ESt (w wx : World) (x : V) (vL vK vN vO : Value) (L K : List T) : Prop where
  st : BSt w wx x vL vK L K
  rn : ReadT wx vN (L ++ K)
  ro : ReadT wx vO [⟨5, 3, x.a, x.b, x.c, x.p⟩, ⟨4, 3, x.a, x.b, x.c, x.p⟩]
theorem ESt.below {w wx wy : World} {x : V} {vL vK vN vO : Value} {L K : List T} (h : ESt w wx x vL vK vN vO L K) (b : Below wx.heap.size wx wy) : ESt w wy x vL vK vN vO L K :=
  ⟨h.st.below b, h.rn.below b, h.ro.below b⟩
theorem OwnG.slice2 {α : Type} {w : World} {base e k : Nat} {f : α → List Value} {v : Value} {ls ys : List α} (h : OwnG w base e k f v (ls ++ ys)) : ∃ A c, v = .slice A (ls.length + ys.length) c := by
  obtain ⟨A, c, hv⟩ := h.slice
  exact ⟨A, c, by rw [hv, List.length_append]⟩
theorem termsHold_row (g c : Nat) (rv : Value) (L : List T) (x : V) (pre res : Bool) (w : World) (hc : w.cell? ⟨g, 0, none⟩ = some rv) (hr : ReadT w rv L) (hg : LGood [L]) (gx : x.pGood) (zx : x.p.size ≤ 2147483647) (hn : NumErrs w) (hres : Hid (termsHold x pre [L] = res)) :
    Calls Tryd.prog 25 #[.slice (some ⟨g, 0, none⟩) 1 c, .agg #[.int .u64 x.a, .int .u64 x.b, .int .u64 x.c, .string x.p, .string x.m], .bool pre] w fun e w' => e = .returned (.bool res) ∧ Below w.heap.size w w' :=
  termsHold_any _ [L] x pre res w (ReadTT.one (Sent.cell_lt hc) hc hr) hg gx zx hn hres
set_option maxHeartbeats 8000000 in
theorem both_law (vL vK : Value) (L K : List T) (x : V) (pre : Bool) (w : World) (hL : ReadT w vL L) (hK : ReadT w vK K) (bL : Big L) (bK : Big K) (hn : NumErrs w) (h1 : x.p.size ≤ 140737488351232) (h2 : x.m.size ≤ 140737488351232) :
    Calls Tryd.prog 6 #[vL, vK, .agg #[.int .u64 x.a, .int .u64 x.b, .int .u64 x.c, .string x.p, .string x.m], .bool pre] w fun e w' => e = .returned (.bool true) ∧ Below w.heap.size w w' := by
  have hL0 := hL
  have hK0 := hK
  obtain ⟨A1, c1, rfl, _⟩ := hL
  obtain ⟨A2, c2, rfl, _⟩ := hK
  have HN := Lib.hid hn
  have HBL := Lib.hid bL
  have HBK := Lib.hid bK
  have hB0 : BSt w (w.alloc (.cells #[.int .u64 x.a, .int .u64 x.b, .int .u64 x.c, .string x.p, .string x.m] 26)) x (.slice A1 L.length c1) (.slice A2 K.length c2) L K := ⟨alloc_at _ _ _ rfl, hL0.below (below_alloc _ _), hK0.below (below_alloc _ _), below_alloc _ _⟩
  have I := Lib.hid hB0
  clear hn bL bK hL0 hK0 hB0
  go_enter Tryd.func6, Tryd.ntmps6
  go_wp2_with fail
  generalize (w.alloc (.cells #[.int .u64 x.a, .int .u64 x.b, .int .u64 x.c, .string x.p, .string x.m] 26)) = W at *
  obtain ⟨d0, d1, d2, d3, d4⟩ := I.out.atx.cells
  go_upto_region 3 with (first
    | (go_at_call 27; (with_reducible refine (zzFits12_any _ L _ I.out.rl HBL.out (fitsL L) (Lib.hid rfl)).mono ?_); rintro e w' ⟨rfl, hb⟩; clear d0 d1 d2 d3 d4; replace I := Lib.hid (I.out.below hb); clear hb; obtain ⟨d0, d1, d2, d3, d4⟩ := I.out.atx.cells; rcases hf : fitsL L with _ | _; all_goals (have HFL := Lib.hid hf; clear hf))
    | (go_at_call 27; (with_reducible refine (zzFits12_any _ K _ I.out.rk HBK.out (fitsL K) (Lib.hid rfl)).mono ?_); rintro e w' ⟨rfl, hb⟩; clear d0 d1 d2 d3 d4; replace I := Lib.hid (I.out.below hb); clear hb; obtain ⟨d0, d1, d2, d3, d4⟩ := I.out.atx.cells; rcases hf : fitsL K with _ | _; all_goals (have HFK := Lib.hid hf; clear hf))
    | (go_at_call 9; (with_reducible refine (zz_x x x.fits _ h1 h2 (Lib.hid rfl)).mono ?_); rintro e w' ⟨rfl, hb⟩; clear d0 d1 d2 d3 d4; replace I := Lib.hid (I.out.below hb); clear hb; obtain ⟨d0, d1, d2, d3, d4⟩ := I.out.atx.cells; rcases hf : x.fits with _ | _; all_goals (have HFX := Lib.hid hf; clear hf)))
  all_goals try (go_ret; exact ⟨rfl, I.out.bel⟩)
  have HZX := Lib.hid (V.fits_le HFX.out)
  go_cut [48] (fun s48 wx => ∃ z, s48 = .bool z ∧ Hid (z = false → scB [L] = true ∧ scB [K] = true ∧ x.law = true ∧ (pre = true ∨ M.bs x.p = [])) ∧ Hid (BSt w wx x (.slice A1 L.length c1) (.slice A2 K.length c2) L K))
  case first =>
    rcases empty_cases x.p with ⟨hp, hq⟩ | ⟨hp, hq⟩
    all_goals (have HQ := Lib.hid hq; clear hq)
    all_goals cases pre
    all_goals go_wp2_with (first
      | (go_at_call 28; (with_reducible refine (scList_any _ L _ I.out.rl HFL.out (scB [L]) (Lib.hid rfl)).mono ?_); rintro e w' ⟨rfl, hb⟩; clear d0 d1 d2 d3 d4; replace I := Lib.hid (I.out.below hb); clear hb; obtain ⟨d0, d1, d2, d3, d4⟩ := I.out.atx.cells; rcases hf : scB [L] with _ | _; all_goals (have HSL := Lib.hid hf; clear hf))
      | (go_at_call 28; (with_reducible refine (scList_any _ K _ I.out.rk HFK.out (scB [K]) (Lib.hid rfl)).mono ?_); rintro e w' ⟨rfl, hb⟩; clear d0 d1 d2 d3 d4; replace I := Lib.hid (I.out.below hb); clear hb; obtain ⟨d0, d1, d2, d3, d4⟩ := I.out.atx.cells; rcases hf : scB [K] with _ | _; all_goals (have HSK := Lib.hid hf; clear hf))
      | (go_at_call 11; (with_reducible refine (svGood_one_at _ _ _ x x.law rfl HZX (Lib.hid rfl)).mono ?_); rintro e w' ⟨rfl, hb⟩; clear d0 d1 d2 d3 d4; replace I := Lib.hid (I.out.below hb); clear hb; obtain ⟨d0, d1, d2, d3, d4⟩ := I.out.atx.cells; rcases hf : x.law with _ | _; all_goals (have HLX := Lib.hid hf; clear hf)))
    all_goals go_meet
    all_goals
      refine ⟨_, rfl, Lib.hid ?_, I⟩
      first
        | (intro h; cases h; done)
        | (intro _; exact ⟨HSL.out, HSK.out, HLX.out, .inl (by first | rfl | trivial)⟩)
        | (intro _; exact ⟨HSL.out, HSK.out, HLX.out, .inr (by simpa using HQ.out)⟩)
  case rest =>
  obtain ⟨z, rfl, HZ, I2⟩ := hcut
  clear d0 d1 d2 d3 d4 I
  have I := I2
  clear I2
  obtain ⟨d0, d1, d2, d3, d4⟩ := I.out.atx.cells
  rcases z with _ | _
  case true =>
    go_wp2
    go_ret
    exact ⟨rfl, I.out.bel⟩
  obtain ⟨hs1, hs2, hlx, hin⟩ := HZ.out (by first | rfl | trivial)
  have hg1 := gtB_good (scB_gt hs1) (by decide) (by rw [fitsLL_one]; exact HFL.out)
  have hg2 := gtB_good (scB_gt hs2) (by decide) (by rw [fitsLL_one]; exact HFK.out)
  have hl1 := (hg1.2.1 L (List.mem_singleton.2 rfl)).2
  have hl2 := (hg2.2.1 K (List.mem_singleton.2 rfl)).2
  obtain ⟨_, g1, o1, rfl, hgb1, hcc1⟩ := I.out.rl.cellsAt (hg1.2.1 L (List.mem_singleton.2 rfl)).1
  obtain ⟨_, g2, o2, rfl, hgb2, hcc2⟩ := I.out.rk.cellsAt (hg2.2.1 K (List.mem_singleton.2 rfl)).1
  have hgn : LGood [L ++ K] := ⟨by simp, fun M hM => by
    obtain rfl := List.mem_singleton.1 hM
    refine ⟨by rw [List.length_append]; omega, fun t ht => ?_⟩
    rcases List.mem_append.1 ht with ht | ht
    · exact (hg1.1.2 L (List.mem_singleton.2 rfl)).2 t ht
    · exact (hg2.1.2 K (List.mem_singleton.2 rfl)).2 t ht⟩
  have GX := Lib.hid (V.law_pGood hlx)
  have zx := HZX.out.1
  have hgo : LGood [[⟨5, 3, x.a, x.b, x.c, x.p⟩, ⟨4, 3, x.a, x.b, x.c, x.p⟩]] := ⟨by simp, fun M hM => by
    obtain rfl := List.mem_singleton.1 hM
    refine ⟨by simp, fun t ht => ?_⟩
    simp only [List.mem_cons, List.not_mem_nil, or_false] at ht
    rcases ht with rfl | rfl
    · exact ⟨⟨.inr (.inr (.inr rfl)), ⟨by simp, by simp⟩, by simp, by simp, by simp, by simp, by simp, GX.out⟩, zx⟩
    · exact ⟨⟨.inr (.inr (.inr rfl)), ⟨by simp, by simp⟩, by simp, by simp, by simp, by simp, by simp, GX.out⟩, zx⟩⟩
  have HGL := Lib.hid hg1.1
  have HGK := Lib.hid hg2.1
  have HGN := Lib.hid hgn
  have HGO := Lib.hid hgo
  have HIN := Lib.hid hin
  have HOWN0 : Hid (OwnG (wc.alloc (.cells #[] 24)) wc.heap.size 24 6 t6 (.slice (some ⟨wc.heap.size, 0, none⟩) 0 0) []) := Lib.hid ⟨rfl, .inr ⟨_, 0, #[], rfl, Nat.le_refl _, alloc_at _ _ _ rfl, Nat.le_refl _, Nat.zero_le _, rfl, rfl⟩⟩
  have HCC1 : Hid (∀ i (_ : i < L.length) j u, (t6 L[i])[j]? = some u → (wc.alloc (.cells #[] 24)).cell? ((⟨g1, o1, none⟩ : Addr).add (i * 6 + j)) = some u) := Lib.hid fun i hi j u hu => by
    rw [add_at]
    exact (World.cell?_alloc_lt _ _ ⟨g1, o1 + (i * 6 + j), none⟩ hgb1).trans (by have := hcc1 i hi j u hu; rw [add_at] at this; exact this)
  have HCC2 := Lib.hid hcc2
  have HGB2 := Lib.hid hgb2
  clear hs1 hs2 hlx hin hg1 hg2 hgb1 hcc1 hgb2 hcc2 hgn hgo HZ
  go_upto_region 6 with (first
    | (at_builtin; refine append_rows rfl (.tmp 49) (.tmp 50) 41 24 _ 6 56 rfl Tryd.underlying41 infoT rfl (by decide) wc.heap.size t6 _ [] rfl HOWN0.out ⟨g1, o1, none⟩ c1 L rfl t6_len t6_one HCC1.out ?e1 ?e2 ?e3 ?_; rotate_left 3; intro v4 w4 hown4 hg4; have hb4 : Below wc.heap.size wc w4 := (below_alloc wc (.cells #[] 24)).trans (OwnG.below HOWN0.out (by simp) hg4); have HB4 := Lib.hid hb4; have HO4 := Lib.hid hown4; have HCC4 : Hid (∀ i (_ : i < K.length) j u, (t6 K[i])[j]? = some u → w4.cell? ((⟨g2, o2, none⟩ : Addr).add (i * 6 + j)) = some u) := Lib.hid (fun i hi j u hu => (hb4.cell (p := (⟨g2, o2, none⟩ : Addr).add (i * 6 + j)) (by rw [add_at]; exact HGB2.out)).trans (HCC2.out i hi j u hu)); have HSZ4 := Lib.hid hb4.size; clear hb4 hown4 hg4)
    | (at_builtin; refine append_rows rfl (.tmp 51) (.tmp 52) 41 24 _ 6 56 rfl Tryd.underlying41 infoT rfl (by decide) wc.heap.size t6 _ ([] ++ L) rfl HO4.out ⟨g2, o2, none⟩ c2 K rfl t6_len t6_one HCC4.out ?f1 ?f2 ?f3 ?_; rotate_left 3; intro v5 w5 hown5 hg5; have HB5 := Lib.hid (HB4.out.trans (OwnG.below HO4.out HSZ4.out hg5)); have HRN := Lib.hid (show ReadT w5 v5 (L ++ K) from OwnG.read t6_len hown5); obtain ⟨A9, c9, rfl⟩ := OwnG.slice2 (ls := L) (ys := K) hown5; clear hown5 hg5))
  all_goals try first
    | exact HSZ4.out
    | (simp only [List.length_nil, List.length_append]; omega)
    | omega
  have I5 := Lib.hid (I.out.below HB5.out)
  clear d0 d1 d2 d3 d4 I
  obtain ⟨d0, d1, d2, d3, d4⟩ := I5.out.atx.cells
  go_region_held3 (fun w' => w'.cell? ⟨w.heap.size, 0, none⟩ = some (.int .u64 x.a) ∧ w'.cell? ⟨w.heap.size, 1, none⟩ = some (.int .u64 x.b) ∧ w'.cell? ⟨w.heap.size, 2, none⟩ = some (.int .u64 x.c) ∧ w'.cell? ⟨w.heap.size, 3, none⟩ = some (.string x.p) ∧ w'.cell? ⟨w.heap.size, 4, none⟩ = some (.string x.m)) (first | (refine ⟨?_, ?_, ?_, ?_, ?_⟩ <;> (repeat (first | with_reducible assumption | with_reducible apply cell_alloc_some | with_reducible apply cell_drew_some | with_reducible refine cell_below (by with_reducible assumption) ?_ | with_reducible refine cell_set_other (by omega) ?_))) | fail) (first
    | (go_at_call 29; (with_reducible refine (stTerm_3 5 x _).mono ?_); rintro e wa ⟨rfl, hba⟩; simp only [T.val]; have HBA := Lib.hid (Below.up (w := w5) (by (repeat (first | exact Below.refl _ _ | apply Below.drew | (apply below_alloc_on (Nat.le_refl _))))) hba))
    | (go_at_call 29; (with_reducible refine (stTerm_3 4 x _).mono ?_); rintro e wb ⟨rfl, hbb⟩; simp only [T.val]; have HBB := Lib.hid (Below.up HBA.out (Below.up (w := wa) (by (repeat (first | exact Below.refl _ _ | apply Below.drew | (apply below_alloc_on (Nat.le_refl _))))) hbb)))
    | fail)
  have hb6 := Below.up HBB.out (below_alloc wb (.cells #[.int .i64 5, .int .i64 3, .int .u64 x.a, .int .u64 x.b, .int .u64 x.c, .string x.p, .int .i64 4, .int .i64 3, .int .u64 x.a, .int .u64 x.b, .int .u64 x.c, .string x.p] 24))
  have hE : ESt w (wb.alloc (.cells #[.int .i64 5, .int .i64 3, .int .u64 x.a, .int .u64 x.b, .int .u64 x.c, .string x.p, .int .i64 4, .int .i64 3, .int .u64 x.a, .int .u64 x.b, .int .u64 x.c, .string x.p] 24)) x (.slice (some ⟨g1, o1, none⟩) L.length c1) (.slice (some ⟨g2, o2, none⟩) K.length c2) (.slice A9 (L.length + K.length) c9) (.slice (some ⟨wb.heap.size, 0, none⟩) 2 2) L K :=
    ⟨I5.out.below hb6, HRN.out.below hb6, ReadT.two wb _ ⟨5, 3, x.a, x.b, x.c, x.p⟩ ⟨4, 3, x.a, x.b, x.c, x.p⟩⟩
  go_wp2_with fail
  generalize wb.heap.size = N10 at *
  change Code.wp _ _ _ _ (wb.alloc (.cells #[.int .i64 5, .int .i64 3, .int .u64 x.a, .int .u64 x.b, .int .u64 x.c, .string x.p, .int .i64 4, .int .i64 3, .int .u64 x.a, .int .u64 x.b, .int .u64 x.c, .string x.p] 24))
  generalize (wb.alloc (.cells #[.int .i64 5, .int .i64 3, .int .u64 x.a, .int .u64 x.b, .int .u64 x.c, .string x.p, .int .i64 4, .int .i64 3, .int .u64 x.a, .int .u64 x.b, .int .u64 x.c, .string x.p] 24)) = W6 at *
  have E := Lib.hid hE
  have HNW := Lib.hid (HN.out.below hE.st.bel)
  obtain ⟨r1, hr1⟩ : ∃ r, termsHold x pre [L] = r := ⟨_, rfl⟩
  obtain ⟨r2, hr2⟩ : ∃ r, termsHold x pre [K] = r := ⟨_, rfl⟩
  have HR1 := Lib.hid hr1
  have HR2 := Lib.hid hr2
  have HRNN := Lib.hid (show termsHold x pre [L ++ K] = (r1 && r2) by rw [both_all HIN.out, hr1, hr2])
  have HRO := Lib.hid (own_both HIN.out)
  clear hb6 hE hr1 hr2 d0 d1 d2 d3 d4
  obtain ⟨d0, d1, d2, d3, d4⟩ := E.out.st.atx.cells
  go_upto_region 7 with fail
  go_cut [11, 12] (fun s11 s12 wx => s11 = .bool r1 ∧ s12 = .bool r2 ∧ Hid (ESt w wx x (.slice (some ⟨g1, o1, none⟩) L.length c1) (.slice (some ⟨g2, o2, none⟩) K.length c2) (.slice A9 (L.length + K.length) c9) (.slice (some ⟨N10, 0, none⟩) 2 2) L K))
  case first =>
    have HBT : Hid (Below W6.heap.size W6 W6) := Lib.hid (Below.refl _ _)
    go_region_held3 (fun w' => w'.cell? ⟨w.heap.size, 0, none⟩ = some (.int .u64 x.a) ∧ w'.cell? ⟨w.heap.size, 1, none⟩ = some (.int .u64 x.b) ∧ w'.cell? ⟨w.heap.size, 2, none⟩ = some (.int .u64 x.c) ∧ w'.cell? ⟨w.heap.size, 3, none⟩ = some (.string x.p) ∧ w'.cell? ⟨w.heap.size, 4, none⟩ = some (.string x.m)) (first | (refine ⟨?_, ?_, ?_, ?_, ?_⟩ <;> (repeat (first | with_reducible assumption | with_reducible apply cell_alloc_some | with_reducible apply cell_drew_some | with_reducible refine cell_below (by with_reducible assumption) ?_ | with_reducible refine cell_set_other (by omega) ?_))) | fail) (first
      | (go_at_call 25; (with_reducible refine (termsHold_row _ _ (.slice (some ⟨g1, o1, none⟩) L.length c1) L x pre r1 _ ?_ (E.out.st.rl.below (Below.up HBT.out (by (repeat (first | exact Below.refl _ _ | apply Below.drew | (apply below_alloc_on (Nat.le_refl _))))))) HGL.out GX.out zx (HNW.out.below (Below.up HBT.out (by (repeat (first | exact Below.refl _ _ | apply Below.drew | (apply below_alloc_on (Nat.le_refl _))))))) HR1).mono ?_); (focus ((repeat (first | (with_reducible refine new_cell _ _ _ _ ?_; simp; done) | with_reducible apply cell_alloc_some | with_reducible apply cell_drew_some | (with_reducible apply cell_below; with_reducible assumption))); done)); rintro e wh ⟨rfl, hb⟩; replace HBT := Lib.hid (Below.up HBT.out (Below.up (by (repeat (first | exact Below.refl _ _ | apply Below.drew | (apply below_alloc_on (Nat.le_refl _))))) hb)))
      | (go_at_call 25; (with_reducible refine (termsHold_row _ _ (.slice (some ⟨g2, o2, none⟩) K.length c2) K x pre r2 _ ?_ (E.out.st.rk.below (Below.up HBT.out (by (repeat (first | exact Below.refl _ _ | apply Below.drew | (apply below_alloc_on (Nat.le_refl _))))))) HGK.out GX.out zx (HNW.out.below (Below.up HBT.out (by (repeat (first | exact Below.refl _ _ | apply Below.drew | (apply below_alloc_on (Nat.le_refl _))))))) HR2).mono ?_); (focus ((repeat (first | (with_reducible refine new_cell _ _ _ _ ?_; simp; done) | with_reducible apply cell_alloc_some | with_reducible apply cell_drew_some | (with_reducible apply cell_below; with_reducible assumption))); done)); rintro e wh ⟨rfl, hb⟩; replace HBT := Lib.hid (Below.up HBT.out (Below.up (by (repeat (first | exact Below.refl _ _ | apply Below.drew | (apply below_alloc_on (Nat.le_refl _))))) hb)))
      | fail)
    all_goals
      try go_wp2
      go_meet
      exact ⟨rfl, rfl, Lib.hid (E.out.below (Below.up HBT.out (by (repeat (first | exact Below.refl _ _ | apply Below.drew | (apply below_alloc_on (Nat.le_refl _)))))))⟩
  case rest =>
  obtain ⟨rfl, rfl, E2⟩ := hcut
  clear d0 d1 d2 d3 d4 E
  have E := E2
  clear E2
  have HNC := Lib.hid (HN.out.below E.out.st.bel)
  obtain ⟨d0, d1, d2, d3, d4⟩ := E.out.st.atx.cells
  have hk9 : BSt w (wc.alloc (.cells #[.slice A9 (L.length + K.length) c9] 41)) x (.slice (some ⟨g1, o1, none⟩) L.length c1) (.slice (some ⟨g2, o2, none⟩) K.length c2) L K := E.out.st.below (below_alloc _ _)
  obtain ⟨k0, k1, k2, k3, k4⟩ := hk9.atx.cells
  clear hk9
  rcases r1 with _ | _ <;> rcases r2 with _ | _
  all_goals
    go_wp2_with (first
      | (go_at_call 25; (with_reducible refine (termsHold_row _ _ (.slice A9 (L.length + K.length) c9) (L ++ K) x pre _ _ ?_ (E.out.rn.below (below_alloc _ _)) HGN.out GX.out zx (HNC.out.below (below_alloc _ _)) HRNN).mono ?_); (focus ((repeat (first | (with_reducible refine new_cell _ _ _ _ ?_; simp; done) | with_reducible apply cell_alloc_some | with_reducible apply cell_drew_some | (with_reducible apply cell_below; with_reducible assumption))); done)); rintro e w' ⟨rfl, hb⟩; replace HNC := Lib.hid (HNC.out.below (Below.up (below_alloc _ _) hb)); replace E := Lib.hid (E.out.below (Below.up (below_alloc _ _) hb)); clear hb d0 d1 d2 d3 d4 k0 k1 k2 k3 k4; obtain ⟨d0, d1, d2, d3, d4⟩ := E.out.st.atx.cells; have hk9 : BSt w (w'.alloc (.cells #[.slice (some ⟨N10, 0, none⟩) 2 2] 41)) x (.slice (some ⟨g1, o1, none⟩) L.length c1) (.slice (some ⟨g2, o2, none⟩) K.length c2) L K := E.out.st.below (below_alloc _ _); obtain ⟨k0, k1, k2, k3, k4⟩ := hk9.atx.cells; clear hk9)
      | (go_at_call 25; (with_reducible refine (termsHold_row _ _ (.slice (some ⟨N10, 0, none⟩) 2 2) [⟨5, 3, x.a, x.b, x.c, x.p⟩, ⟨4, 3, x.a, x.b, x.c, x.p⟩] x pre true _ ?_ (E.out.ro.below (below_alloc _ _)) HGO.out GX.out zx (HNC.out.below (below_alloc _ _)) HRO).mono ?_); (focus ((repeat (first | (with_reducible refine new_cell _ _ _ _ ?_; simp; done) | with_reducible apply cell_alloc_some | with_reducible apply cell_drew_some | (with_reducible apply cell_below; with_reducible assumption))); done)); rintro e w' ⟨rfl, hb⟩; replace HNC := Lib.hid (HNC.out.below (Below.up (below_alloc _ _) hb)); replace E := Lib.hid (E.out.below (Below.up (below_alloc _ _) hb)); clear hb d0 d1 d2 d3 d4 k0 k1 k2 k3 k4; obtain ⟨d0, d1, d2, d3, d4⟩ := E.out.st.atx.cells))
    go_ret
    exact ⟨rfl, E.out.st.bel⟩
theorem both_walk (vL : Value) (L : List T) (vK : Value) (K : List T) (x : V) (pre : Bool) (w : World) (hE : NumErrs w) (hL : ReadT w vL L) (bL : Big L) (hK : ReadT w vK K) (bK : Big K) (hu : x.u64) (hz : x.p.size ≤ 140737488351232 ∧ x.m.size ≤ 140737488351232) :
    Calls Tryd.prog 6 #[vL, vK, x.v, .bool pre] w fun e w' => e = .returned (.bool true) ∧ Below w.heap.size w w' :=
  both_law vL vK L K x pre w hL hK bL bK hE hz.1 hz.2
end Go.Proofs.YtagmdhinbkponaaDoor
