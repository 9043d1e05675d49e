/-
  laws.FnSemverCross returns true for all lists of lists of terms and versions.
-/
import Derived.Test.YtnkdpgcfaelpkaaDoorSiAll
import Derived.Test.YtnkdpgcfaelpkaaDoorCrossPl
import Derived.Test.YtnkdpgcfaelpkaaDoorIncLaw
import Derived.Deep.DeepCutAuto
namespace Go.Proofs.YtnkdpgcfaelpkaaDoor
open Go.RowKit
set_option maxRecDepth 100000
set_option linter.unusedVariables false

structure XS (w wx : World) (x : V) (v1 v2 : Value) (LL KK : List (List T)) : Prop where
  atx : AtP wx w.heap.size x
  rl : ReadTT wx v1 LL
  rk : ReadTT wx v2 KK
  bel : Below w.heap.size w wx
theorem XS.below {w wx wy : World} {x : V} {v1 v2 : Value} {LL KK : List (List T)} (h : XS w wx x v1 v2 LL KK) (b : Below wx.heap.size wx wy) : XS w wy x v1 v2 LL KK :=
  ⟨h.atx.below b, h.rl.below b, h.rk.below b, Below.up h.bel b⟩
theorem siGood_at (n : Nat) (w : World) (t : TypeId) (v0 v1 : Value) (LL KK : List (List T)) (r : Bool) (hn : n = w.heap.size) (h0 : ReadTT w v0 LL) (h1 : ReadTT w v1 KK) (f0 : fitsLL LL = true) (f1 : fitsLL KK = true) (hr : Hid ((siB LL && siB KK) = r)) :
    Calls Tryd.prog 13 #[.slice (some ⟨n, 0, none⟩) 2 2] (w.alloc (.cells #[v0, v1] t)) fun e w' => e = .returned (.bool r) ∧ Below w.heap.size w w' := by
  subst hn
  have hb := below_alloc w (.cells #[v0, v1] t)
  refine (siGood_two w.heap.size 2 v0 v1 LL KK _ ?_ ?_ (h0.below hb) (h1.below hb) f0 f1 r hr).mono fun e w' ⟨h, b⟩ => ⟨h, Below.up hb b⟩
  · rw [cell_of_row _ _ _ _ _ _ (alloc_at _ _ _ rfl)]; rfl
  · rw [cell_of_row _ _ _ _ _ _ (alloc_at _ _ _ rfl)]; rfl
def ownT (x : V) : T := ⟨0, 3, x.a, x.b, x.c, x.p⟩
theorem read_own (w : World) (x : V) : ReadTT ((w.alloc (.cells #[.int .i64 0, .int .i64 3, .int .u64 x.a, .int .u64 x.b, .int .u64 x.c, .string x.p] 35)).alloc (.cells #[.slice (some ⟨w.heap.size, 0, none⟩) 1 1] 37)) (.slice (some ⟨w.heap.size + 1, 0, none⟩) 1 1) [[ownT x]] := by
  refine ReadTT.one (rv := .slice (some ⟨w.heap.size, 0, none⟩) 1 1) (by simp) ?_ ?_
  · rw [cell_of_row _ _ _ _ _ _ (alloc_at _ _ _ (by simp))]; rfl
  · exact ReadT.below (ReadT.one _ _ 35 (ownT x) (alloc_at _ _ _ rfl)) (below_alloc _ _)
theorem one_row (t : T) : ∀ L ∈ [[t]], L ≠ [] ∧ L.length ≤ 1000 := fun L hL => by
  obtain rfl := List.mem_singleton.1 hL
  exact ⟨by simp, by simp⟩
theorem one_good (t : T) (h : t.Good) (hp : t.p.size ≤ 2147483647) : LGood [[t]] := ⟨by simp, fun M hM => by
  obtain rfl := List.mem_singleton.1 hM
  refine ⟨by simp, fun u hu => ?_⟩
  obtain rfl := List.mem_singleton.1 hu
  exact ⟨h, hp⟩⟩
theorem own_goods {x : V} (gx : x.pGood) (zx : x.p.size ≤ 2147483647) : LGood (crossR [[allT]] [[ownT x]]) := by
  refine cross_good (one_good allT ?_ (by decide)) (one_good (ownT x) ?_ zx) (by simp) (by simp) (fun L hL => ?_) (fun L hL => ?_)
  · exact ⟨.inr (.inr (.inr rfl)), ⟨by decide, by decide⟩, by simp [allT], by simp [allT], by simp [allT], by simp [allT], by simp [allT], .inr (by decide)⟩
  · exact ⟨.inr (.inr (.inr rfl)), ⟨by simp [ownT], by simp [ownT]⟩, by simp [ownT], by simp [ownT], by simp [ownT], by simp [ownT], by simp [ownT], gx⟩
  · obtain rfl := List.mem_singleton.1 hL; simp
  · obtain rfl := List.mem_singleton.1 hL; simp
theorem own_holds {x : V} {pre : Bool} (h : pre = true ∨ M.bs x.p = []) (hg : x.pGood) : termsHold x pre (crossR [[allT]] [[ownT x]]) = true := cross_own h hg
set_option maxHeartbeats 16000000 in
theorem cross_law (v1 v2 : Value) (LL KK : List (List T)) (x : V) (pre : Bool) (w : World) (hL : ReadTT w v1 LL) (hK : ReadTT w v2 KK) (bL : BigL LL) (bK : BigL KK) (hn : NumErrs w) (h1 : x.p.size ≤ 140737488351232) (h2 : x.m.size ≤ 140737488351232) :
    Calls Tryd.prog 4 #[v1, v2, .agg #[.int .u64 x.a, .int .u64 x.b, .int .u64 x.c, .string x.p, .string x.m], .bool pre] w fun e w' => e = .returned (.bool true) ∧ Below w.heap.size w w' := by
  have HN := Lib.hid hn
  have HBL := Lib.hid bL
  have HBK := Lib.hid bK
  obtain ⟨A1, c1, rfl, _⟩ := hL.at_
  obtain ⟨A2, c2, rfl, _⟩ := hK.at_
  have hB0 : XS w (w.alloc (.cells #[.int .u64 x.a, .int .u64 x.b, .int .u64 x.c, .string x.p, .string x.m] 24)) x (.slice A1 LL.length c1) (.slice A2 KK.length c2) LL KK := ⟨alloc_at _ _ _ rfl, hL.below (below_alloc _ _), hK.below (below_alloc _ _), below_alloc _ _⟩
  have I := Lib.hid hB0
  clear hn bL bK hL hK hB0
  go_enter Tryd.func4, Tryd.ntmps4
  go_wp2_with fail
  generalize (w.alloc (.cells #[.int .u64 x.a, .int .u64 x.b, .int .u64 x.c, .string x.p, .string x.m] 24)) = W at *
  obtain ⟨d0, d1, d2, d3, d4⟩ := I.out.atx.cells
  go_upto_region 3 with (first
    | (go_at_call 12; (with_reducible refine (zzFits11_any _ LL _ I.out.rl HBL.out (fitsLL LL) (Lib.hid rfl)).mono ?_); rintro e w' ⟨rfl, hb⟩; clear d0 d1 d2 d3 d4; replace I := Lib.hid (I.out.below hb); clear hb; obtain ⟨d0, d1, d2, d3, d4⟩ := I.out.atx.cells; rcases hf : fitsLL LL with _ | _; all_goals (have HFL := Lib.hid hf; clear hf))
    | (go_at_call 12; (with_reducible refine (zzFits11_any _ KK _ I.out.rk HBK.out (fitsLL KK) (Lib.hid rfl)).mono ?_); rintro e w' ⟨rfl, hb⟩; clear d0 d1 d2 d3 d4; replace I := Lib.hid (I.out.below hb); clear hb; obtain ⟨d0, d1, d2, d3, d4⟩ := I.out.atx.cells; rcases hf : fitsLL KK with _ | _; all_goals (have HFK := Lib.hid hf; clear hf))
    | (go_at_call 5; (with_reducible refine (zz_x x x.fits _ h1 h2 (Lib.hid rfl)).mono ?_); rintro e w' ⟨rfl, hb⟩; clear d0 d1 d2 d3 d4; replace I := Lib.hid (I.out.below hb); clear hb; obtain ⟨d0, d1, d2, d3, d4⟩ := I.out.atx.cells; rcases hf : x.fits with _ | _; all_goals (have HFX := Lib.hid hf; clear hf)))
  all_goals try (go_ret; exact ⟨rfl, I.out.bel⟩)
  have HZX := Lib.hid (V.fits_le HFX.out)
  go_cut [43] (fun s43 wx => ∃ z, s43 = .bool z ∧ Hid (z = false → siB LL = true ∧ siB KK = true ∧ x.law = true ∧ (pre = true ∨ M.bs x.p = [])) ∧ Hid (XS w wx x (.slice A1 LL.length c1) (.slice A2 KK.length c2) LL KK))
  case first =>
    rcases empty_cases x.p with ⟨hp, hq⟩ | ⟨hp, hq⟩
    all_goals (have HQ := Lib.hid hq; clear hq)
    all_goals cases pre
    all_goals go_wp2_with (first
      | (go_at_call 13; (with_reducible refine (siGood_at _ _ _ _ _ LL KK (siB LL && siB KK) rfl I.out.rl I.out.rk HFL.out HFK.out (Lib.hid rfl)).mono ?_); rintro e w' ⟨rfl, hb⟩; clear d0 d1 d2 d3 d4; replace I := Lib.hid (I.out.below hb); clear hb; obtain ⟨d0, d1, d2, d3, d4⟩ := I.out.atx.cells; rcases hf : (siB LL && siB KK) with _ | _; all_goals (have HSL := Lib.hid hf; clear hf))
      | (go_at_call 14; (with_reducible refine (svGood_one_at _ _ _ x x.law rfl HZX (Lib.hid rfl)).mono ?_); rintro e w' ⟨rfl, hb⟩; clear d0 d1 d2 d3 d4; replace I := Lib.hid (I.out.below hb); clear hb; obtain ⟨d0, d1, d2, d3, d4⟩ := I.out.atx.cells; rcases hf : x.law with _ | _; all_goals (have HLX := Lib.hid hf; clear hf)))
    all_goals go_meet
    all_goals
      refine ⟨_, rfl, Lib.hid ?_, I⟩
      first
        | (intro h; cases h; done)
        | (intro _; exact ⟨(Bool.and_eq_true _ _ ▸ HSL.out).1, (Bool.and_eq_true _ _ ▸ HSL.out).2, HLX.out, .inl (by first | rfl | trivial)⟩)
        | (intro _; exact ⟨(Bool.and_eq_true _ _ ▸ HSL.out).1, (Bool.and_eq_true _ _ ▸ HSL.out).2, HLX.out, .inr (by simpa using HQ.out)⟩)
  case rest =>
  obtain ⟨z, rfl, HZ, I2⟩ := hcut
  clear d0 d1 d2 d3 d4 I
  have I := I2
  clear I2
  obtain ⟨d0, d1, d2, d3, d4⟩ := I.out.atx.cells
  rcases z with _ | _
  case true =>
    go_wp2
    go_ret
    exact ⟨rfl, I.out.bel⟩
  obtain ⟨hs1, hs2, hlx, hin⟩ := HZ.out (by first | rfl | trivial)
  unfold siB at hs1 hs2
  rw [Bool.and_eq_true] at hs1 hs2
  have hg1 := gtB_good hs1.1 (by decide) HFL.out
  have hg2 := gtB_good hs2.1 (by decide) HFK.out
  have GX := Lib.hid (V.law_pGood hlx)
  have HIN := Lib.hid hin
  have HGL := Lib.hid hg1.1
  have HGK := Lib.hid hg2.1
  have HGC := Lib.hid (cross_good hg1.1 hg2.1 hg1.2.2.2 hg2.2.2.2 (fun L hL => by have := (hg1.2.1 L hL).2; omega) (fun L hL => by have := (hg2.2.1 L hL).2; omega))
  have HL1 := Lib.hid (show LL.length ≤ 1000 by have := hg1.2.2.2; omega)
  have HK1 := Lib.hid (show KK.length ≤ 1000 by have := hg2.2.2.2; omega)
  have HR1 := Lib.hid (fun L hL => (⟨(hg1.2.1 L hL).1, (hg1.1.2 L hL).1⟩ : L ≠ [] ∧ L.length ≤ 1000))
  have HR2 := Lib.hid (fun L hL => (⟨(hg2.2.1 L hL).1, (hg2.1.2 L hL).1⟩ : L ≠ [] ∧ L.length ≤ 1000))
  clear hs1 hs2 hlx hin hg1 hg2 HZ
  go_upto_region 6 with (go_at_call 15; (with_reducible refine (cross_any _ _ LL KK _ I.out.rl I.out.rk HL1.out HK1.out HR1.out HR2.out).mono ?_); rintro e w' ⟨vx, Rx, rfl, hm, hr, hb⟩; have hrx := hr.read; rw [hm] at hrx; obtain ⟨A8, c8, rfl⟩ := OwnG.slice hr.1; have HRX := Lib.hid hrx; clear hr hrx hm; clear d0 d1 d2 d3 d4; replace I := Lib.hid (I.out.below hb); clear hb; obtain ⟨d0, d1, d2, d3, d4⟩ := I.out.atx.cells)
  have HOH := Lib.hid (own_holds HIN.out GX.out)
  have HOG := Lib.hid (own_goods GX.out HZX.out.1)
  go_region_held3 (fun w' => w'.cell? ⟨w.heap.size, 0, none⟩ = some (.int .u64 x.a) ∧ w'.cell? ⟨w.heap.size, 1, none⟩ = some (.int .u64 x.b) ∧ w'.cell? ⟨w.heap.size, 2, none⟩ = some (.int .u64 x.c) ∧ w'.cell? ⟨w.heap.size, 3, none⟩ = some (.string x.p) ∧ w'.cell? ⟨w.heap.size, 4, none⟩ = some (.string x.m)) (first | (refine ⟨?_, ?_, ?_, ?_, ?_⟩ <;> (repeat (first | with_reducible assumption | with_reducible apply cell_alloc_some | with_reducible apply cell_drew_some | with_reducible refine cell_below (by with_reducible assumption) ?_ | with_reducible refine cell_set_other (by omega) ?_))) | fail) (first
    | (go_at_call 16; (with_reducible refine (siAll_any _).mono ?_); rintro e wa ⟨va, rfl, hra, hba⟩; have HRA := Lib.hid hra; have HBA := Lib.hid (Below.up (w := w') (by (repeat (first | exact Below.refl _ _ | apply Below.drew | (apply below_alloc_on (Nat.le_refl _))))) hba); clear hra)
    | (go_at_call 17; (with_reducible refine (stTerm_3 0 x _).mono ?_); rintro e wb ⟨rfl, hbb⟩; simp only [T.val]; have HBB2 := Lib.hid (Below.up (w := wa) (by (repeat (first | exact Below.refl _ _ | apply Below.drew | (apply below_alloc_on (Nat.le_refl _))))) hbb); have HBB := Lib.hid (Below.up HBA.out HBB2.out))
    | (go_at_call 15; (with_reducible refine (cross_any _ _ [[allT]] [[ownT x]] ((wb.alloc (.cells #[.int .i64 0, .int .i64 3, .int .u64 x.a, .int .u64 x.b, .int .u64 x.c, .string x.p] 35)).alloc (.cells #[.slice (some ⟨wb.heap.size, 0, none⟩) 1 1] 37)) (HRA.out.below (Below.up HBB2.out (by (repeat (first | exact Below.refl _ _ | apply Below.drew | (apply below_alloc_on (Nat.le_refl _))))))) (read_own wb x) (Nat.le_of_ble_eq_true rfl) (Nat.le_of_ble_eq_true rfl) (one_row _) (one_row _)).mono ?_); rintro e wd ⟨vy, Ry, rfl, hmy, hry, hbd⟩; have hyy := hry.read; rw [hmy] at hyy; obtain ⟨A9, c9, rfl⟩ := OwnG.slice hry.1; have HRY := Lib.hid hyy; have HBD := Lib.hid (Below.up (Below.up HBB.out (by (repeat (first | exact Below.refl _ _ | apply Below.drew | (apply below_alloc_on (Nat.le_refl _)))))) hbd); clear hyy hry hmy)
    | fail)
  have I6 := Lib.hid (I.out.below HBD.out)
  have HRX6 := Lib.hid (HRX.out.below HBD.out)
  have HN6 := Lib.hid (HN.out.below I6.out.bel)
  clear d0 d1 d2 d3 d4 I HRX
  obtain ⟨d0, d1, d2, d3, d4⟩ := I6.out.atx.cells
  go_wp2_with fail
  obtain ⟨r1, hr1⟩ : ∃ r, termsHold x pre LL = r := ⟨_, rfl⟩
  obtain ⟨r2, hr2⟩ : ∃ r, termsHold x pre KK = r := ⟨_, rfl⟩
  obtain ⟨re, hre⟩ : ∃ r, r = (r1 && r2) := ⟨_, rfl⟩
  have HR1 := Lib.hid hr1
  have HR2 := Lib.hid hr2
  have HRE := Lib.hid (show termsHold x pre (crossR LL KK) = re by rw [cross_all HIN.out, hr1, hr2, hre])
  clear hr1 hr2
  rcases r1 with _ | _
  · obtain rfl : re = false := hre.trans (Bool.false_and _)
    clear hre
    refine wp_region_held_drew (S := (fun w' => w'.cell? ⟨w.heap.size, 0, none⟩ = some (.int .u64 x.a) ∧ w'.cell? ⟨w.heap.size, 1, none⟩ = some (.int .u64 x.b) ∧ w'.cell? ⟨w.heap.size, 2, none⟩ = some (.int .u64 x.c) ∧ w'.cell? ⟨w.heap.size, 3, none⟩ = some (.string x.p) ∧ w'.cell? ⟨w.heap.size, 4, none⟩ = some (.string x.m))) (by kernel_rfl) ?_ (fun hHeld => ?_)
    · ((try dsimp only); all_goals (refine ⟨?_, ?_, ?_, ?_, ?_⟩ <;> (repeat (first | with_reducible assumption | with_reducible apply cell_alloc_some | with_reducible apply cell_drew_some | with_reducible refine cell_below (by with_reducible assumption) ?_ | with_reducible refine cell_set_other (by omega) ?_))))
    refine wpAnyH_take (i := 0) (v := ?_) rfl (by kernel_rfl) (by kernel_rfl) (by kernel_rfl) (fun _ _ _ h => h) (Or.inl ⟨by kernel_rfl, ?_⟩) (by assumption) ?_
    rotate_left
    · (intro w hSw; (try dsimp only at hSw); go_simp <;> with_reducible rfl)
    try (simp only [Act.put]; (try simp only [List.setIfInBounds_toArray]); (try simp only [List.set_cons_succ]); (try simp only [List.set_cons_zero]))
    refine wpAnyH_take (i := 1) (v := ?_) rfl (by kernel_rfl) (by kernel_rfl) (by kernel_rfl) (fun _ _ _ h => h) (Or.inl ⟨by kernel_rfl, ?_⟩) (by assumption) ?_
    rotate_left
    · (intro w hSw; (try dsimp only at hSw); go_simp <;> with_reducible rfl)
    try (simp only [Act.put]; (try simp only [List.setIfInBounds_toArray]); (try simp only [List.set_cons_succ]); (try simp only [List.set_cons_zero]))
    refine wpAnyH_take (i := 2) (v := ?_) rfl (by kernel_rfl) (by kernel_rfl) (by kernel_rfl) (fun _ _ _ h => h) (Or.inl ⟨by kernel_rfl, ?_⟩) (by assumption) ?_
    rotate_left
    · (intro w hSw; (try dsimp only at hSw); go_simp <;> with_reducible rfl)
    try (simp only [Act.put]; (try simp only [List.setIfInBounds_toArray]); (try simp only [List.set_cons_succ]); (try simp only [List.set_cons_zero]))
    refine wpAnyH_take (i := 4) (v := ?_) rfl (by kernel_rfl) (by kernel_rfl) (by kernel_rfl) (fun _ _ _ h => h) (Or.inl ⟨by kernel_rfl, ?_⟩) (by assumption) ?_
    rotate_left
    · (intro w hSw; (try dsimp only at hSw); go_simp <;> with_reducible rfl)
    try (simp only [Act.put]; (try simp only [List.setIfInBounds_toArray]); (try simp only [List.set_cons_succ]); (try simp only [List.set_cons_zero]))
    refine wpAnyH_take (i := 5) (v := ?_) rfl (by kernel_rfl) (by kernel_rfl) (by kernel_rfl) (fun _ _ _ h => h) (Or.inl ⟨by kernel_rfl, ?_⟩) (by assumption) ?_
    rotate_left
    · (intro w hSw; (try dsimp only at hSw); go_simp <;> with_reducible rfl)
    try (simp only [Act.put]; (try simp only [List.setIfInBounds_toArray]); (try simp only [List.set_cons_succ]); (try simp only [List.set_cons_zero]))
    refine wpAnyH_take (i := 6) (v := ?_) rfl (by kernel_rfl) (by kernel_rfl) (by kernel_rfl) (fun _ _ _ h => h) (Or.inl ⟨by kernel_rfl, ?_⟩) (by assumption) ?_
    rotate_left
    · (intro w hSw; (try dsimp only at hSw); go_simp <;> with_reducible rfl)
    try (simp only [Act.put]; (try simp only [List.setIfInBounds_toArray]); (try simp only [List.set_cons_succ]); (try simp only [List.set_cons_zero]))
    refine wpAnyH_ready (rs := [3]) (by kernel_rfl) (by simp) ?_
    refine AllReadyH.cons rfl (fun K hK => ?_) AllReadyH.nil
    go_simp
    (go_at_call 18; (with_reducible refine (termsHold_any _ (crossR LL KK) x pre false _ (HRX6.out.below (by (repeat (first | exact Below.refl _ _ | apply Below.drew | (apply below_alloc_on (Nat.le_refl _)))))) HGC.out GX.out HZX.out.1 (HN6.out.below (by (repeat (first | exact Below.refl _ _ | apply Below.drew | (apply below_alloc_on (Nat.le_refl _)))))) HRE).mono ?_); rintro e we3 ⟨rfl, hb⟩; have HB3 := Lib.hid (Below.up (w := wd) (by (repeat (first | exact Below.refl _ _ | apply Below.drew | (apply below_alloc_on (Nat.le_refl _))))) hb))
    refine hK.out _ _ ?_ (fun hHeld => ?_)
    · ((try dsimp only); all_goals (refine ⟨?_, ?_, ?_, ?_, ?_⟩ <;> (repeat (first | with_reducible assumption | with_reducible apply cell_alloc_some | with_reducible apply cell_drew_some | with_reducible refine cell_below (by with_reducible assumption) ?_ | with_reducible refine cell_set_other (by omega) ?_))))
    clear hK K
    try (simp only [Act.put]; (try simp only [List.setIfInBounds_toArray]); (try simp only [List.set_cons_succ]); (try simp only [List.set_cons_zero]))
    refine wpAnyH_ready (rs := [7]) (by kernel_rfl) (by simp) ?_
    refine AllReadyH.cons rfl (fun K hK => ?_) AllReadyH.nil
    go_simp
    (go_at_call 18; (with_reducible refine (termsHold_any _ LL x pre false _ (I6.out.rl.below (Below.up HB3.out (by (repeat (first | exact Below.refl _ _ | apply Below.drew | (apply below_alloc_on (Nat.le_refl _))))))) HGL.out GX.out HZX.out.1 (HN6.out.below (Below.up HB3.out (by (repeat (first | exact Below.refl _ _ | apply Below.drew | (apply below_alloc_on (Nat.le_refl _))))))) HR1).mono ?_); rintro e we7 ⟨rfl, hb⟩; have HB7 := Lib.hid (Below.up HB3.out (Below.up (by (repeat (first | exact Below.refl _ _ | apply Below.drew | (apply below_alloc_on (Nat.le_refl _))))) hb)))
    refine hK.out _ _ ?_ (fun hHeld => ?_)
    · ((try dsimp only); all_goals (refine ⟨?_, ?_, ?_, ?_, ?_⟩ <;> (repeat (first | with_reducible assumption | with_reducible apply cell_alloc_some | with_reducible apply cell_drew_some | with_reducible refine cell_below (by with_reducible assumption) ?_ | with_reducible refine cell_set_other (by omega) ?_))))
    clear hK K
    try (simp only [Act.put]; (try simp only [List.setIfInBounds_toArray]); (try simp only [List.set_cons_succ]); (try simp only [List.set_cons_zero]))
    refine wpAnyH_ready (rs := [8]) (by kernel_rfl) (by simp) ?_
    refine AllReadyH.cons rfl (fun K hK => ?_) AllReadyH.nil
    go_simp
    refine hK.out _ _ ?_ (fun hHeld => ?_)
    · ((try dsimp only); all_goals (refine ⟨?_, ?_, ?_, ?_, ?_⟩ <;> (repeat (first | with_reducible assumption | with_reducible apply cell_alloc_some | with_reducible apply cell_drew_some | with_reducible refine cell_below (by with_reducible assumption) ?_ | with_reducible refine cell_set_other (by omega) ?_))))
    clear hK K
    try (simp only [Act.put]; (try simp only [List.setIfInBounds_toArray]); (try simp only [List.set_cons_succ]); (try simp only [List.set_cons_zero]))
    refine wpAnyH_take (i := 9) (v := undef) rfl (by kernel_rfl) (by kernel_rfl) (by kernel_rfl) (fun _ _ _ h => h) (Or.inr ⟨by kernel_rfl, Eq.refl undef⟩) (by assumption) ?_
    try (simp only [Act.put]; (try simp only [List.setIfInBounds_toArray]); (try simp only [List.set_cons_succ]); (try simp only [List.set_cons_zero]))
    refine wpAnyH_take (i := 10) (v := undef) rfl (by kernel_rfl) (by kernel_rfl) (by kernel_rfl) (fun _ _ _ h => h) (Or.inr ⟨by kernel_rfl, Eq.refl undef⟩) (by assumption) ?_
    try (simp only [Act.put]; (try simp only [List.setIfInBounds_toArray]); (try simp only [List.set_cons_succ]); (try simp only [List.set_cons_zero]))
    refine wpAnyH_take (i := 11) (v := undef) rfl (by kernel_rfl) (by kernel_rfl) (by kernel_rfl) (fun _ _ _ h => h) (Or.inr ⟨by kernel_rfl, Eq.refl undef⟩) (by assumption) ?_
    try (simp only [Act.put]; (try simp only [List.setIfInBounds_toArray]); (try simp only [List.set_cons_succ]); (try simp only [List.set_cons_zero]))
    refine wpAnyH_take (i := 12) (v := undef) rfl (by kernel_rfl) (by kernel_rfl) (by kernel_rfl) (fun _ _ _ h => h) (Or.inr ⟨by kernel_rfl, Eq.refl undef⟩) (by assumption) ?_
    try (simp only [Act.put]; (try simp only [List.setIfInBounds_toArray]); (try simp only [List.set_cons_succ]); (try simp only [List.set_cons_zero]))
    refine wpAnyH_ready (rs := [13]) (by kernel_rfl) (by simp) ?_
    refine AllReadyH.cons rfl (fun K hK => ?_) AllReadyH.nil
    go_simp
    refine hK.out _ _ ?_ (fun hHeld => ?_)
    · ((try dsimp only); all_goals (refine ⟨?_, ?_, ?_, ?_, ?_⟩ <;> (repeat (first | with_reducible assumption | with_reducible apply cell_alloc_some | with_reducible apply cell_drew_some | with_reducible refine cell_below (by with_reducible assumption) ?_ | with_reducible refine cell_set_other (by omega) ?_))))
    clear hK K
    try (simp only [Act.put]; (try simp only [List.setIfInBounds_toArray]); (try simp only [List.set_cons_succ]); (try simp only [List.set_cons_zero]))
    refine wpAnyH_ready (rs := [14]) (by kernel_rfl) (by simp) ?_
    refine AllReadyH.cons rfl (fun K hK => ?_) AllReadyH.nil
    go_simp
    refine hK.out _ _ ?_ (fun hHeld => ?_)
    · ((try dsimp only); all_goals (refine ⟨?_, ?_, ?_, ?_, ?_⟩ <;> (repeat (first | with_reducible assumption | with_reducible apply cell_alloc_some | with_reducible apply cell_drew_some | with_reducible refine cell_below (by with_reducible assumption) ?_ | with_reducible refine cell_set_other (by omega) ?_))))
    clear hK K
    try (simp only [Act.put]; (try simp only [List.setIfInBounds_toArray]); (try simp only [List.set_cons_succ]); (try simp only [List.set_cons_zero]))
    refine wpAnyH_ready (rs := [15]) (by kernel_rfl) (by simp) ?_
    refine AllReadyH.cons rfl (fun K hK => ?_) AllReadyH.nil
    go_simp
    refine hK.out _ _ ?_ (fun hHeld => ?_)
    · ((try dsimp only); all_goals (refine ⟨?_, ?_, ?_, ?_, ?_⟩ <;> (repeat (first | with_reducible assumption | with_reducible apply cell_alloc_some | with_reducible apply cell_drew_some | with_reducible refine cell_below (by with_reducible assumption) ?_ | with_reducible refine cell_set_other (by omega) ?_))))
    clear hK K
    try (simp only [Act.put]; (try simp only [List.setIfInBounds_toArray]); (try simp only [List.set_cons_succ]); (try simp only [List.set_cons_zero]))
    refine wpAnyH_take (i := 16) (v := ?_) rfl (by kernel_rfl) (by kernel_rfl) (by kernel_rfl) (fun _ _ _ h => h) (Or.inl ⟨by kernel_rfl, ?_⟩) (by assumption) ?_
    rotate_left
    · (intro w hSw; (try dsimp only at hSw); go_simp <;> with_reducible rfl)
    try (simp only [Act.put]; (try simp only [List.setIfInBounds_toArray]); (try simp only [List.set_cons_succ]); (try simp only [List.set_cons_zero]))
    refine wpAnyH_take (i := 17) (v := ?_) rfl (by kernel_rfl) (by kernel_rfl) (by kernel_rfl) (fun _ _ _ h => h) (Or.inl ⟨by kernel_rfl, ?_⟩) (by assumption) ?_
    rotate_left
    · (intro w hSw; (try dsimp only at hSw); go_simp <;> with_reducible rfl)
    try (simp only [Act.put]; (try simp only [List.setIfInBounds_toArray]); (try simp only [List.set_cons_succ]); (try simp only [List.set_cons_zero]))
    refine wpAnyH_take (i := 18) (v := ?_) rfl (by kernel_rfl) (by kernel_rfl) (by kernel_rfl) (fun _ _ _ h => h) (Or.inl ⟨by kernel_rfl, ?_⟩) (by assumption) ?_
    rotate_left
    · (intro w hSw; (try dsimp only at hSw); go_simp <;> with_reducible rfl)
    try (simp only [Act.put]; (try simp only [List.setIfInBounds_toArray]); (try simp only [List.set_cons_succ]); (try simp only [List.set_cons_zero]))
    refine wpAnyH_ready (rs := [19]) (by kernel_rfl) (by simp) ?_
    refine AllReadyH.cons rfl (fun K hK => ?_) AllReadyH.nil
    go_simp
    (go_at_call 18; (with_reducible refine (termsHold_any _ (crossR [[allT]] [[ownT x]]) x pre true _ (HRY.out.below (Below.up HB7.out (by (repeat (first | exact Below.refl _ _ | apply Below.drew | (apply below_alloc_on (Nat.le_refl _))))))) HOG.out GX.out HZX.out.1 (HN6.out.below (Below.up HB7.out (by (repeat (first | exact Below.refl _ _ | apply Below.drew | (apply below_alloc_on (Nat.le_refl _))))))) HOH).mono ?_); rintro e we19 ⟨rfl, hb⟩; have HB19 := Lib.hid (Below.up HB7.out (Below.up (by (repeat (first | exact Below.refl _ _ | apply Below.drew | (apply below_alloc_on (Nat.le_refl _))))) hb)))
    refine hK.out _ _ ?_ (fun hHeld => ?_)
    · ((try dsimp only); all_goals (refine ⟨?_, ?_, ?_, ?_, ?_⟩ <;> (repeat (first | with_reducible assumption | with_reducible apply cell_alloc_some | with_reducible apply cell_drew_some | with_reducible refine cell_below (by with_reducible assumption) ?_ | with_reducible refine cell_set_other (by omega) ?_))))
    clear hK K
    try (simp only [Act.put]; (try simp only [List.setIfInBounds_toArray]); (try simp only [List.set_cons_succ]); (try simp only [List.set_cons_zero]))
    refine wpAnyH_ready (rs := [20]) (by kernel_rfl) (by simp) ?_
    refine AllReadyH.cons rfl (fun K hK => ?_) AllReadyH.nil
    go_simp
    refine hK.out _ _ ?_ (fun hHeld => ?_)
    · ((try dsimp only); all_goals (refine ⟨?_, ?_, ?_, ?_, ?_⟩ <;> (repeat (first | with_reducible assumption | with_reducible apply cell_alloc_some | with_reducible apply cell_drew_some | with_reducible refine cell_below (by with_reducible assumption) ?_ | with_reducible refine cell_set_other (by omega) ?_))))
    clear hK K
    try (simp only [Act.put]; (try simp only [List.setIfInBounds_toArray]); (try simp only [List.set_cons_succ]); (try simp only [List.set_cons_zero]))
    refine wpAnyH_ready (rs := [21]) (by kernel_rfl) (by simp) ?_
    refine AllReadyH.cons rfl (fun K hK => ?_) AllReadyH.nil
    go_simp
    refine hK.out _ _ ?_ (fun hHeld => ?_)
    · ((try dsimp only); all_goals (refine ⟨?_, ?_, ?_, ?_, ?_⟩ <;> (repeat (first | with_reducible assumption | with_reducible apply cell_alloc_some | with_reducible apply cell_drew_some | with_reducible refine cell_below (by with_reducible assumption) ?_ | with_reducible refine cell_set_other (by omega) ?_))))
    clear hK K
    try (simp only [Act.put]; (try simp only [List.setIfInBounds_toArray]); (try simp only [List.set_cons_succ]); (try simp only [List.set_cons_zero]))
    refine wpAnyH_done (by kernel_rfl) ?_ _
    go_wp2
    go_ret
    exact ⟨rfl, Below.up I6.out.bel (Below.up HB19.out (by (repeat (first | exact Below.refl _ _ | apply Below.drew | (apply below_alloc_on (Nat.le_refl _))))))⟩
  · rcases r2 with _ | _
    · obtain rfl : re = false := hre
      refine wp_region_held_drew (S := (fun w' => w'.cell? ⟨w.heap.size, 0, none⟩ = some (.int .u64 x.a) ∧ w'.cell? ⟨w.heap.size, 1, none⟩ = some (.int .u64 x.b) ∧ w'.cell? ⟨w.heap.size, 2, none⟩ = some (.int .u64 x.c) ∧ w'.cell? ⟨w.heap.size, 3, none⟩ = some (.string x.p) ∧ w'.cell? ⟨w.heap.size, 4, none⟩ = some (.string x.m))) (by kernel_rfl) ?_ (fun hHeld => ?_)
      · ((try dsimp only); all_goals (refine ⟨?_, ?_, ?_, ?_, ?_⟩ <;> (repeat (first | with_reducible assumption | with_reducible apply cell_alloc_some | with_reducible apply cell_drew_some | with_reducible refine cell_below (by with_reducible assumption) ?_ | with_reducible refine cell_set_other (by omega) ?_))))
      refine wpAnyH_take (i := 0) (v := ?_) rfl (by kernel_rfl) (by kernel_rfl) (by kernel_rfl) (fun _ _ _ h => h) (Or.inl ⟨by kernel_rfl, ?_⟩) (by assumption) ?_
      rotate_left
      · (intro w hSw; (try dsimp only at hSw); go_simp <;> with_reducible rfl)
      try (simp only [Act.put]; (try simp only [List.setIfInBounds_toArray]); (try simp only [List.set_cons_succ]); (try simp only [List.set_cons_zero]))
      refine wpAnyH_take (i := 1) (v := ?_) rfl (by kernel_rfl) (by kernel_rfl) (by kernel_rfl) (fun _ _ _ h => h) (Or.inl ⟨by kernel_rfl, ?_⟩) (by assumption) ?_
      rotate_left
      · (intro w hSw; (try dsimp only at hSw); go_simp <;> with_reducible rfl)
      try (simp only [Act.put]; (try simp only [List.setIfInBounds_toArray]); (try simp only [List.set_cons_succ]); (try simp only [List.set_cons_zero]))
      refine wpAnyH_take (i := 2) (v := ?_) rfl (by kernel_rfl) (by kernel_rfl) (by kernel_rfl) (fun _ _ _ h => h) (Or.inl ⟨by kernel_rfl, ?_⟩) (by assumption) ?_
      rotate_left
      · (intro w hSw; (try dsimp only at hSw); go_simp <;> with_reducible rfl)
      try (simp only [Act.put]; (try simp only [List.setIfInBounds_toArray]); (try simp only [List.set_cons_succ]); (try simp only [List.set_cons_zero]))
      refine wpAnyH_take (i := 4) (v := ?_) rfl (by kernel_rfl) (by kernel_rfl) (by kernel_rfl) (fun _ _ _ h => h) (Or.inl ⟨by kernel_rfl, ?_⟩) (by assumption) ?_
      rotate_left
      · (intro w hSw; (try dsimp only at hSw); go_simp <;> with_reducible rfl)
      try (simp only [Act.put]; (try simp only [List.setIfInBounds_toArray]); (try simp only [List.set_cons_succ]); (try simp only [List.set_cons_zero]))
      refine wpAnyH_take (i := 5) (v := ?_) rfl (by kernel_rfl) (by kernel_rfl) (by kernel_rfl) (fun _ _ _ h => h) (Or.inl ⟨by kernel_rfl, ?_⟩) (by assumption) ?_
      rotate_left
      · (intro w hSw; (try dsimp only at hSw); go_simp <;> with_reducible rfl)
      try (simp only [Act.put]; (try simp only [List.setIfInBounds_toArray]); (try simp only [List.set_cons_succ]); (try simp only [List.set_cons_zero]))
      refine wpAnyH_take (i := 6) (v := ?_) rfl (by kernel_rfl) (by kernel_rfl) (by kernel_rfl) (fun _ _ _ h => h) (Or.inl ⟨by kernel_rfl, ?_⟩) (by assumption) ?_
      rotate_left
      · (intro w hSw; (try dsimp only at hSw); go_simp <;> with_reducible rfl)
      try (simp only [Act.put]; (try simp only [List.setIfInBounds_toArray]); (try simp only [List.set_cons_succ]); (try simp only [List.set_cons_zero]))
      refine wpAnyH_ready (rs := [3]) (by kernel_rfl) (by simp) ?_
      refine AllReadyH.cons rfl (fun K hK => ?_) AllReadyH.nil
      go_simp
      (go_at_call 18; (with_reducible refine (termsHold_any _ (crossR LL KK) x pre false _ (HRX6.out.below (by (repeat (first | exact Below.refl _ _ | apply Below.drew | (apply below_alloc_on (Nat.le_refl _)))))) HGC.out GX.out HZX.out.1 (HN6.out.below (by (repeat (first | exact Below.refl _ _ | apply Below.drew | (apply below_alloc_on (Nat.le_refl _)))))) HRE).mono ?_); rintro e we3 ⟨rfl, hb⟩; have HB3 := Lib.hid (Below.up (w := wd) (by (repeat (first | exact Below.refl _ _ | apply Below.drew | (apply below_alloc_on (Nat.le_refl _))))) hb))
      refine hK.out _ _ ?_ (fun hHeld => ?_)
      · ((try dsimp only); all_goals (refine ⟨?_, ?_, ?_, ?_, ?_⟩ <;> (repeat (first | with_reducible assumption | with_reducible apply cell_alloc_some | with_reducible apply cell_drew_some | with_reducible refine cell_below (by with_reducible assumption) ?_ | with_reducible refine cell_set_other (by omega) ?_))))
      clear hK K
      try (simp only [Act.put]; (try simp only [List.setIfInBounds_toArray]); (try simp only [List.set_cons_succ]); (try simp only [List.set_cons_zero]))
      refine wpAnyH_ready (rs := [7]) (by kernel_rfl) (by simp) ?_
      refine AllReadyH.cons rfl (fun K hK => ?_) AllReadyH.nil
      go_simp
      (go_at_call 18; (with_reducible refine (termsHold_any _ LL x pre true _ (I6.out.rl.below (Below.up HB3.out (by (repeat (first | exact Below.refl _ _ | apply Below.drew | (apply below_alloc_on (Nat.le_refl _))))))) HGL.out GX.out HZX.out.1 (HN6.out.below (Below.up HB3.out (by (repeat (first | exact Below.refl _ _ | apply Below.drew | (apply below_alloc_on (Nat.le_refl _))))))) HR1).mono ?_); rintro e we7 ⟨rfl, hb⟩; have HB7 := Lib.hid (Below.up HB3.out (Below.up (by (repeat (first | exact Below.refl _ _ | apply Below.drew | (apply below_alloc_on (Nat.le_refl _))))) hb)))
      refine hK.out _ _ ?_ (fun hHeld => ?_)
      · ((try dsimp only); all_goals (refine ⟨?_, ?_, ?_, ?_, ?_⟩ <;> (repeat (first | with_reducible assumption | with_reducible apply cell_alloc_some | with_reducible apply cell_drew_some | with_reducible refine cell_below (by with_reducible assumption) ?_ | with_reducible refine cell_set_other (by omega) ?_))))
      clear hK K
      try (simp only [Act.put]; (try simp only [List.setIfInBounds_toArray]); (try simp only [List.set_cons_succ]); (try simp only [List.set_cons_zero]))
      refine wpAnyH_ready (rs := [8]) (by kernel_rfl) (by simp) ?_
      refine AllReadyH.cons rfl (fun K hK => ?_) AllReadyH.nil
      go_simp
      refine hK.out _ _ ?_ (fun hHeld => ?_)
      · ((try dsimp only); all_goals (refine ⟨?_, ?_, ?_, ?_, ?_⟩ <;> (repeat (first | with_reducible assumption | with_reducible apply cell_alloc_some | with_reducible apply cell_drew_some | with_reducible refine cell_below (by with_reducible assumption) ?_ | with_reducible refine cell_set_other (by omega) ?_))))
      clear hK K
      try (simp only [Act.put]; (try simp only [List.setIfInBounds_toArray]); (try simp only [List.set_cons_succ]); (try simp only [List.set_cons_zero]))
      refine wpAnyH_take (i := 9) (v := ?_) rfl (by kernel_rfl) (by kernel_rfl) (by kernel_rfl) (fun _ _ _ h => h) (Or.inl ⟨by kernel_rfl, ?_⟩) (by assumption) ?_
      rotate_left
      · (intro w hSw; (try dsimp only at hSw); go_simp <;> with_reducible rfl)
      try (simp only [Act.put]; (try simp only [List.setIfInBounds_toArray]); (try simp only [List.set_cons_succ]); (try simp only [List.set_cons_zero]))
      refine wpAnyH_take (i := 10) (v := ?_) rfl (by kernel_rfl) (by kernel_rfl) (by kernel_rfl) (fun _ _ _ h => h) (Or.inl ⟨by kernel_rfl, ?_⟩) (by assumption) ?_
      rotate_left
      · (intro w hSw; (try dsimp only at hSw); go_simp <;> with_reducible rfl)
      try (simp only [Act.put]; (try simp only [List.setIfInBounds_toArray]); (try simp only [List.set_cons_succ]); (try simp only [List.set_cons_zero]))
      refine wpAnyH_take (i := 11) (v := ?_) rfl (by kernel_rfl) (by kernel_rfl) (by kernel_rfl) (fun _ _ _ h => h) (Or.inl ⟨by kernel_rfl, ?_⟩) (by assumption) ?_
      rotate_left
      · (intro w hSw; (try dsimp only at hSw); go_simp <;> with_reducible rfl)
      try (simp only [Act.put]; (try simp only [List.setIfInBounds_toArray]); (try simp only [List.set_cons_succ]); (try simp only [List.set_cons_zero]))
      refine wpAnyH_ready (rs := [12]) (by kernel_rfl) (by simp) ?_
      refine AllReadyH.cons rfl (fun K hK => ?_) AllReadyH.nil
      go_simp
      (go_at_call 18; (with_reducible refine (termsHold_any _ KK x pre false _ (I6.out.rk.below (Below.up HB7.out (by (repeat (first | exact Below.refl _ _ | apply Below.drew | (apply below_alloc_on (Nat.le_refl _))))))) HGK.out GX.out HZX.out.1 (HN6.out.below (Below.up HB7.out (by (repeat (first | exact Below.refl _ _ | apply Below.drew | (apply below_alloc_on (Nat.le_refl _))))))) HR2).mono ?_); rintro e we12 ⟨rfl, hb⟩; have HB12 := Lib.hid (Below.up HB7.out (Below.up (by (repeat (first | exact Below.refl _ _ | apply Below.drew | (apply below_alloc_on (Nat.le_refl _))))) hb)))
      refine hK.out _ _ ?_ (fun hHeld => ?_)
      · ((try dsimp only); all_goals (refine ⟨?_, ?_, ?_, ?_, ?_⟩ <;> (repeat (first | with_reducible assumption | with_reducible apply cell_alloc_some | with_reducible apply cell_drew_some | with_reducible refine cell_below (by with_reducible assumption) ?_ | with_reducible refine cell_set_other (by omega) ?_))))
      clear hK K
      try (simp only [Act.put]; (try simp only [List.setIfInBounds_toArray]); (try simp only [List.set_cons_succ]); (try simp only [List.set_cons_zero]))
      refine wpAnyH_ready (rs := [13]) (by kernel_rfl) (by simp) ?_
      refine AllReadyH.cons rfl (fun K hK => ?_) AllReadyH.nil
      go_simp
      refine hK.out _ _ ?_ (fun hHeld => ?_)
      · ((try dsimp only); all_goals (refine ⟨?_, ?_, ?_, ?_, ?_⟩ <;> (repeat (first | with_reducible assumption | with_reducible apply cell_alloc_some | with_reducible apply cell_drew_some | with_reducible refine cell_below (by with_reducible assumption) ?_ | with_reducible refine cell_set_other (by omega) ?_))))
      clear hK K
      try (simp only [Act.put]; (try simp only [List.setIfInBounds_toArray]); (try simp only [List.set_cons_succ]); (try simp only [List.set_cons_zero]))
      refine wpAnyH_ready (rs := [14]) (by kernel_rfl) (by simp) ?_
      refine AllReadyH.cons rfl (fun K hK => ?_) AllReadyH.nil
      go_simp
      refine hK.out _ _ ?_ (fun hHeld => ?_)
      · ((try dsimp only); all_goals (refine ⟨?_, ?_, ?_, ?_, ?_⟩ <;> (repeat (first | with_reducible assumption | with_reducible apply cell_alloc_some | with_reducible apply cell_drew_some | with_reducible refine cell_below (by with_reducible assumption) ?_ | with_reducible refine cell_set_other (by omega) ?_))))
      clear hK K
      try (simp only [Act.put]; (try simp only [List.setIfInBounds_toArray]); (try simp only [List.set_cons_succ]); (try simp only [List.set_cons_zero]))
      refine wpAnyH_ready (rs := [15]) (by kernel_rfl) (by simp) ?_
      refine AllReadyH.cons rfl (fun K hK => ?_) AllReadyH.nil
      go_simp
      refine hK.out _ _ ?_ (fun hHeld => ?_)
      · ((try dsimp only); all_goals (refine ⟨?_, ?_, ?_, ?_, ?_⟩ <;> (repeat (first | with_reducible assumption | with_reducible apply cell_alloc_some | with_reducible apply cell_drew_some | with_reducible refine cell_below (by with_reducible assumption) ?_ | with_reducible refine cell_set_other (by omega) ?_))))
      clear hK K
      try (simp only [Act.put]; (try simp only [List.setIfInBounds_toArray]); (try simp only [List.set_cons_succ]); (try simp only [List.set_cons_zero]))
      refine wpAnyH_take (i := 16) (v := ?_) rfl (by kernel_rfl) (by kernel_rfl) (by kernel_rfl) (fun _ _ _ h => h) (Or.inl ⟨by kernel_rfl, ?_⟩) (by assumption) ?_
      rotate_left
      · (intro w hSw; (try dsimp only at hSw); go_simp <;> with_reducible rfl)
      try (simp only [Act.put]; (try simp only [List.setIfInBounds_toArray]); (try simp only [List.set_cons_succ]); (try simp only [List.set_cons_zero]))
      refine wpAnyH_take (i := 17) (v := ?_) rfl (by kernel_rfl) (by kernel_rfl) (by kernel_rfl) (fun _ _ _ h => h) (Or.inl ⟨by kernel_rfl, ?_⟩) (by assumption) ?_
      rotate_left
      · (intro w hSw; (try dsimp only at hSw); go_simp <;> with_reducible rfl)
      try (simp only [Act.put]; (try simp only [List.setIfInBounds_toArray]); (try simp only [List.set_cons_succ]); (try simp only [List.set_cons_zero]))
      refine wpAnyH_take (i := 18) (v := ?_) rfl (by kernel_rfl) (by kernel_rfl) (by kernel_rfl) (fun _ _ _ h => h) (Or.inl ⟨by kernel_rfl, ?_⟩) (by assumption) ?_
      rotate_left
      · (intro w hSw; (try dsimp only at hSw); go_simp <;> with_reducible rfl)
      try (simp only [Act.put]; (try simp only [List.setIfInBounds_toArray]); (try simp only [List.set_cons_succ]); (try simp only [List.set_cons_zero]))
      refine wpAnyH_ready (rs := [19]) (by kernel_rfl) (by simp) ?_
      refine AllReadyH.cons rfl (fun K hK => ?_) AllReadyH.nil
      go_simp
      (go_at_call 18; (with_reducible refine (termsHold_any _ (crossR [[allT]] [[ownT x]]) x pre true _ (HRY.out.below (Below.up HB12.out (by (repeat (first | exact Below.refl _ _ | apply Below.drew | (apply below_alloc_on (Nat.le_refl _))))))) HOG.out GX.out HZX.out.1 (HN6.out.below (Below.up HB12.out (by (repeat (first | exact Below.refl _ _ | apply Below.drew | (apply below_alloc_on (Nat.le_refl _))))))) HOH).mono ?_); rintro e we19 ⟨rfl, hb⟩; have HB19 := Lib.hid (Below.up HB12.out (Below.up (by (repeat (first | exact Below.refl _ _ | apply Below.drew | (apply below_alloc_on (Nat.le_refl _))))) hb)))
      refine hK.out _ _ ?_ (fun hHeld => ?_)
      · ((try dsimp only); all_goals (refine ⟨?_, ?_, ?_, ?_, ?_⟩ <;> (repeat (first | with_reducible assumption | with_reducible apply cell_alloc_some | with_reducible apply cell_drew_some | with_reducible refine cell_below (by with_reducible assumption) ?_ | with_reducible refine cell_set_other (by omega) ?_))))
      clear hK K
      try (simp only [Act.put]; (try simp only [List.setIfInBounds_toArray]); (try simp only [List.set_cons_succ]); (try simp only [List.set_cons_zero]))
      refine wpAnyH_ready (rs := [20]) (by kernel_rfl) (by simp) ?_
      refine AllReadyH.cons rfl (fun K hK => ?_) AllReadyH.nil
      go_simp
      refine hK.out _ _ ?_ (fun hHeld => ?_)
      · ((try dsimp only); all_goals (refine ⟨?_, ?_, ?_, ?_, ?_⟩ <;> (repeat (first | with_reducible assumption | with_reducible apply cell_alloc_some | with_reducible apply cell_drew_some | with_reducible refine cell_below (by with_reducible assumption) ?_ | with_reducible refine cell_set_other (by omega) ?_))))
      clear hK K
      try (simp only [Act.put]; (try simp only [List.setIfInBounds_toArray]); (try simp only [List.set_cons_succ]); (try simp only [List.set_cons_zero]))
      refine wpAnyH_ready (rs := [21]) (by kernel_rfl) (by simp) ?_
      refine AllReadyH.cons rfl (fun K hK => ?_) AllReadyH.nil
      go_simp
      refine hK.out _ _ ?_ (fun hHeld => ?_)
      · ((try dsimp only); all_goals (refine ⟨?_, ?_, ?_, ?_, ?_⟩ <;> (repeat (first | with_reducible assumption | with_reducible apply cell_alloc_some | with_reducible apply cell_drew_some | with_reducible refine cell_below (by with_reducible assumption) ?_ | with_reducible refine cell_set_other (by omega) ?_))))
      clear hK K
      try (simp only [Act.put]; (try simp only [List.setIfInBounds_toArray]); (try simp only [List.set_cons_succ]); (try simp only [List.set_cons_zero]))
      refine wpAnyH_done (by kernel_rfl) ?_ _
      go_wp2
      go_ret
      exact ⟨rfl, Below.up I6.out.bel (Below.up HB19.out (by (repeat (first | exact Below.refl _ _ | apply Below.drew | (apply below_alloc_on (Nat.le_refl _))))))⟩
    · obtain rfl : re = true := hre
      refine wp_region_held_drew (S := (fun w' => w'.cell? ⟨w.heap.size, 0, none⟩ = some (.int .u64 x.a) ∧ w'.cell? ⟨w.heap.size, 1, none⟩ = some (.int .u64 x.b) ∧ w'.cell? ⟨w.heap.size, 2, none⟩ = some (.int .u64 x.c) ∧ w'.cell? ⟨w.heap.size, 3, none⟩ = some (.string x.p) ∧ w'.cell? ⟨w.heap.size, 4, none⟩ = some (.string x.m))) (by kernel_rfl) ?_ (fun hHeld => ?_)
      · ((try dsimp only); all_goals (refine ⟨?_, ?_, ?_, ?_, ?_⟩ <;> (repeat (first | with_reducible assumption | with_reducible apply cell_alloc_some | with_reducible apply cell_drew_some | with_reducible refine cell_below (by with_reducible assumption) ?_ | with_reducible refine cell_set_other (by omega) ?_))))
      refine wpAnyH_take (i := 0) (v := ?_) rfl (by kernel_rfl) (by kernel_rfl) (by kernel_rfl) (fun _ _ _ h => h) (Or.inl ⟨by kernel_rfl, ?_⟩) (by assumption) ?_
      rotate_left
      · (intro w hSw; (try dsimp only at hSw); go_simp <;> with_reducible rfl)
      try (simp only [Act.put]; (try simp only [List.setIfInBounds_toArray]); (try simp only [List.set_cons_succ]); (try simp only [List.set_cons_zero]))
      refine wpAnyH_take (i := 1) (v := ?_) rfl (by kernel_rfl) (by kernel_rfl) (by kernel_rfl) (fun _ _ _ h => h) (Or.inl ⟨by kernel_rfl, ?_⟩) (by assumption) ?_
      rotate_left
      · (intro w hSw; (try dsimp only at hSw); go_simp <;> with_reducible rfl)
      try (simp only [Act.put]; (try simp only [List.setIfInBounds_toArray]); (try simp only [List.set_cons_succ]); (try simp only [List.set_cons_zero]))
      refine wpAnyH_take (i := 2) (v := ?_) rfl (by kernel_rfl) (by kernel_rfl) (by kernel_rfl) (fun _ _ _ h => h) (Or.inl ⟨by kernel_rfl, ?_⟩) (by assumption) ?_
      rotate_left
      · (intro w hSw; (try dsimp only at hSw); go_simp <;> with_reducible rfl)
      try (simp only [Act.put]; (try simp only [List.setIfInBounds_toArray]); (try simp only [List.set_cons_succ]); (try simp only [List.set_cons_zero]))
      refine wpAnyH_take (i := 4) (v := ?_) rfl (by kernel_rfl) (by kernel_rfl) (by kernel_rfl) (fun _ _ _ h => h) (Or.inl ⟨by kernel_rfl, ?_⟩) (by assumption) ?_
      rotate_left
      · (intro w hSw; (try dsimp only at hSw); go_simp <;> with_reducible rfl)
      try (simp only [Act.put]; (try simp only [List.setIfInBounds_toArray]); (try simp only [List.set_cons_succ]); (try simp only [List.set_cons_zero]))
      refine wpAnyH_take (i := 5) (v := ?_) rfl (by kernel_rfl) (by kernel_rfl) (by kernel_rfl) (fun _ _ _ h => h) (Or.inl ⟨by kernel_rfl, ?_⟩) (by assumption) ?_
      rotate_left
      · (intro w hSw; (try dsimp only at hSw); go_simp <;> with_reducible rfl)
      try (simp only [Act.put]; (try simp only [List.setIfInBounds_toArray]); (try simp only [List.set_cons_succ]); (try simp only [List.set_cons_zero]))
      refine wpAnyH_take (i := 6) (v := ?_) rfl (by kernel_rfl) (by kernel_rfl) (by kernel_rfl) (fun _ _ _ h => h) (Or.inl ⟨by kernel_rfl, ?_⟩) (by assumption) ?_
      rotate_left
      · (intro w hSw; (try dsimp only at hSw); go_simp <;> with_reducible rfl)
      try (simp only [Act.put]; (try simp only [List.setIfInBounds_toArray]); (try simp only [List.set_cons_succ]); (try simp only [List.set_cons_zero]))
      refine wpAnyH_ready (rs := [3]) (by kernel_rfl) (by simp) ?_
      refine AllReadyH.cons rfl (fun K hK => ?_) AllReadyH.nil
      go_simp
      (go_at_call 18; (with_reducible refine (termsHold_any _ (crossR LL KK) x pre true _ (HRX6.out.below (by (repeat (first | exact Below.refl _ _ | apply Below.drew | (apply below_alloc_on (Nat.le_refl _)))))) HGC.out GX.out HZX.out.1 (HN6.out.below (by (repeat (first | exact Below.refl _ _ | apply Below.drew | (apply below_alloc_on (Nat.le_refl _)))))) HRE).mono ?_); rintro e we3 ⟨rfl, hb⟩; have HB3 := Lib.hid (Below.up (w := wd) (by (repeat (first | exact Below.refl _ _ | apply Below.drew | (apply below_alloc_on (Nat.le_refl _))))) hb))
      refine hK.out _ _ ?_ (fun hHeld => ?_)
      · ((try dsimp only); all_goals (refine ⟨?_, ?_, ?_, ?_, ?_⟩ <;> (repeat (first | with_reducible assumption | with_reducible apply cell_alloc_some | with_reducible apply cell_drew_some | with_reducible refine cell_below (by with_reducible assumption) ?_ | with_reducible refine cell_set_other (by omega) ?_))))
      clear hK K
      try (simp only [Act.put]; (try simp only [List.setIfInBounds_toArray]); (try simp only [List.set_cons_succ]); (try simp only [List.set_cons_zero]))
      refine wpAnyH_ready (rs := [7]) (by kernel_rfl) (by simp) ?_
      refine AllReadyH.cons rfl (fun K hK => ?_) AllReadyH.nil
      go_simp
      (go_at_call 18; (with_reducible refine (termsHold_any _ LL x pre true _ (I6.out.rl.below (Below.up HB3.out (by (repeat (first | exact Below.refl _ _ | apply Below.drew | (apply below_alloc_on (Nat.le_refl _))))))) HGL.out GX.out HZX.out.1 (HN6.out.below (Below.up HB3.out (by (repeat (first | exact Below.refl _ _ | apply Below.drew | (apply below_alloc_on (Nat.le_refl _))))))) HR1).mono ?_); rintro e we7 ⟨rfl, hb⟩; have HB7 := Lib.hid (Below.up HB3.out (Below.up (by (repeat (first | exact Below.refl _ _ | apply Below.drew | (apply below_alloc_on (Nat.le_refl _))))) hb)))
      refine hK.out _ _ ?_ (fun hHeld => ?_)
      · ((try dsimp only); all_goals (refine ⟨?_, ?_, ?_, ?_, ?_⟩ <;> (repeat (first | with_reducible assumption | with_reducible apply cell_alloc_some | with_reducible apply cell_drew_some | with_reducible refine cell_below (by with_reducible assumption) ?_ | with_reducible refine cell_set_other (by omega) ?_))))
      clear hK K
      try (simp only [Act.put]; (try simp only [List.setIfInBounds_toArray]); (try simp only [List.set_cons_succ]); (try simp only [List.set_cons_zero]))
      refine wpAnyH_ready (rs := [8]) (by kernel_rfl) (by simp) ?_
      refine AllReadyH.cons rfl (fun K hK => ?_) AllReadyH.nil
      go_simp
      refine hK.out _ _ ?_ (fun hHeld => ?_)
      · ((try dsimp only); all_goals (refine ⟨?_, ?_, ?_, ?_, ?_⟩ <;> (repeat (first | with_reducible assumption | with_reducible apply cell_alloc_some | with_reducible apply cell_drew_some | with_reducible refine cell_below (by with_reducible assumption) ?_ | with_reducible refine cell_set_other (by omega) ?_))))
      clear hK K
      try (simp only [Act.put]; (try simp only [List.setIfInBounds_toArray]); (try simp only [List.set_cons_succ]); (try simp only [List.set_cons_zero]))
      refine wpAnyH_take (i := 9) (v := ?_) rfl (by kernel_rfl) (by kernel_rfl) (by kernel_rfl) (fun _ _ _ h => h) (Or.inl ⟨by kernel_rfl, ?_⟩) (by assumption) ?_
      rotate_left
      · (intro w hSw; (try dsimp only at hSw); go_simp <;> with_reducible rfl)
      try (simp only [Act.put]; (try simp only [List.setIfInBounds_toArray]); (try simp only [List.set_cons_succ]); (try simp only [List.set_cons_zero]))
      refine wpAnyH_take (i := 10) (v := ?_) rfl (by kernel_rfl) (by kernel_rfl) (by kernel_rfl) (fun _ _ _ h => h) (Or.inl ⟨by kernel_rfl, ?_⟩) (by assumption) ?_
      rotate_left
      · (intro w hSw; (try dsimp only at hSw); go_simp <;> with_reducible rfl)
      try (simp only [Act.put]; (try simp only [List.setIfInBounds_toArray]); (try simp only [List.set_cons_succ]); (try simp only [List.set_cons_zero]))
      refine wpAnyH_take (i := 11) (v := ?_) rfl (by kernel_rfl) (by kernel_rfl) (by kernel_rfl) (fun _ _ _ h => h) (Or.inl ⟨by kernel_rfl, ?_⟩) (by assumption) ?_
      rotate_left
      · (intro w hSw; (try dsimp only at hSw); go_simp <;> with_reducible rfl)
      try (simp only [Act.put]; (try simp only [List.setIfInBounds_toArray]); (try simp only [List.set_cons_succ]); (try simp only [List.set_cons_zero]))
      refine wpAnyH_ready (rs := [12]) (by kernel_rfl) (by simp) ?_
      refine AllReadyH.cons rfl (fun K hK => ?_) AllReadyH.nil
      go_simp
      (go_at_call 18; (with_reducible refine (termsHold_any _ KK x pre true _ (I6.out.rk.below (Below.up HB7.out (by (repeat (first | exact Below.refl _ _ | apply Below.drew | (apply below_alloc_on (Nat.le_refl _))))))) HGK.out GX.out HZX.out.1 (HN6.out.below (Below.up HB7.out (by (repeat (first | exact Below.refl _ _ | apply Below.drew | (apply below_alloc_on (Nat.le_refl _))))))) HR2).mono ?_); rintro e we12 ⟨rfl, hb⟩; have HB12 := Lib.hid (Below.up HB7.out (Below.up (by (repeat (first | exact Below.refl _ _ | apply Below.drew | (apply below_alloc_on (Nat.le_refl _))))) hb)))
      refine hK.out _ _ ?_ (fun hHeld => ?_)
      · ((try dsimp only); all_goals (refine ⟨?_, ?_, ?_, ?_, ?_⟩ <;> (repeat (first | with_reducible assumption | with_reducible apply cell_alloc_some | with_reducible apply cell_drew_some | with_reducible refine cell_below (by with_reducible assumption) ?_ | with_reducible refine cell_set_other (by omega) ?_))))
      clear hK K
      try (simp only [Act.put]; (try simp only [List.setIfInBounds_toArray]); (try simp only [List.set_cons_succ]); (try simp only [List.set_cons_zero]))
      refine wpAnyH_ready (rs := [13]) (by kernel_rfl) (by simp) ?_
      refine AllReadyH.cons rfl (fun K hK => ?_) AllReadyH.nil
      go_simp
      refine hK.out _ _ ?_ (fun hHeld => ?_)
      · ((try dsimp only); all_goals (refine ⟨?_, ?_, ?_, ?_, ?_⟩ <;> (repeat (first | with_reducible assumption | with_reducible apply cell_alloc_some | with_reducible apply cell_drew_some | with_reducible refine cell_below (by with_reducible assumption) ?_ | with_reducible refine cell_set_other (by omega) ?_))))
      clear hK K
      try (simp only [Act.put]; (try simp only [List.setIfInBounds_toArray]); (try simp only [List.set_cons_succ]); (try simp only [List.set_cons_zero]))
      refine wpAnyH_ready (rs := [14]) (by kernel_rfl) (by simp) ?_
      refine AllReadyH.cons rfl (fun K hK => ?_) AllReadyH.nil
      go_simp
      refine hK.out _ _ ?_ (fun hHeld => ?_)
      · ((try dsimp only); all_goals (refine ⟨?_, ?_, ?_, ?_, ?_⟩ <;> (repeat (first | with_reducible assumption | with_reducible apply cell_alloc_some | with_reducible apply cell_drew_some | with_reducible refine cell_below (by with_reducible assumption) ?_ | with_reducible refine cell_set_other (by omega) ?_))))
      clear hK K
      try (simp only [Act.put]; (try simp only [List.setIfInBounds_toArray]); (try simp only [List.set_cons_succ]); (try simp only [List.set_cons_zero]))
      refine wpAnyH_ready (rs := [15]) (by kernel_rfl) (by simp) ?_
      refine AllReadyH.cons rfl (fun K hK => ?_) AllReadyH.nil
      go_simp
      refine hK.out _ _ ?_ (fun hHeld => ?_)
      · ((try dsimp only); all_goals (refine ⟨?_, ?_, ?_, ?_, ?_⟩ <;> (repeat (first | with_reducible assumption | with_reducible apply cell_alloc_some | with_reducible apply cell_drew_some | with_reducible refine cell_below (by with_reducible assumption) ?_ | with_reducible refine cell_set_other (by omega) ?_))))
      clear hK K
      try (simp only [Act.put]; (try simp only [List.setIfInBounds_toArray]); (try simp only [List.set_cons_succ]); (try simp only [List.set_cons_zero]))
      refine wpAnyH_take (i := 16) (v := ?_) rfl (by kernel_rfl) (by kernel_rfl) (by kernel_rfl) (fun _ _ _ h => h) (Or.inl ⟨by kernel_rfl, ?_⟩) (by assumption) ?_
      rotate_left
      · (intro w hSw; (try dsimp only at hSw); go_simp <;> with_reducible rfl)
      try (simp only [Act.put]; (try simp only [List.setIfInBounds_toArray]); (try simp only [List.set_cons_succ]); (try simp only [List.set_cons_zero]))
      refine wpAnyH_take (i := 17) (v := ?_) rfl (by kernel_rfl) (by kernel_rfl) (by kernel_rfl) (fun _ _ _ h => h) (Or.inl ⟨by kernel_rfl, ?_⟩) (by assumption) ?_
      rotate_left
      · (intro w hSw; (try dsimp only at hSw); go_simp <;> with_reducible rfl)
      try (simp only [Act.put]; (try simp only [List.setIfInBounds_toArray]); (try simp only [List.set_cons_succ]); (try simp only [List.set_cons_zero]))
      refine wpAnyH_take (i := 18) (v := ?_) rfl (by kernel_rfl) (by kernel_rfl) (by kernel_rfl) (fun _ _ _ h => h) (Or.inl ⟨by kernel_rfl, ?_⟩) (by assumption) ?_
      rotate_left
      · (intro w hSw; (try dsimp only at hSw); go_simp <;> with_reducible rfl)
      try (simp only [Act.put]; (try simp only [List.setIfInBounds_toArray]); (try simp only [List.set_cons_succ]); (try simp only [List.set_cons_zero]))
      refine wpAnyH_ready (rs := [19]) (by kernel_rfl) (by simp) ?_
      refine AllReadyH.cons rfl (fun K hK => ?_) AllReadyH.nil
      go_simp
      (go_at_call 18; (with_reducible refine (termsHold_any _ (crossR [[allT]] [[ownT x]]) x pre true _ (HRY.out.below (Below.up HB12.out (by (repeat (first | exact Below.refl _ _ | apply Below.drew | (apply below_alloc_on (Nat.le_refl _))))))) HOG.out GX.out HZX.out.1 (HN6.out.below (Below.up HB12.out (by (repeat (first | exact Below.refl _ _ | apply Below.drew | (apply below_alloc_on (Nat.le_refl _))))))) HOH).mono ?_); rintro e we19 ⟨rfl, hb⟩; have HB19 := Lib.hid (Below.up HB12.out (Below.up (by (repeat (first | exact Below.refl _ _ | apply Below.drew | (apply below_alloc_on (Nat.le_refl _))))) hb)))
      refine hK.out _ _ ?_ (fun hHeld => ?_)
      · ((try dsimp only); all_goals (refine ⟨?_, ?_, ?_, ?_, ?_⟩ <;> (repeat (first | with_reducible assumption | with_reducible apply cell_alloc_some | with_reducible apply cell_drew_some | with_reducible refine cell_below (by with_reducible assumption) ?_ | with_reducible refine cell_set_other (by omega) ?_))))
      clear hK K
      try (simp only [Act.put]; (try simp only [List.setIfInBounds_toArray]); (try simp only [List.set_cons_succ]); (try simp only [List.set_cons_zero]))
      refine wpAnyH_ready (rs := [20]) (by kernel_rfl) (by simp) ?_
      refine AllReadyH.cons rfl (fun K hK => ?_) AllReadyH.nil
      go_simp
      refine hK.out _ _ ?_ (fun hHeld => ?_)
      · ((try dsimp only); all_goals (refine ⟨?_, ?_, ?_, ?_, ?_⟩ <;> (repeat (first | with_reducible assumption | with_reducible apply cell_alloc_some | with_reducible apply cell_drew_some | with_reducible refine cell_below (by with_reducible assumption) ?_ | with_reducible refine cell_set_other (by omega) ?_))))
      clear hK K
      try (simp only [Act.put]; (try simp only [List.setIfInBounds_toArray]); (try simp only [List.set_cons_succ]); (try simp only [List.set_cons_zero]))
      refine wpAnyH_ready (rs := [21]) (by kernel_rfl) (by simp) ?_
      refine AllReadyH.cons rfl (fun K hK => ?_) AllReadyH.nil
      go_simp
      refine hK.out _ _ ?_ (fun hHeld => ?_)
      · ((try dsimp only); all_goals (refine ⟨?_, ?_, ?_, ?_, ?_⟩ <;> (repeat (first | with_reducible assumption | with_reducible apply cell_alloc_some | with_reducible apply cell_drew_some | with_reducible refine cell_below (by with_reducible assumption) ?_ | with_reducible refine cell_set_other (by omega) ?_))))
      clear hK K
      try (simp only [Act.put]; (try simp only [List.setIfInBounds_toArray]); (try simp only [List.set_cons_succ]); (try simp only [List.set_cons_zero]))
      refine wpAnyH_done (by kernel_rfl) ?_ _
      go_wp2
      go_ret
      exact ⟨rfl, Below.up I6.out.bel (Below.up HB19.out (by (repeat (first | exact Below.refl _ _ | apply Below.drew | (apply below_alloc_on (Nat.le_refl _))))))⟩
theorem cross_walk (v1 : Value) (LL : List (List T)) (v2 : Value) (KK : List (List T)) (x : V) (pre : Bool) (w : World) (hE : NumErrs w) (hL : ReadTT w v1 LL) (bL : BigL LL) (hK : ReadTT w v2 KK) (bK : BigL KK) (hu : x.u64) (hz : x.p.size ≤ 140737488351232 ∧ x.m.size ≤ 140737488351232) :
    Calls Tryd.prog 4 #[v1, v2, x.v, .bool pre] w fun e w' => e = .returned (.bool true) ∧ Below w.heap.size w w' :=
  cross_law v1 v2 LL KK x pre w hL hK bL bK hE hz.1 hz.2
end Go.Proofs.YtnkdpgcfaelpkaaDoor
