/-
  spec.Compares: what it answers.
-/
import Derived.Test.YtagmdhinbkponaaDoorSpHold
import Derived.Test.YtagmdhinbkponaaDoorBaseC
import Derived.Deep.DeepCutAuto
namespace Go.Proofs.YtagmdhinbkponaaDoor
open Go.RowKit
set_option maxRecDepth 100000
set_option linter.unusedVariables false
set_option linter.unusedSimpArgs false

def GK (g : Int) (j : Nat) : Prop := g = (j : Int) ∧ j ≤ 3
theorem numbers_g (x y : V) (g : Int) (j : Nat) (n : Int) (w : World) (hk : Hid (GK g j)) (hr : Hid (x.numsK y j = n)) :
    Calls Tryd.prog 15 #[.agg #[.int .u64 x.a, .int .u64 x.b, .int .u64 x.c, .string x.p, .string x.m], .agg #[.int .u64 y.a, .int .u64 y.b, .int .u64 y.c, .string y.p, .string y.m], .int .i64 g] w fun e w' => e = .returned (.int .i64 n) ∧ Below w.heap.size w w' :=
  specNumbers_kx x y g j n w hk.out.1 hk.out.2 hr
theorem numsK_range (x y : V) (k : Nat) : x.numsK y k = -1 ∨ x.numsK y k = 0 ∨ x.numsK y k = 1 := by
  have h : ∀ r, V.nk x y k r = -1 ∨ V.nk x y k r = 0 ∨ V.nk x y k r = 1 := by
    intro r
    induction r with
    | zero => exact .inr (.inl rfl)
    | succ r ih =>
      rw [V.nk]
      split
      · split
        · exact M.seg_cmp.range _ _
        · exact ih
      · exact .inr (.inl rfl)
  exact h 3
theorem AtT.below' {w w' : World} {N : Nat} {t : T} (h : AtT w N t) (b : Below w.heap.size w w') : AtT w' N t := blk_below b h
theorem specCompare_is' (x y : V) (r : Int) (w : World) (zx : x.p.size ≤ 2147483647) (zy : y.p.size ≤ 2147483647) (hr : Hid (x.cmp y = r)) :
    Calls Tryd.prog 12 #[.agg #[.int .u64 x.a, .int .u64 x.b, .int .u64 x.c, .string x.p, .string x.m], .agg #[.int .u64 y.a, .int .u64 y.b, .int .u64 y.c, .string y.p, .string y.m]] w fun e w' => e = .returned (.int .i64 r) ∧ Below w.heap.size w w' := by
  have := specCompare_any x y w zx zy
  rw [hr.out] at this
  exact this
structure CS (w wx : World) (x : V) (t : T) (M : Nat) : Prop where
  att : AtT wx w.heap.size t
  atx : AtP wx (w.heap.size + 1) x
  atl : AtP wx M ⟨t.a, t.b, t.c, t.p, ⟨#[]⟩⟩
  bel : Below w.heap.size w wx
theorem CS.below {w wx wy : World} {x : V} {t : T} {M : Nat} (h : CS w wx x t M) (b : Below wx.heap.size wx wy) : CS w wy x t M :=
  ⟨h.att.below' b, h.atx.below b, h.atl.below b, Below.up h.bel b⟩
def G03 (g : Int) : Prop := g = 0 ∨ g = 1 ∨ g = 2 ∨ g = 3
theorem tilde_g (op g : Int) (a b c : Nat) (p : ByteArray) (w : World) (hg : Hid (G03 g)) (k : Int) (hk : Hid (k = min 2 g)) :
    Calls Tryd.prog 80 #[.agg #[.int .i64 op, .int .i64 g, .int .u64 a, .int .u64 b, .int .u64 c, .string p]] w fun e w' => e = .returned (.int .i64 k) ∧ Below w.heap.size w w' := tilde_any2 op g a b c p w hg.out k hk
theorem caret_g (op g : Int) (a b c : Nat) (p : ByteArray) (w : World) (hg : Hid (G03 g)) (k : Int) (hk : Hid (k = T.caretN ⟨op, g, a, b, c, p⟩)) :
    Calls Tryd.prog 81 #[.agg #[.int .i64 op, .int .i64 g, .int .u64 a, .int .u64 b, .int .u64 c, .string p]] w fun e w' => e = .returned (.int .i64 k) ∧ Below w.heap.size w w' := caret_any2 op g a b c p w (by rcases hg.out with rfl | rfl | rfl | rfl <;> decide) k hk
/-- the answer by operator -/
def CompR (op g u q n6 n7 : Int) : Bool :=
  if op = 0 then decide (u = 0) && (decide (g = 3) || decide (q ≥ 0))
  else if op = 1 then decide (u ≠ 0)
  else if op = 2 then decide (u > 0)
  else if op = 3 then decide (q < 0)
  else if op = 4 then decide (q ≥ 0)
  else if op = 5 then decide (u ≤ 0)
  else if op = 6 then decide (q ≥ 0) && decide (n6 = 0)
  else decide (q ≥ 0) && decide (n7 = 0)
set_option maxHeartbeats 8000000 in
theorem compares_any (op g : Int) (a b c : Nat) (p : ByteArray) (x : V) (r : Bool) (w : World) (ho : 0 ≤ op ∧ op < 8) (hg : g = 0 ∨ g = 1 ∨ g = 2 ∨ g = 3) (zx : x.p.size ≤ 2147483647) (zt : p.size ≤ 2147483647) (hr : Hid (T.comp ⟨op, g, a, b, c, p⟩ x = r)) :
    Calls Tryd.prog 68 #[.agg #[.int .i64 op, .int .i64 g, .int .u64 a, .int .u64 b, .int .u64 c, .string p], .agg #[.int .u64 x.a, .int .u64 x.b, .int .u64 x.c, .string x.p, .string x.m]] w fun e w' => e = .returned (.bool r) ∧ Below w.heap.size w w' := by
  obtain ⟨q, hq⟩ : ∃ q, x.cmp ⟨a, b, c, p, ⟨#[]⟩⟩ = q := ⟨_, rfl⟩
  obtain ⟨n, hn⟩ : ∃ n, x.numsK ⟨a, b, c, p, ⟨#[]⟩⟩ g.toNat = n := ⟨_, rfl⟩
  obtain ⟨n6, hn6⟩ : ∃ n, x.numsK ⟨a, b, c, p, ⟨#[]⟩⟩ (min 2 g.toNat) = n := ⟨_, rfl⟩
  obtain ⟨k7, hk7⟩ : ∃ k, T.caretN ⟨op, g, a, b, c, p⟩ = k := ⟨_, rfl⟩
  obtain ⟨n7, hn7⟩ : ∃ n, x.numsK ⟨a, b, c, p, ⟨#[]⟩⟩ k7 = n := ⟨_, rfl⟩
  obtain ⟨u, hu⟩ : ∃ u, T.upper ⟨op, g, a, b, c, p⟩ x = u := ⟨_, rfl⟩
  have hqr : q = -1 ∨ q = 0 ∨ q = 1 := by rw [← hq]; exact V.cmp_range _ _
  have hnr : n = -1 ∨ n = 0 ∨ n = 1 := by rw [← hn]; exact numsK_range _ _ _
  have h6r : n6 = -1 ∨ n6 = 0 ∨ n6 = 1 := by rw [← hn6]; exact numsK_range _ _ _
  have h7r : n7 = -1 ∨ n7 = 0 ∨ n7 = 1 := by rw [← hn7]; exact numsK_range _ _ _
  have hug : u = if g = 3 then q else n := by rw [← hu, ← hq, ← hn]; rfl
  have HR : Hid (CompR op g u q n6 n7 = r) := Lib.hid (by rw [← hr.out, ← hu, ← hq, ← hn6, ← hn7, ← hk7]; rfl)
  obtain ⟨k6, hk6⟩ : ∃ k : Int, k = min 2 g := ⟨_, rfl⟩
  obtain ⟨c7, hc7⟩ : ∃ k : Int, k = k7 := ⟨_, rfl⟩
  have HK6 := Lib.hid hk6
  have HO := Lib.hid ho
  have HQR := Lib.hid hqr
  have HNR := Lib.hid hnr
  have H6R := Lib.hid h6r
  have H7R := Lib.hid h7r
  have HQ := Lib.hid hq
  have HN := Lib.hid hn
  have HN6 := Lib.hid hn6
  have HN7 := Lib.hid hn7
  have HG : Hid (GK g g.toNat) := Lib.hid (by unfold GK; omega)
  have HG6 : Hid (GK k6 (min 2 g.toNat)) := Lib.hid (by unfold GK; omega)
  have hk73 : k7 ≤ 3 := by rw [← hk7]; rcases caretN_cases op g a b c p with ⟨_, h⟩ | ⟨_, _, h⟩ | ⟨_, _, _, h⟩ | ⟨_, _, _, h⟩ <;> rw [h] <;> omega
  have HG7 : Hid (GK c7 k7) := Lib.hid ⟨hc7, hk73⟩
  have HK7 : Hid (c7 = T.caretN ⟨op, g, a, b, c, p⟩) := Lib.hid (by rw [hk7]; exact hc7)
  have HGG : Hid (G03 g) := Lib.hid hg
  clear hq hn hn6 hn7 hu hr hk7 hk73 hk6 hc7 ho hqr hnr h6r h7r hg
  go_enter Tryd.func68, Tryd.ntmps68
  go_upto_region 2 with (go_at_call 13; (with_reducible refine (least_any ⟨op, g, a, b, c, p⟩ _).mono ?_); rintro e w1 ⟨rfl, hb⟩; have HT := Lib.hid (AtT.below' (t := ⟨op, g, a, b, c, p⟩) (N := w.heap.size) (heap_alloc_some (alloc_at _ _ _ rfl)) hb); have HX := Lib.hid (AtP.below (x := x) (N := w.heap.size + 1) (alloc_at _ _ _ (by simp)) hb); have HB1 := Lib.hid (Below.up (w := w) (by (repeat (first | exact Below.refl _ _ | apply Below.drew | (apply below_alloc_on (Nat.le_refl _))))) hb); clear hb)
  change Code.wp _ _ _ _ (w1.alloc (V.pc ⟨a, b, c, p, ⟨#[]⟩⟩))
  have hI : CS w (w1.alloc (V.pc ⟨a, b, c, p, ⟨#[]⟩⟩)) x ⟨op, g, a, b, c, p⟩ w1.heap.size := ⟨HT.out.below' (below_alloc _ _), HX.out.below (below_alloc _ _), alloc_at _ _ _ rfl, Below.up HB1.out (below_alloc _ (V.pc ⟨a, b, c, p, ⟨#[]⟩⟩))⟩
  generalize (w1.alloc (V.pc ⟨a, b, c, p, ⟨#[]⟩⟩)) = W at *
  generalize w1.heap.size = M at *
  have I := Lib.hid hI
  clear hI HT HX HB1
  obtain ⟨x0, x1, x2, x3, x4⟩ := I.out.atx.cells
  obtain ⟨l0, l1, l2, l3, l4⟩ := I.out.atl.cells
  obtain ⟨t0, t1, t2, t3, t4, t5⟩ := I.out.att.cells
  by_cases hg3 : g = 3
  all_goals try subst hg3
  all_goals
    go_upto_region 5 with (first
      | (go_at_call 15; (with_reducible refine (numbers_g x ⟨a, b, c, p, ⟨#[]⟩⟩ _ _ n _ HG HN).mono ?_); rintro e w2 ⟨rfl, hb⟩; clear x0 x1 x2 x3 x4 l0 l1 l2 l3 l4 t0 t1 t2 t3 t4 t5; replace I := Lib.hid (I.out.below hb); clear hb; obtain ⟨x0, x1, x2, x3, x4⟩ := I.out.atx.cells; obtain ⟨l0, l1, l2, l3, l4⟩ := I.out.atl.cells; obtain ⟨t0, t1, t2, t3, t4, t5⟩ := I.out.att.cells)
      | (go_at_call 12; (with_reducible refine (specCompare_is' x ⟨a, b, c, p, ⟨#[]⟩⟩ q _ zx zt HQ).mono ?_); rintro e w2 ⟨rfl, hb⟩; clear x0 x1 x2 x3 x4 l0 l1 l2 l3 l4 t0 t1 t2 t3 t4 t5; replace I := Lib.hid (I.out.below hb); clear hb; obtain ⟨x0, x1, x2, x3, x4⟩ := I.out.atx.cells; obtain ⟨l0, l1, l2, l3, l4⟩ := I.out.atl.cells; obtain ⟨t0, t1, t2, t3, t4, t5⟩ := I.out.att.cells))
  · obtain rfl : u = q := by rw [hug]; simp
    clear hug
    obtain rfl | rfl | rfl | rfl | rfl | rfl | rfl | rfl : op = 0 ∨ op = 1 ∨ op = 2 ∨ op = 3 ∨ op = 4 ∨ op = 5 ∨ op = 6 ∨ op = 7 := by have := HO.out; omega
    · rcases HQR.out with rfl | rfl | rfl
      all_goals
        go_wp2_with (go_at_call 12; (with_reducible refine (specCompare_is' x ⟨a, b, c, p, ⟨#[]⟩⟩ _ _ zx zt HQ).mono ?_); rintro e w2 ⟨rfl, hb⟩; clear x0 x1 x2 x3 x4 l0 l1 l2 l3 l4 t0 t1 t2 t3 t4 t5; replace I := Lib.hid (I.out.below hb); clear hb; obtain ⟨x0, x1, x2, x3, x4⟩ := I.out.atx.cells; obtain ⟨l0, l1, l2, l3, l4⟩ := I.out.atl.cells; obtain ⟨t0, t1, t2, t3, t4, t5⟩ := I.out.att.cells)
        go_ret
        exact ⟨ret_bool (by rw [← HR.out]; simp [CompR]), I.out.bel⟩
    · rcases HQR.out with rfl | rfl | rfl
      all_goals
        go_wp2_with (go_at_call 12; (with_reducible refine (specCompare_is' x ⟨a, b, c, p, ⟨#[]⟩⟩ _ _ zx zt HQ).mono ?_); rintro e w2 ⟨rfl, hb⟩; clear x0 x1 x2 x3 x4 l0 l1 l2 l3 l4 t0 t1 t2 t3 t4 t5; replace I := Lib.hid (I.out.below hb); clear hb; obtain ⟨x0, x1, x2, x3, x4⟩ := I.out.atx.cells; obtain ⟨l0, l1, l2, l3, l4⟩ := I.out.atl.cells; obtain ⟨t0, t1, t2, t3, t4, t5⟩ := I.out.att.cells)
        go_ret
        exact ⟨ret_bool (by rw [← HR.out]; simp [CompR]), I.out.bel⟩
    · rcases HQR.out with rfl | rfl | rfl
      all_goals
        go_wp2_with (go_at_call 12; (with_reducible refine (specCompare_is' x ⟨a, b, c, p, ⟨#[]⟩⟩ _ _ zx zt HQ).mono ?_); rintro e w2 ⟨rfl, hb⟩; clear x0 x1 x2 x3 x4 l0 l1 l2 l3 l4 t0 t1 t2 t3 t4 t5; replace I := Lib.hid (I.out.below hb); clear hb; obtain ⟨x0, x1, x2, x3, x4⟩ := I.out.atx.cells; obtain ⟨l0, l1, l2, l3, l4⟩ := I.out.atl.cells; obtain ⟨t0, t1, t2, t3, t4, t5⟩ := I.out.att.cells)
        go_ret
        exact ⟨ret_bool (by rw [← HR.out]; simp [CompR]), I.out.bel⟩
    · rcases HQR.out with rfl | rfl | rfl
      all_goals
        go_wp2_with (go_at_call 12; (with_reducible refine (specCompare_is' x ⟨a, b, c, p, ⟨#[]⟩⟩ _ _ zx zt HQ).mono ?_); rintro e w2 ⟨rfl, hb⟩; clear x0 x1 x2 x3 x4 l0 l1 l2 l3 l4 t0 t1 t2 t3 t4 t5; replace I := Lib.hid (I.out.below hb); clear hb; obtain ⟨x0, x1, x2, x3, x4⟩ := I.out.atx.cells; obtain ⟨l0, l1, l2, l3, l4⟩ := I.out.atl.cells; obtain ⟨t0, t1, t2, t3, t4, t5⟩ := I.out.att.cells)
        go_ret
        exact ⟨ret_bool (by rw [← HR.out]; simp [CompR]), I.out.bel⟩
    · rcases HQR.out with rfl | rfl | rfl
      all_goals
        go_wp2_with (go_at_call 12; (with_reducible refine (specCompare_is' x ⟨a, b, c, p, ⟨#[]⟩⟩ _ _ zx zt HQ).mono ?_); rintro e w2 ⟨rfl, hb⟩; clear x0 x1 x2 x3 x4 l0 l1 l2 l3 l4 t0 t1 t2 t3 t4 t5; replace I := Lib.hid (I.out.below hb); clear hb; obtain ⟨x0, x1, x2, x3, x4⟩ := I.out.atx.cells; obtain ⟨l0, l1, l2, l3, l4⟩ := I.out.atl.cells; obtain ⟨t0, t1, t2, t3, t4, t5⟩ := I.out.att.cells)
        go_ret
        exact ⟨ret_bool (by rw [← HR.out]; simp [CompR]), I.out.bel⟩
    · rcases HQR.out with rfl | rfl | rfl
      all_goals
        go_wp2_with (go_at_call 12; (with_reducible refine (specCompare_is' x ⟨a, b, c, p, ⟨#[]⟩⟩ _ _ zx zt HQ).mono ?_); rintro e w2 ⟨rfl, hb⟩; clear x0 x1 x2 x3 x4 l0 l1 l2 l3 l4 t0 t1 t2 t3 t4 t5; replace I := Lib.hid (I.out.below hb); clear hb; obtain ⟨x0, x1, x2, x3, x4⟩ := I.out.atx.cells; obtain ⟨l0, l1, l2, l3, l4⟩ := I.out.atl.cells; obtain ⟨t0, t1, t2, t3, t4, t5⟩ := I.out.att.cells)
        go_ret
        exact ⟨ret_bool (by rw [← HR.out]; simp [CompR]), I.out.bel⟩
    · rcases HQR.out with rfl | rfl | rfl
      · go_upto_region 19 with fail
        refine wp_region_held_drew (S := (fun w' => w'.cell? ⟨w.heap.size + 1, 0, none⟩ = some (.int .u64 x.a) ∧ w'.cell? ⟨w.heap.size + 1, 1, none⟩ = some (.int .u64 x.b) ∧ w'.cell? ⟨w.heap.size + 1, 2, none⟩ = some (.int .u64 x.c) ∧ w'.cell? ⟨w.heap.size + 1, 3, none⟩ = some (.string x.p) ∧ w'.cell? ⟨w.heap.size + 1, 4, none⟩ = some (.string x.m) ∧ w'.cell? ⟨M, 0, none⟩ = some (.int .u64 a) ∧ w'.cell? ⟨M, 1, none⟩ = some (.int .u64 b) ∧ w'.cell? ⟨M, 2, none⟩ = some (.int .u64 c) ∧ w'.cell? ⟨M, 3, none⟩ = some (.string p) ∧ w'.cell? ⟨M, 4, none⟩ = some (.string ⟨#[]⟩) ∧ w'.cell? ⟨w.heap.size, 0, none⟩ = some (.int .i64 6) ∧ w'.cell? ⟨w.heap.size, 1, none⟩ = some (.int .i64 3) ∧ w'.cell? ⟨w.heap.size, 2, none⟩ = some (.int .u64 a) ∧ w'.cell? ⟨w.heap.size, 3, none⟩ = some (.int .u64 b) ∧ w'.cell? ⟨w.heap.size, 4, none⟩ = some (.int .u64 c) ∧ w'.cell? ⟨w.heap.size, 5, none⟩ = some (.string p))) (by kernel_rfl) ?_ (fun hHeld => ?_)
        · ((try dsimp only); all_goals (refine ⟨?_, ?_, ?_, ?_, ?_, ?_, ?_, ?_, ?_, ?_, ?_, ?_, ?_, ?_, ?_, ?_⟩ <;> (repeat (first | with_reducible assumption | with_reducible apply cell_alloc_some | with_reducible apply cell_drew_some | with_reducible refine cell_below (by with_reducible assumption) ?_ | with_reducible refine cell_set_other (by omega) ?_))))
        refine wpAnyH_take (i := 0) (v := ?_) rfl (by kernel_rfl) (by kernel_rfl) (by kernel_rfl) (fun _ _ _ h => h) (Or.inl ⟨by kernel_rfl, ?_⟩) (by assumption) ?_
        rotate_left
        · (intro w hSw; (try dsimp only at hSw); go_simp <;> with_reducible rfl)
        try (simp only [Act.put]; (try simp only [List.setIfInBounds_toArray]); (try simp only [List.set_cons_succ]); (try simp only [List.set_cons_zero]))
        refine wpAnyH_take (i := 1) (v := ?_) rfl (by kernel_rfl) (by kernel_rfl) (by kernel_rfl) (fun _ _ _ h => h) (Or.inl ⟨by kernel_rfl, ?_⟩) (by assumption) ?_
        rotate_left
        · (intro w hSw; (try dsimp only at hSw); go_simp <;> with_reducible rfl)
        try (simp only [Act.put]; (try simp only [List.setIfInBounds_toArray]); (try simp only [List.set_cons_succ]); (try simp only [List.set_cons_zero]))
        refine wpAnyH_ready (rs := [2]) (by kernel_rfl) (by simp) ?_
        refine AllReadyH.cons rfl (fun K hK => ?_) AllReadyH.nil
        go_simp
        (go_at_call 12; (with_reducible refine (specCompare_is' x ⟨a, b, c, p, ⟨#[]⟩⟩ _ _ zx zt HQ).mono ?_); rintro e wb ⟨rfl, hb⟩; have HB2 := Lib.hid (Below.up (w := w) (Below.up I.out.bel (by (repeat (first | exact Below.refl _ _ | apply Below.drew | (apply below_alloc_on (Nat.le_refl _)))))) hb))
        refine hK.out _ _ ?_ (fun hHeld => ?_)
        · ((try dsimp only); all_goals (refine ⟨?_, ?_, ?_, ?_, ?_, ?_, ?_, ?_, ?_, ?_, ?_, ?_, ?_, ?_, ?_, ?_⟩ <;> (repeat (first | with_reducible assumption | with_reducible apply cell_alloc_some | with_reducible apply cell_drew_some | with_reducible refine cell_below (by with_reducible assumption) ?_ | with_reducible refine cell_set_other (by omega) ?_))))
        clear hK K
        try (simp only [Act.put]; (try simp only [List.setIfInBounds_toArray]); (try simp only [List.set_cons_succ]); (try simp only [List.set_cons_zero]))
        refine wpAnyH_ready (rs := [3]) (by kernel_rfl) (by simp) ?_
        refine AllReadyH.cons rfl (fun K hK => ?_) AllReadyH.nil
        go_simp
        refine hK.out _ _ ?_ (fun hHeld => ?_)
        · ((try dsimp only); all_goals (refine ⟨?_, ?_, ?_, ?_, ?_, ?_, ?_, ?_, ?_, ?_, ?_, ?_, ?_, ?_, ?_, ?_⟩ <;> (repeat (first | with_reducible assumption | with_reducible apply cell_alloc_some | with_reducible apply cell_drew_some | with_reducible refine cell_below (by with_reducible assumption) ?_ | with_reducible refine cell_set_other (by omega) ?_))))
        clear hK K
        try (simp only [Act.put]; (try simp only [List.setIfInBounds_toArray]); (try simp only [List.set_cons_succ]); (try simp only [List.set_cons_zero]))
        refine wpAnyH_ready (rs := [4]) (by kernel_rfl) (by simp) ?_
        refine AllReadyH.cons rfl (fun K hK => ?_) AllReadyH.nil
        go_simp
        refine hK.out _ _ ?_ (fun hHeld => ?_)
        · ((try dsimp only); all_goals (refine ⟨?_, ?_, ?_, ?_, ?_, ?_, ?_, ?_, ?_, ?_, ?_, ?_, ?_, ?_, ?_, ?_⟩ <;> (repeat (first | with_reducible assumption | with_reducible apply cell_alloc_some | with_reducible apply cell_drew_some | with_reducible refine cell_below (by with_reducible assumption) ?_ | with_reducible refine cell_set_other (by omega) ?_))))
        clear hK K
        try (simp only [Act.put]; (try simp only [List.setIfInBounds_toArray]); (try simp only [List.set_cons_succ]); (try simp only [List.set_cons_zero]))
        refine wpAnyH_take (i := 5) (v := undef) rfl (by kernel_rfl) (by kernel_rfl) (by kernel_rfl) (fun _ _ _ h => h) (Or.inr ⟨by kernel_rfl, Eq.refl undef⟩) (by assumption) ?_
        try (simp only [Act.put]; (try simp only [List.setIfInBounds_toArray]); (try simp only [List.set_cons_succ]); (try simp only [List.set_cons_zero]))
        refine wpAnyH_take (i := 6) (v := undef) rfl (by kernel_rfl) (by kernel_rfl) (by kernel_rfl) (fun _ _ _ h => h) (Or.inr ⟨by kernel_rfl, Eq.refl undef⟩) (by assumption) ?_
        try (simp only [Act.put]; (try simp only [List.setIfInBounds_toArray]); (try simp only [List.set_cons_succ]); (try simp only [List.set_cons_zero]))
        refine wpAnyH_take (i := 7) (v := undef) rfl (by kernel_rfl) (by kernel_rfl) (by kernel_rfl) (fun _ _ _ h => h) (Or.inr ⟨by kernel_rfl, Eq.refl undef⟩) (by assumption) ?_
        try (simp only [Act.put]; (try simp only [List.setIfInBounds_toArray]); (try simp only [List.set_cons_succ]); (try simp only [List.set_cons_zero]))
        refine wpAnyH_take (i := 8) (v := undef) rfl (by kernel_rfl) (by kernel_rfl) (by kernel_rfl) (fun _ _ _ h => h) (Or.inr ⟨by kernel_rfl, Eq.refl undef⟩) (by assumption) ?_
        try (simp only [Act.put]; (try simp only [List.setIfInBounds_toArray]); (try simp only [List.set_cons_succ]); (try simp only [List.set_cons_zero]))
        refine wpAnyH_take (i := 9) (v := undef) rfl (by kernel_rfl) (by kernel_rfl) (by kernel_rfl) (fun _ _ _ h => h) (Or.inr ⟨by kernel_rfl, Eq.refl undef⟩) (by assumption) ?_
        try (simp only [Act.put]; (try simp only [List.setIfInBounds_toArray]); (try simp only [List.set_cons_succ]); (try simp only [List.set_cons_zero]))
        refine wpAnyH_take (i := 10) (v := undef) rfl (by kernel_rfl) (by kernel_rfl) (by kernel_rfl) (fun _ _ _ h => h) (Or.inr ⟨by kernel_rfl, Eq.refl undef⟩) (by assumption) ?_
        try (simp only [Act.put]; (try simp only [List.setIfInBounds_toArray]); (try simp only [List.set_cons_succ]); (try simp only [List.set_cons_zero]))
        refine wpAnyH_ready (rs := [11]) (by kernel_rfl) (by simp) ?_
        refine AllReadyH.cons rfl (fun K hK => ?_) AllReadyH.nil
        go_simp
        refine hK.out _ _ ?_ (fun hHeld => ?_)
        · ((try dsimp only); all_goals (refine ⟨?_, ?_, ?_, ?_, ?_, ?_, ?_, ?_, ?_, ?_, ?_, ?_, ?_, ?_, ?_, ?_⟩ <;> (repeat (first | with_reducible assumption | with_reducible apply cell_alloc_some | with_reducible apply cell_drew_some | with_reducible refine cell_below (by with_reducible assumption) ?_ | with_reducible refine cell_set_other (by omega) ?_))))
        clear hK K
        try (simp only [Act.put]; (try simp only [List.setIfInBounds_toArray]); (try simp only [List.set_cons_succ]); (try simp only [List.set_cons_zero]))
        refine wpAnyH_ready (rs := [12]) (by kernel_rfl) (by simp) ?_
        refine AllReadyH.cons rfl (fun K hK => ?_) AllReadyH.nil
        go_simp
        refine hK.out _ _ ?_ (fun hHeld => ?_)
        · ((try dsimp only); all_goals (refine ⟨?_, ?_, ?_, ?_, ?_, ?_, ?_, ?_, ?_, ?_, ?_, ?_, ?_, ?_, ?_, ?_⟩ <;> (repeat (first | with_reducible assumption | with_reducible apply cell_alloc_some | with_reducible apply cell_drew_some | with_reducible refine cell_below (by with_reducible assumption) ?_ | with_reducible refine cell_set_other (by omega) ?_))))
        clear hK K
        try (simp only [Act.put]; (try simp only [List.setIfInBounds_toArray]); (try simp only [List.set_cons_succ]); (try simp only [List.set_cons_zero]))
        refine wpAnyH_done (by kernel_rfl) ?_ _
        go_wp2
        go_ret
        exact ⟨ret_bool (by rw [← HR.out]; simp [CompR]), Below.up HB2.out (by (repeat (first | exact Below.refl _ _ | apply Below.drew | (apply below_alloc_on (Nat.le_refl _)))))⟩
      · go_upto_region 19 with fail
        refine wp_region_held_drew (S := (fun w' => w'.cell? ⟨w.heap.size + 1, 0, none⟩ = some (.int .u64 x.a) ∧ w'.cell? ⟨w.heap.size + 1, 1, none⟩ = some (.int .u64 x.b) ∧ w'.cell? ⟨w.heap.size + 1, 2, none⟩ = some (.int .u64 x.c) ∧ w'.cell? ⟨w.heap.size + 1, 3, none⟩ = some (.string x.p) ∧ w'.cell? ⟨w.heap.size + 1, 4, none⟩ = some (.string x.m) ∧ w'.cell? ⟨M, 0, none⟩ = some (.int .u64 a) ∧ w'.cell? ⟨M, 1, none⟩ = some (.int .u64 b) ∧ w'.cell? ⟨M, 2, none⟩ = some (.int .u64 c) ∧ w'.cell? ⟨M, 3, none⟩ = some (.string p) ∧ w'.cell? ⟨M, 4, none⟩ = some (.string ⟨#[]⟩) ∧ w'.cell? ⟨w.heap.size, 0, none⟩ = some (.int .i64 6) ∧ w'.cell? ⟨w.heap.size, 1, none⟩ = some (.int .i64 3) ∧ w'.cell? ⟨w.heap.size, 2, none⟩ = some (.int .u64 a) ∧ w'.cell? ⟨w.heap.size, 3, none⟩ = some (.int .u64 b) ∧ w'.cell? ⟨w.heap.size, 4, none⟩ = some (.int .u64 c) ∧ w'.cell? ⟨w.heap.size, 5, none⟩ = some (.string p))) (by kernel_rfl) ?_ (fun hHeld => ?_)
        · ((try dsimp only); all_goals (refine ⟨?_, ?_, ?_, ?_, ?_, ?_, ?_, ?_, ?_, ?_, ?_, ?_, ?_, ?_, ?_, ?_⟩ <;> (repeat (first | with_reducible assumption | with_reducible apply cell_alloc_some | with_reducible apply cell_drew_some | with_reducible refine cell_below (by with_reducible assumption) ?_ | with_reducible refine cell_set_other (by omega) ?_))))
        refine wpAnyH_take (i := 0) (v := ?_) rfl (by kernel_rfl) (by kernel_rfl) (by kernel_rfl) (fun _ _ _ h => h) (Or.inl ⟨by kernel_rfl, ?_⟩) (by assumption) ?_
        rotate_left
        · (intro w hSw; (try dsimp only at hSw); go_simp <;> with_reducible rfl)
        try (simp only [Act.put]; (try simp only [List.setIfInBounds_toArray]); (try simp only [List.set_cons_succ]); (try simp only [List.set_cons_zero]))
        refine wpAnyH_take (i := 1) (v := ?_) rfl (by kernel_rfl) (by kernel_rfl) (by kernel_rfl) (fun _ _ _ h => h) (Or.inl ⟨by kernel_rfl, ?_⟩) (by assumption) ?_
        rotate_left
        · (intro w hSw; (try dsimp only at hSw); go_simp <;> with_reducible rfl)
        try (simp only [Act.put]; (try simp only [List.setIfInBounds_toArray]); (try simp only [List.set_cons_succ]); (try simp only [List.set_cons_zero]))
        refine wpAnyH_ready (rs := [2]) (by kernel_rfl) (by simp) ?_
        refine AllReadyH.cons rfl (fun K hK => ?_) AllReadyH.nil
        go_simp
        (go_at_call 12; (with_reducible refine (specCompare_is' x ⟨a, b, c, p, ⟨#[]⟩⟩ _ _ zx zt HQ).mono ?_); rintro e wb ⟨rfl, hb⟩; have HB2 := Lib.hid (Below.up (w := w) (Below.up I.out.bel (by (repeat (first | exact Below.refl _ _ | apply Below.drew | (apply below_alloc_on (Nat.le_refl _)))))) hb))
        refine hK.out _ _ ?_ (fun hHeld => ?_)
        · ((try dsimp only); all_goals (refine ⟨?_, ?_, ?_, ?_, ?_, ?_, ?_, ?_, ?_, ?_, ?_, ?_, ?_, ?_, ?_, ?_⟩ <;> (repeat (first | with_reducible assumption | with_reducible apply cell_alloc_some | with_reducible apply cell_drew_some | with_reducible refine cell_below (by with_reducible assumption) ?_ | with_reducible refine cell_set_other (by omega) ?_))))
        clear hK K
        try (simp only [Act.put]; (try simp only [List.setIfInBounds_toArray]); (try simp only [List.set_cons_succ]); (try simp only [List.set_cons_zero]))
        refine wpAnyH_ready (rs := [3]) (by kernel_rfl) (by simp) ?_
        refine AllReadyH.cons rfl (fun K hK => ?_) AllReadyH.nil
        go_simp
        refine hK.out _ _ ?_ (fun hHeld => ?_)
        · ((try dsimp only); all_goals (refine ⟨?_, ?_, ?_, ?_, ?_, ?_, ?_, ?_, ?_, ?_, ?_, ?_, ?_, ?_, ?_, ?_⟩ <;> (repeat (first | with_reducible assumption | with_reducible apply cell_alloc_some | with_reducible apply cell_drew_some | with_reducible refine cell_below (by with_reducible assumption) ?_ | with_reducible refine cell_set_other (by omega) ?_))))
        clear hK K
        try (simp only [Act.put]; (try simp only [List.setIfInBounds_toArray]); (try simp only [List.set_cons_succ]); (try simp only [List.set_cons_zero]))
        refine wpAnyH_ready (rs := [4]) (by kernel_rfl) (by simp) ?_
        refine AllReadyH.cons rfl (fun K hK => ?_) AllReadyH.nil
        go_simp
        refine hK.out _ _ ?_ (fun hHeld => ?_)
        · ((try dsimp only); all_goals (refine ⟨?_, ?_, ?_, ?_, ?_, ?_, ?_, ?_, ?_, ?_, ?_, ?_, ?_, ?_, ?_, ?_⟩ <;> (repeat (first | with_reducible assumption | with_reducible apply cell_alloc_some | with_reducible apply cell_drew_some | with_reducible refine cell_below (by with_reducible assumption) ?_ | with_reducible refine cell_set_other (by omega) ?_))))
        clear hK K
        try (simp only [Act.put]; (try simp only [List.setIfInBounds_toArray]); (try simp only [List.set_cons_succ]); (try simp only [List.set_cons_zero]))
        refine wpAnyH_take (i := 5) (v := ?_) rfl (by kernel_rfl) (by kernel_rfl) (by kernel_rfl) (fun _ _ _ h => h) (Or.inl ⟨by kernel_rfl, ?_⟩) (by assumption) ?_
        rotate_left
        · (intro w hSw; (try dsimp only at hSw); go_simp <;> with_reducible rfl)
        try (simp only [Act.put]; (try simp only [List.setIfInBounds_toArray]); (try simp only [List.set_cons_succ]); (try simp only [List.set_cons_zero]))
        refine wpAnyH_take (i := 6) (v := ?_) rfl (by kernel_rfl) (by kernel_rfl) (by kernel_rfl) (fun _ _ _ h => h) (Or.inl ⟨by kernel_rfl, ?_⟩) (by assumption) ?_
        rotate_left
        · (intro w hSw; (try dsimp only at hSw); go_simp <;> with_reducible rfl)
        try (simp only [Act.put]; (try simp only [List.setIfInBounds_toArray]); (try simp only [List.set_cons_succ]); (try simp only [List.set_cons_zero]))
        refine wpAnyH_take (i := 7) (v := ?_) rfl (by kernel_rfl) (by kernel_rfl) (by kernel_rfl) (fun _ _ _ h => h) (Or.inl ⟨by kernel_rfl, ?_⟩) (by assumption) ?_
        rotate_left
        · (intro w hSw; (try dsimp only at hSw); go_simp <;> with_reducible rfl)
        try (simp only [Act.put]; (try simp only [List.setIfInBounds_toArray]); (try simp only [List.set_cons_succ]); (try simp only [List.set_cons_zero]))
        refine wpAnyH_ready (rs := [8]) (by kernel_rfl) (by simp) ?_
        refine AllReadyH.cons rfl (fun K hK => ?_) AllReadyH.nil
        go_simp
        (go_at_call 80; (with_reducible refine (tilde_g 6 3 a b c p _ HGG k6 HK6).mono ?_); rintro e wd ⟨rfl, hb8⟩; have HB8 := Lib.hid (Below.up HB2.out (Below.up (by (repeat (first | exact Below.refl _ _ | apply Below.drew | (apply below_alloc_on (Nat.le_refl _))))) hb8)))
        refine hK.out _ _ ?_ (fun hHeld => ?_)
        · ((try dsimp only); all_goals (refine ⟨?_, ?_, ?_, ?_, ?_, ?_, ?_, ?_, ?_, ?_, ?_, ?_, ?_, ?_, ?_, ?_⟩ <;> (repeat (first | with_reducible assumption | with_reducible apply cell_alloc_some | with_reducible apply cell_drew_some | with_reducible refine cell_below (by with_reducible assumption) ?_ | with_reducible refine cell_set_other (by omega) ?_))))
        clear hK K
        try (simp only [Act.put]; (try simp only [List.setIfInBounds_toArray]); (try simp only [List.set_cons_succ]); (try simp only [List.set_cons_zero]))
        refine wpAnyH_ready (rs := [9]) (by kernel_rfl) (by simp) ?_
        refine AllReadyH.cons rfl (fun K hK => ?_) AllReadyH.nil
        go_simp
        (go_at_call 15; (with_reducible refine (numbers_g x ⟨a, b, c, p, ⟨#[]⟩⟩ _ _ _ _ HG6 HN6).mono ?_); rintro e we ⟨rfl, hb9⟩; have HB9 := Lib.hid (Below.up HB8.out (Below.up (by (repeat (first | exact Below.refl _ _ | apply Below.drew | (apply below_alloc_on (Nat.le_refl _))))) hb9)))
        refine hK.out _ _ ?_ (fun hHeld => ?_)
        · ((try dsimp only); all_goals (refine ⟨?_, ?_, ?_, ?_, ?_, ?_, ?_, ?_, ?_, ?_, ?_, ?_, ?_, ?_, ?_, ?_⟩ <;> (repeat (first | with_reducible assumption | with_reducible apply cell_alloc_some | with_reducible apply cell_drew_some | with_reducible refine cell_below (by with_reducible assumption) ?_ | with_reducible refine cell_set_other (by omega) ?_))))
        clear hK K
        try (simp only [Act.put]; (try simp only [List.setIfInBounds_toArray]); (try simp only [List.set_cons_succ]); (try simp only [List.set_cons_zero]))
        refine wpAnyH_ready (rs := [10]) (by kernel_rfl) (by simp) ?_
        refine AllReadyH.cons rfl (fun K hK => ?_) AllReadyH.nil
        go_simp
        refine hK.out _ _ ?_ (fun hHeld => ?_)
        · ((try dsimp only); all_goals (refine ⟨?_, ?_, ?_, ?_, ?_, ?_, ?_, ?_, ?_, ?_, ?_, ?_, ?_, ?_, ?_, ?_⟩ <;> (repeat (first | with_reducible assumption | with_reducible apply cell_alloc_some | with_reducible apply cell_drew_some | with_reducible refine cell_below (by with_reducible assumption) ?_ | with_reducible refine cell_set_other (by omega) ?_))))
        clear hK K
        try (simp only [Act.put]; (try simp only [List.setIfInBounds_toArray]); (try simp only [List.set_cons_succ]); (try simp only [List.set_cons_zero]))
        refine wpAnyH_ready (rs := [11]) (by kernel_rfl) (by simp) ?_
        refine AllReadyH.cons rfl (fun K hK => ?_) AllReadyH.nil
        go_simp
        refine hK.out _ _ ?_ (fun hHeld => ?_)
        · ((try dsimp only); all_goals (refine ⟨?_, ?_, ?_, ?_, ?_, ?_, ?_, ?_, ?_, ?_, ?_, ?_, ?_, ?_, ?_, ?_⟩ <;> (repeat (first | with_reducible assumption | with_reducible apply cell_alloc_some | with_reducible apply cell_drew_some | with_reducible refine cell_below (by with_reducible assumption) ?_ | with_reducible refine cell_set_other (by omega) ?_))))
        clear hK K
        try (simp only [Act.put]; (try simp only [List.setIfInBounds_toArray]); (try simp only [List.set_cons_succ]); (try simp only [List.set_cons_zero]))
        refine wpAnyH_ready (rs := [12]) (by kernel_rfl) (by simp) ?_
        refine AllReadyH.cons rfl (fun K hK => ?_) AllReadyH.nil
        go_simp
        refine hK.out _ _ ?_ (fun hHeld => ?_)
        · ((try dsimp only); all_goals (refine ⟨?_, ?_, ?_, ?_, ?_, ?_, ?_, ?_, ?_, ?_, ?_, ?_, ?_, ?_, ?_, ?_⟩ <;> (repeat (first | with_reducible assumption | with_reducible apply cell_alloc_some | with_reducible apply cell_drew_some | with_reducible refine cell_below (by with_reducible assumption) ?_ | with_reducible refine cell_set_other (by omega) ?_))))
        clear hK K
        try (simp only [Act.put]; (try simp only [List.setIfInBounds_toArray]); (try simp only [List.set_cons_succ]); (try simp only [List.set_cons_zero]))
        refine wpAnyH_done (by kernel_rfl) ?_ _
        go_wp2
        go_ret
        exact ⟨ret_bool (by rw [← HR.out]; rcases H6R.out with k | k | k <;> simp [CompR, k]), Below.up HB9.out (by (repeat (first | exact Below.refl _ _ | apply Below.drew | (apply below_alloc_on (Nat.le_refl _)))))⟩
      · go_upto_region 19 with fail
        refine wp_region_held_drew (S := (fun w' => w'.cell? ⟨w.heap.size + 1, 0, none⟩ = some (.int .u64 x.a) ∧ w'.cell? ⟨w.heap.size + 1, 1, none⟩ = some (.int .u64 x.b) ∧ w'.cell? ⟨w.heap.size + 1, 2, none⟩ = some (.int .u64 x.c) ∧ w'.cell? ⟨w.heap.size + 1, 3, none⟩ = some (.string x.p) ∧ w'.cell? ⟨w.heap.size + 1, 4, none⟩ = some (.string x.m) ∧ w'.cell? ⟨M, 0, none⟩ = some (.int .u64 a) ∧ w'.cell? ⟨M, 1, none⟩ = some (.int .u64 b) ∧ w'.cell? ⟨M, 2, none⟩ = some (.int .u64 c) ∧ w'.cell? ⟨M, 3, none⟩ = some (.string p) ∧ w'.cell? ⟨M, 4, none⟩ = some (.string ⟨#[]⟩) ∧ w'.cell? ⟨w.heap.size, 0, none⟩ = some (.int .i64 6) ∧ w'.cell? ⟨w.heap.size, 1, none⟩ = some (.int .i64 3) ∧ w'.cell? ⟨w.heap.size, 2, none⟩ = some (.int .u64 a) ∧ w'.cell? ⟨w.heap.size, 3, none⟩ = some (.int .u64 b) ∧ w'.cell? ⟨w.heap.size, 4, none⟩ = some (.int .u64 c) ∧ w'.cell? ⟨w.heap.size, 5, none⟩ = some (.string p))) (by kernel_rfl) ?_ (fun hHeld => ?_)
        · ((try dsimp only); all_goals (refine ⟨?_, ?_, ?_, ?_, ?_, ?_, ?_, ?_, ?_, ?_, ?_, ?_, ?_, ?_, ?_, ?_⟩ <;> (repeat (first | with_reducible assumption | with_reducible apply cell_alloc_some | with_reducible apply cell_drew_some | with_reducible refine cell_below (by with_reducible assumption) ?_ | with_reducible refine cell_set_other (by omega) ?_))))
        refine wpAnyH_take (i := 0) (v := ?_) rfl (by kernel_rfl) (by kernel_rfl) (by kernel_rfl) (fun _ _ _ h => h) (Or.inl ⟨by kernel_rfl, ?_⟩) (by assumption) ?_
        rotate_left
        · (intro w hSw; (try dsimp only at hSw); go_simp <;> with_reducible rfl)
        try (simp only [Act.put]; (try simp only [List.setIfInBounds_toArray]); (try simp only [List.set_cons_succ]); (try simp only [List.set_cons_zero]))
        refine wpAnyH_take (i := 1) (v := ?_) rfl (by kernel_rfl) (by kernel_rfl) (by kernel_rfl) (fun _ _ _ h => h) (Or.inl ⟨by kernel_rfl, ?_⟩) (by assumption) ?_
        rotate_left
        · (intro w hSw; (try dsimp only at hSw); go_simp <;> with_reducible rfl)
        try (simp only [Act.put]; (try simp only [List.setIfInBounds_toArray]); (try simp only [List.set_cons_succ]); (try simp only [List.set_cons_zero]))
        refine wpAnyH_ready (rs := [2]) (by kernel_rfl) (by simp) ?_
        refine AllReadyH.cons rfl (fun K hK => ?_) AllReadyH.nil
        go_simp
        (go_at_call 12; (with_reducible refine (specCompare_is' x ⟨a, b, c, p, ⟨#[]⟩⟩ _ _ zx zt HQ).mono ?_); rintro e wb ⟨rfl, hb⟩; have HB2 := Lib.hid (Below.up (w := w) (Below.up I.out.bel (by (repeat (first | exact Below.refl _ _ | apply Below.drew | (apply below_alloc_on (Nat.le_refl _)))))) hb))
        refine hK.out _ _ ?_ (fun hHeld => ?_)
        · ((try dsimp only); all_goals (refine ⟨?_, ?_, ?_, ?_, ?_, ?_, ?_, ?_, ?_, ?_, ?_, ?_, ?_, ?_, ?_, ?_⟩ <;> (repeat (first | with_reducible assumption | with_reducible apply cell_alloc_some | with_reducible apply cell_drew_some | with_reducible refine cell_below (by with_reducible assumption) ?_ | with_reducible refine cell_set_other (by omega) ?_))))
        clear hK K
        try (simp only [Act.put]; (try simp only [List.setIfInBounds_toArray]); (try simp only [List.set_cons_succ]); (try simp only [List.set_cons_zero]))
        refine wpAnyH_ready (rs := [3]) (by kernel_rfl) (by simp) ?_
        refine AllReadyH.cons rfl (fun K hK => ?_) AllReadyH.nil
        go_simp
        refine hK.out _ _ ?_ (fun hHeld => ?_)
        · ((try dsimp only); all_goals (refine ⟨?_, ?_, ?_, ?_, ?_, ?_, ?_, ?_, ?_, ?_, ?_, ?_, ?_, ?_, ?_, ?_⟩ <;> (repeat (first | with_reducible assumption | with_reducible apply cell_alloc_some | with_reducible apply cell_drew_some | with_reducible refine cell_below (by with_reducible assumption) ?_ | with_reducible refine cell_set_other (by omega) ?_))))
        clear hK K
        try (simp only [Act.put]; (try simp only [List.setIfInBounds_toArray]); (try simp only [List.set_cons_succ]); (try simp only [List.set_cons_zero]))
        refine wpAnyH_ready (rs := [4]) (by kernel_rfl) (by simp) ?_
        refine AllReadyH.cons rfl (fun K hK => ?_) AllReadyH.nil
        go_simp
        refine hK.out _ _ ?_ (fun hHeld => ?_)
        · ((try dsimp only); all_goals (refine ⟨?_, ?_, ?_, ?_, ?_, ?_, ?_, ?_, ?_, ?_, ?_, ?_, ?_, ?_, ?_, ?_⟩ <;> (repeat (first | with_reducible assumption | with_reducible apply cell_alloc_some | with_reducible apply cell_drew_some | with_reducible refine cell_below (by with_reducible assumption) ?_ | with_reducible refine cell_set_other (by omega) ?_))))
        clear hK K
        try (simp only [Act.put]; (try simp only [List.setIfInBounds_toArray]); (try simp only [List.set_cons_succ]); (try simp only [List.set_cons_zero]))
        refine wpAnyH_take (i := 5) (v := ?_) rfl (by kernel_rfl) (by kernel_rfl) (by kernel_rfl) (fun _ _ _ h => h) (Or.inl ⟨by kernel_rfl, ?_⟩) (by assumption) ?_
        rotate_left
        · (intro w hSw; (try dsimp only at hSw); go_simp <;> with_reducible rfl)
        try (simp only [Act.put]; (try simp only [List.setIfInBounds_toArray]); (try simp only [List.set_cons_succ]); (try simp only [List.set_cons_zero]))
        refine wpAnyH_take (i := 6) (v := ?_) rfl (by kernel_rfl) (by kernel_rfl) (by kernel_rfl) (fun _ _ _ h => h) (Or.inl ⟨by kernel_rfl, ?_⟩) (by assumption) ?_
        rotate_left
        · (intro w hSw; (try dsimp only at hSw); go_simp <;> with_reducible rfl)
        try (simp only [Act.put]; (try simp only [List.setIfInBounds_toArray]); (try simp only [List.set_cons_succ]); (try simp only [List.set_cons_zero]))
        refine wpAnyH_take (i := 7) (v := ?_) rfl (by kernel_rfl) (by kernel_rfl) (by kernel_rfl) (fun _ _ _ h => h) (Or.inl ⟨by kernel_rfl, ?_⟩) (by assumption) ?_
        rotate_left
        · (intro w hSw; (try dsimp only at hSw); go_simp <;> with_reducible rfl)
        try (simp only [Act.put]; (try simp only [List.setIfInBounds_toArray]); (try simp only [List.set_cons_succ]); (try simp only [List.set_cons_zero]))
        refine wpAnyH_ready (rs := [8]) (by kernel_rfl) (by simp) ?_
        refine AllReadyH.cons rfl (fun K hK => ?_) AllReadyH.nil
        go_simp
        (go_at_call 80; (with_reducible refine (tilde_g 6 3 a b c p _ HGG k6 HK6).mono ?_); rintro e wd ⟨rfl, hb8⟩; have HB8 := Lib.hid (Below.up HB2.out (Below.up (by (repeat (first | exact Below.refl _ _ | apply Below.drew | (apply below_alloc_on (Nat.le_refl _))))) hb8)))
        refine hK.out _ _ ?_ (fun hHeld => ?_)
        · ((try dsimp only); all_goals (refine ⟨?_, ?_, ?_, ?_, ?_, ?_, ?_, ?_, ?_, ?_, ?_, ?_, ?_, ?_, ?_, ?_⟩ <;> (repeat (first | with_reducible assumption | with_reducible apply cell_alloc_some | with_reducible apply cell_drew_some | with_reducible refine cell_below (by with_reducible assumption) ?_ | with_reducible refine cell_set_other (by omega) ?_))))
        clear hK K
        try (simp only [Act.put]; (try simp only [List.setIfInBounds_toArray]); (try simp only [List.set_cons_succ]); (try simp only [List.set_cons_zero]))
        refine wpAnyH_ready (rs := [9]) (by kernel_rfl) (by simp) ?_
        refine AllReadyH.cons rfl (fun K hK => ?_) AllReadyH.nil
        go_simp
        (go_at_call 15; (with_reducible refine (numbers_g x ⟨a, b, c, p, ⟨#[]⟩⟩ _ _ _ _ HG6 HN6).mono ?_); rintro e we ⟨rfl, hb9⟩; have HB9 := Lib.hid (Below.up HB8.out (Below.up (by (repeat (first | exact Below.refl _ _ | apply Below.drew | (apply below_alloc_on (Nat.le_refl _))))) hb9)))
        refine hK.out _ _ ?_ (fun hHeld => ?_)
        · ((try dsimp only); all_goals (refine ⟨?_, ?_, ?_, ?_, ?_, ?_, ?_, ?_, ?_, ?_, ?_, ?_, ?_, ?_, ?_, ?_⟩ <;> (repeat (first | with_reducible assumption | with_reducible apply cell_alloc_some | with_reducible apply cell_drew_some | with_reducible refine cell_below (by with_reducible assumption) ?_ | with_reducible refine cell_set_other (by omega) ?_))))
        clear hK K
        try (simp only [Act.put]; (try simp only [List.setIfInBounds_toArray]); (try simp only [List.set_cons_succ]); (try simp only [List.set_cons_zero]))
        refine wpAnyH_ready (rs := [10]) (by kernel_rfl) (by simp) ?_
        refine AllReadyH.cons rfl (fun K hK => ?_) AllReadyH.nil
        go_simp
        refine hK.out _ _ ?_ (fun hHeld => ?_)
        · ((try dsimp only); all_goals (refine ⟨?_, ?_, ?_, ?_, ?_, ?_, ?_, ?_, ?_, ?_, ?_, ?_, ?_, ?_, ?_, ?_⟩ <;> (repeat (first | with_reducible assumption | with_reducible apply cell_alloc_some | with_reducible apply cell_drew_some | with_reducible refine cell_below (by with_reducible assumption) ?_ | with_reducible refine cell_set_other (by omega) ?_))))
        clear hK K
        try (simp only [Act.put]; (try simp only [List.setIfInBounds_toArray]); (try simp only [List.set_cons_succ]); (try simp only [List.set_cons_zero]))
        refine wpAnyH_ready (rs := [11]) (by kernel_rfl) (by simp) ?_
        refine AllReadyH.cons rfl (fun K hK => ?_) AllReadyH.nil
        go_simp
        refine hK.out _ _ ?_ (fun hHeld => ?_)
        · ((try dsimp only); all_goals (refine ⟨?_, ?_, ?_, ?_, ?_, ?_, ?_, ?_, ?_, ?_, ?_, ?_, ?_, ?_, ?_, ?_⟩ <;> (repeat (first | with_reducible assumption | with_reducible apply cell_alloc_some | with_reducible apply cell_drew_some | with_reducible refine cell_below (by with_reducible assumption) ?_ | with_reducible refine cell_set_other (by omega) ?_))))
        clear hK K
        try (simp only [Act.put]; (try simp only [List.setIfInBounds_toArray]); (try simp only [List.set_cons_succ]); (try simp only [List.set_cons_zero]))
        refine wpAnyH_ready (rs := [12]) (by kernel_rfl) (by simp) ?_
        refine AllReadyH.cons rfl (fun K hK => ?_) AllReadyH.nil
        go_simp
        refine hK.out _ _ ?_ (fun hHeld => ?_)
        · ((try dsimp only); all_goals (refine ⟨?_, ?_, ?_, ?_, ?_, ?_, ?_, ?_, ?_, ?_, ?_, ?_, ?_, ?_, ?_, ?_⟩ <;> (repeat (first | with_reducible assumption | with_reducible apply cell_alloc_some | with_reducible apply cell_drew_some | with_reducible refine cell_below (by with_reducible assumption) ?_ | with_reducible refine cell_set_other (by omega) ?_))))
        clear hK K
        try (simp only [Act.put]; (try simp only [List.setIfInBounds_toArray]); (try simp only [List.set_cons_succ]); (try simp only [List.set_cons_zero]))
        refine wpAnyH_done (by kernel_rfl) ?_ _
        go_wp2
        go_ret
        exact ⟨ret_bool (by rw [← HR.out]; rcases H6R.out with k | k | k <;> simp [CompR, k]), Below.up HB9.out (by (repeat (first | exact Below.refl _ _ | apply Below.drew | (apply below_alloc_on (Nat.le_refl _)))))⟩
    · rcases HQR.out with rfl | rfl | rfl
      · go_upto_region 20 with fail
        refine wp_region_held_drew (S := (fun w' => w'.cell? ⟨w.heap.size + 1, 0, none⟩ = some (.int .u64 x.a) ∧ w'.cell? ⟨w.heap.size + 1, 1, none⟩ = some (.int .u64 x.b) ∧ w'.cell? ⟨w.heap.size + 1, 2, none⟩ = some (.int .u64 x.c) ∧ w'.cell? ⟨w.heap.size + 1, 3, none⟩ = some (.string x.p) ∧ w'.cell? ⟨w.heap.size + 1, 4, none⟩ = some (.string x.m) ∧ w'.cell? ⟨M, 0, none⟩ = some (.int .u64 a) ∧ w'.cell? ⟨M, 1, none⟩ = some (.int .u64 b) ∧ w'.cell? ⟨M, 2, none⟩ = some (.int .u64 c) ∧ w'.cell? ⟨M, 3, none⟩ = some (.string p) ∧ w'.cell? ⟨M, 4, none⟩ = some (.string ⟨#[]⟩) ∧ w'.cell? ⟨w.heap.size, 0, none⟩ = some (.int .i64 7) ∧ w'.cell? ⟨w.heap.size, 1, none⟩ = some (.int .i64 3) ∧ w'.cell? ⟨w.heap.size, 2, none⟩ = some (.int .u64 a) ∧ w'.cell? ⟨w.heap.size, 3, none⟩ = some (.int .u64 b) ∧ w'.cell? ⟨w.heap.size, 4, none⟩ = some (.int .u64 c) ∧ w'.cell? ⟨w.heap.size, 5, none⟩ = some (.string p))) (by kernel_rfl) ?_ (fun hHeld => ?_)
        · ((try dsimp only); all_goals (refine ⟨?_, ?_, ?_, ?_, ?_, ?_, ?_, ?_, ?_, ?_, ?_, ?_, ?_, ?_, ?_, ?_⟩ <;> (repeat (first | with_reducible assumption | with_reducible apply cell_alloc_some | with_reducible apply cell_drew_some | with_reducible refine cell_below (by with_reducible assumption) ?_ | with_reducible refine cell_set_other (by omega) ?_))))
        refine wpAnyH_take (i := 0) (v := ?_) rfl (by kernel_rfl) (by kernel_rfl) (by kernel_rfl) (fun _ _ _ h => h) (Or.inl ⟨by kernel_rfl, ?_⟩) (by assumption) ?_
        rotate_left
        · (intro w hSw; (try dsimp only at hSw); go_simp <;> with_reducible rfl)
        try (simp only [Act.put]; (try simp only [List.setIfInBounds_toArray]); (try simp only [List.set_cons_succ]); (try simp only [List.set_cons_zero]))
        refine wpAnyH_take (i := 1) (v := ?_) rfl (by kernel_rfl) (by kernel_rfl) (by kernel_rfl) (fun _ _ _ h => h) (Or.inl ⟨by kernel_rfl, ?_⟩) (by assumption) ?_
        rotate_left
        · (intro w hSw; (try dsimp only at hSw); go_simp <;> with_reducible rfl)
        try (simp only [Act.put]; (try simp only [List.setIfInBounds_toArray]); (try simp only [List.set_cons_succ]); (try simp only [List.set_cons_zero]))
        refine wpAnyH_ready (rs := [2]) (by kernel_rfl) (by simp) ?_
        refine AllReadyH.cons rfl (fun K hK => ?_) AllReadyH.nil
        go_simp
        (go_at_call 12; (with_reducible refine (specCompare_is' x ⟨a, b, c, p, ⟨#[]⟩⟩ _ _ zx zt HQ).mono ?_); rintro e wb ⟨rfl, hb⟩; have HB2 := Lib.hid (Below.up (w := w) (Below.up I.out.bel (by (repeat (first | exact Below.refl _ _ | apply Below.drew | (apply below_alloc_on (Nat.le_refl _)))))) hb))
        refine hK.out _ _ ?_ (fun hHeld => ?_)
        · ((try dsimp only); all_goals (refine ⟨?_, ?_, ?_, ?_, ?_, ?_, ?_, ?_, ?_, ?_, ?_, ?_, ?_, ?_, ?_, ?_⟩ <;> (repeat (first | with_reducible assumption | with_reducible apply cell_alloc_some | with_reducible apply cell_drew_some | with_reducible refine cell_below (by with_reducible assumption) ?_ | with_reducible refine cell_set_other (by omega) ?_))))
        clear hK K
        try (simp only [Act.put]; (try simp only [List.setIfInBounds_toArray]); (try simp only [List.set_cons_succ]); (try simp only [List.set_cons_zero]))
        refine wpAnyH_ready (rs := [3]) (by kernel_rfl) (by simp) ?_
        refine AllReadyH.cons rfl (fun K hK => ?_) AllReadyH.nil
        go_simp
        refine hK.out _ _ ?_ (fun hHeld => ?_)
        · ((try dsimp only); all_goals (refine ⟨?_, ?_, ?_, ?_, ?_, ?_, ?_, ?_, ?_, ?_, ?_, ?_, ?_, ?_, ?_, ?_⟩ <;> (repeat (first | with_reducible assumption | with_reducible apply cell_alloc_some | with_reducible apply cell_drew_some | with_reducible refine cell_below (by with_reducible assumption) ?_ | with_reducible refine cell_set_other (by omega) ?_))))
        clear hK K
        try (simp only [Act.put]; (try simp only [List.setIfInBounds_toArray]); (try simp only [List.set_cons_succ]); (try simp only [List.set_cons_zero]))
        refine wpAnyH_ready (rs := [4]) (by kernel_rfl) (by simp) ?_
        refine AllReadyH.cons rfl (fun K hK => ?_) AllReadyH.nil
        go_simp
        refine hK.out _ _ ?_ (fun hHeld => ?_)
        · ((try dsimp only); all_goals (refine ⟨?_, ?_, ?_, ?_, ?_, ?_, ?_, ?_, ?_, ?_, ?_, ?_, ?_, ?_, ?_, ?_⟩ <;> (repeat (first | with_reducible assumption | with_reducible apply cell_alloc_some | with_reducible apply cell_drew_some | with_reducible refine cell_below (by with_reducible assumption) ?_ | with_reducible refine cell_set_other (by omega) ?_))))
        clear hK K
        try (simp only [Act.put]; (try simp only [List.setIfInBounds_toArray]); (try simp only [List.set_cons_succ]); (try simp only [List.set_cons_zero]))
        refine wpAnyH_take (i := 5) (v := undef) rfl (by kernel_rfl) (by kernel_rfl) (by kernel_rfl) (fun _ _ _ h => h) (Or.inr ⟨by kernel_rfl, Eq.refl undef⟩) (by assumption) ?_
        try (simp only [Act.put]; (try simp only [List.setIfInBounds_toArray]); (try simp only [List.set_cons_succ]); (try simp only [List.set_cons_zero]))
        refine wpAnyH_take (i := 6) (v := undef) rfl (by kernel_rfl) (by kernel_rfl) (by kernel_rfl) (fun _ _ _ h => h) (Or.inr ⟨by kernel_rfl, Eq.refl undef⟩) (by assumption) ?_
        try (simp only [Act.put]; (try simp only [List.setIfInBounds_toArray]); (try simp only [List.set_cons_succ]); (try simp only [List.set_cons_zero]))
        refine wpAnyH_take (i := 7) (v := undef) rfl (by kernel_rfl) (by kernel_rfl) (by kernel_rfl) (fun _ _ _ h => h) (Or.inr ⟨by kernel_rfl, Eq.refl undef⟩) (by assumption) ?_
        try (simp only [Act.put]; (try simp only [List.setIfInBounds_toArray]); (try simp only [List.set_cons_succ]); (try simp only [List.set_cons_zero]))
        refine wpAnyH_take (i := 8) (v := undef) rfl (by kernel_rfl) (by kernel_rfl) (by kernel_rfl) (fun _ _ _ h => h) (Or.inr ⟨by kernel_rfl, Eq.refl undef⟩) (by assumption) ?_
        try (simp only [Act.put]; (try simp only [List.setIfInBounds_toArray]); (try simp only [List.set_cons_succ]); (try simp only [List.set_cons_zero]))
        refine wpAnyH_take (i := 9) (v := undef) rfl (by kernel_rfl) (by kernel_rfl) (by kernel_rfl) (fun _ _ _ h => h) (Or.inr ⟨by kernel_rfl, Eq.refl undef⟩) (by assumption) ?_
        try (simp only [Act.put]; (try simp only [List.setIfInBounds_toArray]); (try simp only [List.set_cons_succ]); (try simp only [List.set_cons_zero]))
        refine wpAnyH_take (i := 10) (v := undef) rfl (by kernel_rfl) (by kernel_rfl) (by kernel_rfl) (fun _ _ _ h => h) (Or.inr ⟨by kernel_rfl, Eq.refl undef⟩) (by assumption) ?_
        try (simp only [Act.put]; (try simp only [List.setIfInBounds_toArray]); (try simp only [List.set_cons_succ]); (try simp only [List.set_cons_zero]))
        refine wpAnyH_ready (rs := [11]) (by kernel_rfl) (by simp) ?_
        refine AllReadyH.cons rfl (fun K hK => ?_) AllReadyH.nil
        go_simp
        refine hK.out _ _ ?_ (fun hHeld => ?_)
        · ((try dsimp only); all_goals (refine ⟨?_, ?_, ?_, ?_, ?_, ?_, ?_, ?_, ?_, ?_, ?_, ?_, ?_, ?_, ?_, ?_⟩ <;> (repeat (first | with_reducible assumption | with_reducible apply cell_alloc_some | with_reducible apply cell_drew_some | with_reducible refine cell_below (by with_reducible assumption) ?_ | with_reducible refine cell_set_other (by omega) ?_))))
        clear hK K
        try (simp only [Act.put]; (try simp only [List.setIfInBounds_toArray]); (try simp only [List.set_cons_succ]); (try simp only [List.set_cons_zero]))
        refine wpAnyH_ready (rs := [12]) (by kernel_rfl) (by simp) ?_
        refine AllReadyH.cons rfl (fun K hK => ?_) AllReadyH.nil
        go_simp
        refine hK.out _ _ ?_ (fun hHeld => ?_)
        · ((try dsimp only); all_goals (refine ⟨?_, ?_, ?_, ?_, ?_, ?_, ?_, ?_, ?_, ?_, ?_, ?_, ?_, ?_, ?_, ?_⟩ <;> (repeat (first | with_reducible assumption | with_reducible apply cell_alloc_some | with_reducible apply cell_drew_some | with_reducible refine cell_below (by with_reducible assumption) ?_ | with_reducible refine cell_set_other (by omega) ?_))))
        clear hK K
        try (simp only [Act.put]; (try simp only [List.setIfInBounds_toArray]); (try simp only [List.set_cons_succ]); (try simp only [List.set_cons_zero]))
        refine wpAnyH_done (by kernel_rfl) ?_ _
        go_wp2
        go_ret
        exact ⟨ret_bool (by rw [← HR.out]; simp [CompR]), Below.up HB2.out (by (repeat (first | exact Below.refl _ _ | apply Below.drew | (apply below_alloc_on (Nat.le_refl _)))))⟩
      · go_upto_region 20 with fail
        refine wp_region_held_drew (S := (fun w' => w'.cell? ⟨w.heap.size + 1, 0, none⟩ = some (.int .u64 x.a) ∧ w'.cell? ⟨w.heap.size + 1, 1, none⟩ = some (.int .u64 x.b) ∧ w'.cell? ⟨w.heap.size + 1, 2, none⟩ = some (.int .u64 x.c) ∧ w'.cell? ⟨w.heap.size + 1, 3, none⟩ = some (.string x.p) ∧ w'.cell? ⟨w.heap.size + 1, 4, none⟩ = some (.string x.m) ∧ w'.cell? ⟨M, 0, none⟩ = some (.int .u64 a) ∧ w'.cell? ⟨M, 1, none⟩ = some (.int .u64 b) ∧ w'.cell? ⟨M, 2, none⟩ = some (.int .u64 c) ∧ w'.cell? ⟨M, 3, none⟩ = some (.string p) ∧ w'.cell? ⟨M, 4, none⟩ = some (.string ⟨#[]⟩) ∧ w'.cell? ⟨w.heap.size, 0, none⟩ = some (.int .i64 7) ∧ w'.cell? ⟨w.heap.size, 1, none⟩ = some (.int .i64 3) ∧ w'.cell? ⟨w.heap.size, 2, none⟩ = some (.int .u64 a) ∧ w'.cell? ⟨w.heap.size, 3, none⟩ = some (.int .u64 b) ∧ w'.cell? ⟨w.heap.size, 4, none⟩ = some (.int .u64 c) ∧ w'.cell? ⟨w.heap.size, 5, none⟩ = some (.string p))) (by kernel_rfl) ?_ (fun hHeld => ?_)
        · ((try dsimp only); all_goals (refine ⟨?_, ?_, ?_, ?_, ?_, ?_, ?_, ?_, ?_, ?_, ?_, ?_, ?_, ?_, ?_, ?_⟩ <;> (repeat (first | with_reducible assumption | with_reducible apply cell_alloc_some | with_reducible apply cell_drew_some | with_reducible refine cell_below (by with_reducible assumption) ?_ | with_reducible refine cell_set_other (by omega) ?_))))
        refine wpAnyH_take (i := 0) (v := ?_) rfl (by kernel_rfl) (by kernel_rfl) (by kernel_rfl) (fun _ _ _ h => h) (Or.inl ⟨by kernel_rfl, ?_⟩) (by assumption) ?_
        rotate_left
        · (intro w hSw; (try dsimp only at hSw); go_simp <;> with_reducible rfl)
        try (simp only [Act.put]; (try simp only [List.setIfInBounds_toArray]); (try simp only [List.set_cons_succ]); (try simp only [List.set_cons_zero]))
        refine wpAnyH_take (i := 1) (v := ?_) rfl (by kernel_rfl) (by kernel_rfl) (by kernel_rfl) (fun _ _ _ h => h) (Or.inl ⟨by kernel_rfl, ?_⟩) (by assumption) ?_
        rotate_left
        · (intro w hSw; (try dsimp only at hSw); go_simp <;> with_reducible rfl)
        try (simp only [Act.put]; (try simp only [List.setIfInBounds_toArray]); (try simp only [List.set_cons_succ]); (try simp only [List.set_cons_zero]))
        refine wpAnyH_ready (rs := [2]) (by kernel_rfl) (by simp) ?_
        refine AllReadyH.cons rfl (fun K hK => ?_) AllReadyH.nil
        go_simp
        (go_at_call 12; (with_reducible refine (specCompare_is' x ⟨a, b, c, p, ⟨#[]⟩⟩ _ _ zx zt HQ).mono ?_); rintro e wb ⟨rfl, hb⟩; have HB2 := Lib.hid (Below.up (w := w) (Below.up I.out.bel (by (repeat (first | exact Below.refl _ _ | apply Below.drew | (apply below_alloc_on (Nat.le_refl _)))))) hb))
        refine hK.out _ _ ?_ (fun hHeld => ?_)
        · ((try dsimp only); all_goals (refine ⟨?_, ?_, ?_, ?_, ?_, ?_, ?_, ?_, ?_, ?_, ?_, ?_, ?_, ?_, ?_, ?_⟩ <;> (repeat (first | with_reducible assumption | with_reducible apply cell_alloc_some | with_reducible apply cell_drew_some | with_reducible refine cell_below (by with_reducible assumption) ?_ | with_reducible refine cell_set_other (by omega) ?_))))
        clear hK K
        try (simp only [Act.put]; (try simp only [List.setIfInBounds_toArray]); (try simp only [List.set_cons_succ]); (try simp only [List.set_cons_zero]))
        refine wpAnyH_ready (rs := [3]) (by kernel_rfl) (by simp) ?_
        refine AllReadyH.cons rfl (fun K hK => ?_) AllReadyH.nil
        go_simp
        refine hK.out _ _ ?_ (fun hHeld => ?_)
        · ((try dsimp only); all_goals (refine ⟨?_, ?_, ?_, ?_, ?_, ?_, ?_, ?_, ?_, ?_, ?_, ?_, ?_, ?_, ?_, ?_⟩ <;> (repeat (first | with_reducible assumption | with_reducible apply cell_alloc_some | with_reducible apply cell_drew_some | with_reducible refine cell_below (by with_reducible assumption) ?_ | with_reducible refine cell_set_other (by omega) ?_))))
        clear hK K
        try (simp only [Act.put]; (try simp only [List.setIfInBounds_toArray]); (try simp only [List.set_cons_succ]); (try simp only [List.set_cons_zero]))
        refine wpAnyH_ready (rs := [4]) (by kernel_rfl) (by simp) ?_
        refine AllReadyH.cons rfl (fun K hK => ?_) AllReadyH.nil
        go_simp
        refine hK.out _ _ ?_ (fun hHeld => ?_)
        · ((try dsimp only); all_goals (refine ⟨?_, ?_, ?_, ?_, ?_, ?_, ?_, ?_, ?_, ?_, ?_, ?_, ?_, ?_, ?_, ?_⟩ <;> (repeat (first | with_reducible assumption | with_reducible apply cell_alloc_some | with_reducible apply cell_drew_some | with_reducible refine cell_below (by with_reducible assumption) ?_ | with_reducible refine cell_set_other (by omega) ?_))))
        clear hK K
        try (simp only [Act.put]; (try simp only [List.setIfInBounds_toArray]); (try simp only [List.set_cons_succ]); (try simp only [List.set_cons_zero]))
        refine wpAnyH_take (i := 5) (v := ?_) rfl (by kernel_rfl) (by kernel_rfl) (by kernel_rfl) (fun _ _ _ h => h) (Or.inl ⟨by kernel_rfl, ?_⟩) (by assumption) ?_
        rotate_left
        · (intro w hSw; (try dsimp only at hSw); go_simp <;> with_reducible rfl)
        try (simp only [Act.put]; (try simp only [List.setIfInBounds_toArray]); (try simp only [List.set_cons_succ]); (try simp only [List.set_cons_zero]))
        refine wpAnyH_take (i := 6) (v := ?_) rfl (by kernel_rfl) (by kernel_rfl) (by kernel_rfl) (fun _ _ _ h => h) (Or.inl ⟨by kernel_rfl, ?_⟩) (by assumption) ?_
        rotate_left
        · (intro w hSw; (try dsimp only at hSw); go_simp <;> with_reducible rfl)
        try (simp only [Act.put]; (try simp only [List.setIfInBounds_toArray]); (try simp only [List.set_cons_succ]); (try simp only [List.set_cons_zero]))
        refine wpAnyH_take (i := 7) (v := ?_) rfl (by kernel_rfl) (by kernel_rfl) (by kernel_rfl) (fun _ _ _ h => h) (Or.inl ⟨by kernel_rfl, ?_⟩) (by assumption) ?_
        rotate_left
        · (intro w hSw; (try dsimp only at hSw); go_simp <;> with_reducible rfl)
        try (simp only [Act.put]; (try simp only [List.setIfInBounds_toArray]); (try simp only [List.set_cons_succ]); (try simp only [List.set_cons_zero]))
        refine wpAnyH_ready (rs := [8]) (by kernel_rfl) (by simp) ?_
        refine AllReadyH.cons rfl (fun K hK => ?_) AllReadyH.nil
        go_simp
        (go_at_call 81; (with_reducible refine (caret_g 7 3 a b c p _ HGG c7 HK7).mono ?_); rintro e wd ⟨rfl, hb8⟩; have HB8 := Lib.hid (Below.up HB2.out (Below.up (by (repeat (first | exact Below.refl _ _ | apply Below.drew | (apply below_alloc_on (Nat.le_refl _))))) hb8)))
        refine hK.out _ _ ?_ (fun hHeld => ?_)
        · ((try dsimp only); all_goals (refine ⟨?_, ?_, ?_, ?_, ?_, ?_, ?_, ?_, ?_, ?_, ?_, ?_, ?_, ?_, ?_, ?_⟩ <;> (repeat (first | with_reducible assumption | with_reducible apply cell_alloc_some | with_reducible apply cell_drew_some | with_reducible refine cell_below (by with_reducible assumption) ?_ | with_reducible refine cell_set_other (by omega) ?_))))
        clear hK K
        try (simp only [Act.put]; (try simp only [List.setIfInBounds_toArray]); (try simp only [List.set_cons_succ]); (try simp only [List.set_cons_zero]))
        refine wpAnyH_ready (rs := [9]) (by kernel_rfl) (by simp) ?_
        refine AllReadyH.cons rfl (fun K hK => ?_) AllReadyH.nil
        go_simp
        (go_at_call 15; (with_reducible refine (numbers_g x ⟨a, b, c, p, ⟨#[]⟩⟩ _ _ _ _ HG7 HN7).mono ?_); rintro e we ⟨rfl, hb9⟩; have HB9 := Lib.hid (Below.up HB8.out (Below.up (by (repeat (first | exact Below.refl _ _ | apply Below.drew | (apply below_alloc_on (Nat.le_refl _))))) hb9)))
        refine hK.out _ _ ?_ (fun hHeld => ?_)
        · ((try dsimp only); all_goals (refine ⟨?_, ?_, ?_, ?_, ?_, ?_, ?_, ?_, ?_, ?_, ?_, ?_, ?_, ?_, ?_, ?_⟩ <;> (repeat (first | with_reducible assumption | with_reducible apply cell_alloc_some | with_reducible apply cell_drew_some | with_reducible refine cell_below (by with_reducible assumption) ?_ | with_reducible refine cell_set_other (by omega) ?_))))
        clear hK K
        try (simp only [Act.put]; (try simp only [List.setIfInBounds_toArray]); (try simp only [List.set_cons_succ]); (try simp only [List.set_cons_zero]))
        refine wpAnyH_ready (rs := [10]) (by kernel_rfl) (by simp) ?_
        refine AllReadyH.cons rfl (fun K hK => ?_) AllReadyH.nil
        go_simp
        refine hK.out _ _ ?_ (fun hHeld => ?_)
        · ((try dsimp only); all_goals (refine ⟨?_, ?_, ?_, ?_, ?_, ?_, ?_, ?_, ?_, ?_, ?_, ?_, ?_, ?_, ?_, ?_⟩ <;> (repeat (first | with_reducible assumption | with_reducible apply cell_alloc_some | with_reducible apply cell_drew_some | with_reducible refine cell_below (by with_reducible assumption) ?_ | with_reducible refine cell_set_other (by omega) ?_))))
        clear hK K
        try (simp only [Act.put]; (try simp only [List.setIfInBounds_toArray]); (try simp only [List.set_cons_succ]); (try simp only [List.set_cons_zero]))
        refine wpAnyH_ready (rs := [11]) (by kernel_rfl) (by simp) ?_
        refine AllReadyH.cons rfl (fun K hK => ?_) AllReadyH.nil
        go_simp
        refine hK.out _ _ ?_ (fun hHeld => ?_)
        · ((try dsimp only); all_goals (refine ⟨?_, ?_, ?_, ?_, ?_, ?_, ?_, ?_, ?_, ?_, ?_, ?_, ?_, ?_, ?_, ?_⟩ <;> (repeat (first | with_reducible assumption | with_reducible apply cell_alloc_some | with_reducible apply cell_drew_some | with_reducible refine cell_below (by with_reducible assumption) ?_ | with_reducible refine cell_set_other (by omega) ?_))))
        clear hK K
        try (simp only [Act.put]; (try simp only [List.setIfInBounds_toArray]); (try simp only [List.set_cons_succ]); (try simp only [List.set_cons_zero]))
        refine wpAnyH_ready (rs := [12]) (by kernel_rfl) (by simp) ?_
        refine AllReadyH.cons rfl (fun K hK => ?_) AllReadyH.nil
        go_simp
        refine hK.out _ _ ?_ (fun hHeld => ?_)
        · ((try dsimp only); all_goals (refine ⟨?_, ?_, ?_, ?_, ?_, ?_, ?_, ?_, ?_, ?_, ?_, ?_, ?_, ?_, ?_, ?_⟩ <;> (repeat (first | with_reducible assumption | with_reducible apply cell_alloc_some | with_reducible apply cell_drew_some | with_reducible refine cell_below (by with_reducible assumption) ?_ | with_reducible refine cell_set_other (by omega) ?_))))
        clear hK K
        try (simp only [Act.put]; (try simp only [List.setIfInBounds_toArray]); (try simp only [List.set_cons_succ]); (try simp only [List.set_cons_zero]))
        refine wpAnyH_done (by kernel_rfl) ?_ _
        go_wp2
        go_ret
        exact ⟨ret_bool (by rw [← HR.out]; rcases H7R.out with k | k | k <;> simp [CompR, k]), Below.up HB9.out (by (repeat (first | exact Below.refl _ _ | apply Below.drew | (apply below_alloc_on (Nat.le_refl _)))))⟩
      · go_upto_region 20 with fail
        refine wp_region_held_drew (S := (fun w' => w'.cell? ⟨w.heap.size + 1, 0, none⟩ = some (.int .u64 x.a) ∧ w'.cell? ⟨w.heap.size + 1, 1, none⟩ = some (.int .u64 x.b) ∧ w'.cell? ⟨w.heap.size + 1, 2, none⟩ = some (.int .u64 x.c) ∧ w'.cell? ⟨w.heap.size + 1, 3, none⟩ = some (.string x.p) ∧ w'.cell? ⟨w.heap.size + 1, 4, none⟩ = some (.string x.m) ∧ w'.cell? ⟨M, 0, none⟩ = some (.int .u64 a) ∧ w'.cell? ⟨M, 1, none⟩ = some (.int .u64 b) ∧ w'.cell? ⟨M, 2, none⟩ = some (.int .u64 c) ∧ w'.cell? ⟨M, 3, none⟩ = some (.string p) ∧ w'.cell? ⟨M, 4, none⟩ = some (.string ⟨#[]⟩) ∧ w'.cell? ⟨w.heap.size, 0, none⟩ = some (.int .i64 7) ∧ w'.cell? ⟨w.heap.size, 1, none⟩ = some (.int .i64 3) ∧ w'.cell? ⟨w.heap.size, 2, none⟩ = some (.int .u64 a) ∧ w'.cell? ⟨w.heap.size, 3, none⟩ = some (.int .u64 b) ∧ w'.cell? ⟨w.heap.size, 4, none⟩ = some (.int .u64 c) ∧ w'.cell? ⟨w.heap.size, 5, none⟩ = some (.string p))) (by kernel_rfl) ?_ (fun hHeld => ?_)
        · ((try dsimp only); all_goals (refine ⟨?_, ?_, ?_, ?_, ?_, ?_, ?_, ?_, ?_, ?_, ?_, ?_, ?_, ?_, ?_, ?_⟩ <;> (repeat (first | with_reducible assumption | with_reducible apply cell_alloc_some | with_reducible apply cell_drew_some | with_reducible refine cell_below (by with_reducible assumption) ?_ | with_reducible refine cell_set_other (by omega) ?_))))
        refine wpAnyH_take (i := 0) (v := ?_) rfl (by kernel_rfl) (by kernel_rfl) (by kernel_rfl) (fun _ _ _ h => h) (Or.inl ⟨by kernel_rfl, ?_⟩) (by assumption) ?_
        rotate_left
        · (intro w hSw; (try dsimp only at hSw); go_simp <;> with_reducible rfl)
        try (simp only [Act.put]; (try simp only [List.setIfInBounds_toArray]); (try simp only [List.set_cons_succ]); (try simp only [List.set_cons_zero]))
        refine wpAnyH_take (i := 1) (v := ?_) rfl (by kernel_rfl) (by kernel_rfl) (by kernel_rfl) (fun _ _ _ h => h) (Or.inl ⟨by kernel_rfl, ?_⟩) (by assumption) ?_
        rotate_left
        · (intro w hSw; (try dsimp only at hSw); go_simp <;> with_reducible rfl)
        try (simp only [Act.put]; (try simp only [List.setIfInBounds_toArray]); (try simp only [List.set_cons_succ]); (try simp only [List.set_cons_zero]))
        refine wpAnyH_ready (rs := [2]) (by kernel_rfl) (by simp) ?_
        refine AllReadyH.cons rfl (fun K hK => ?_) AllReadyH.nil
        go_simp
        (go_at_call 12; (with_reducible refine (specCompare_is' x ⟨a, b, c, p, ⟨#[]⟩⟩ _ _ zx zt HQ).mono ?_); rintro e wb ⟨rfl, hb⟩; have HB2 := Lib.hid (Below.up (w := w) (Below.up I.out.bel (by (repeat (first | exact Below.refl _ _ | apply Below.drew | (apply below_alloc_on (Nat.le_refl _)))))) hb))
        refine hK.out _ _ ?_ (fun hHeld => ?_)
        · ((try dsimp only); all_goals (refine ⟨?_, ?_, ?_, ?_, ?_, ?_, ?_, ?_, ?_, ?_, ?_, ?_, ?_, ?_, ?_, ?_⟩ <;> (repeat (first | with_reducible assumption | with_reducible apply cell_alloc_some | with_reducible apply cell_drew_some | with_reducible refine cell_below (by with_reducible assumption) ?_ | with_reducible refine cell_set_other (by omega) ?_))))
        clear hK K
        try (simp only [Act.put]; (try simp only [List.setIfInBounds_toArray]); (try simp only [List.set_cons_succ]); (try simp only [List.set_cons_zero]))
        refine wpAnyH_ready (rs := [3]) (by kernel_rfl) (by simp) ?_
        refine AllReadyH.cons rfl (fun K hK => ?_) AllReadyH.nil
        go_simp
        refine hK.out _ _ ?_ (fun hHeld => ?_)
        · ((try dsimp only); all_goals (refine ⟨?_, ?_, ?_, ?_, ?_, ?_, ?_, ?_, ?_, ?_, ?_, ?_, ?_, ?_, ?_, ?_⟩ <;> (repeat (first | with_reducible assumption | with_reducible apply cell_alloc_some | with_reducible apply cell_drew_some | with_reducible refine cell_below (by with_reducible assumption) ?_ | with_reducible refine cell_set_other (by omega) ?_))))
        clear hK K
        try (simp only [Act.put]; (try simp only [List.setIfInBounds_toArray]); (try simp only [List.set_cons_succ]); (try simp only [List.set_cons_zero]))
        refine wpAnyH_ready (rs := [4]) (by kernel_rfl) (by simp) ?_
        refine AllReadyH.cons rfl (fun K hK => ?_) AllReadyH.nil
        go_simp
        refine hK.out _ _ ?_ (fun hHeld => ?_)
        · ((try dsimp only); all_goals (refine ⟨?_, ?_, ?_, ?_, ?_, ?_, ?_, ?_, ?_, ?_, ?_, ?_, ?_, ?_, ?_, ?_⟩ <;> (repeat (first | with_reducible assumption | with_reducible apply cell_alloc_some | with_reducible apply cell_drew_some | with_reducible refine cell_below (by with_reducible assumption) ?_ | with_reducible refine cell_set_other (by omega) ?_))))
        clear hK K
        try (simp only [Act.put]; (try simp only [List.setIfInBounds_toArray]); (try simp only [List.set_cons_succ]); (try simp only [List.set_cons_zero]))
        refine wpAnyH_take (i := 5) (v := ?_) rfl (by kernel_rfl) (by kernel_rfl) (by kernel_rfl) (fun _ _ _ h => h) (Or.inl ⟨by kernel_rfl, ?_⟩) (by assumption) ?_
        rotate_left
        · (intro w hSw; (try dsimp only at hSw); go_simp <;> with_reducible rfl)
        try (simp only [Act.put]; (try simp only [List.setIfInBounds_toArray]); (try simp only [List.set_cons_succ]); (try simp only [List.set_cons_zero]))
        refine wpAnyH_take (i := 6) (v := ?_) rfl (by kernel_rfl) (by kernel_rfl) (by kernel_rfl) (fun _ _ _ h => h) (Or.inl ⟨by kernel_rfl, ?_⟩) (by assumption) ?_
        rotate_left
        · (intro w hSw; (try dsimp only at hSw); go_simp <;> with_reducible rfl)
        try (simp only [Act.put]; (try simp only [List.setIfInBounds_toArray]); (try simp only [List.set_cons_succ]); (try simp only [List.set_cons_zero]))
        refine wpAnyH_take (i := 7) (v := ?_) rfl (by kernel_rfl) (by kernel_rfl) (by kernel_rfl) (fun _ _ _ h => h) (Or.inl ⟨by kernel_rfl, ?_⟩) (by assumption) ?_
        rotate_left
        · (intro w hSw; (try dsimp only at hSw); go_simp <;> with_reducible rfl)
        try (simp only [Act.put]; (try simp only [List.setIfInBounds_toArray]); (try simp only [List.set_cons_succ]); (try simp only [List.set_cons_zero]))
        refine wpAnyH_ready (rs := [8]) (by kernel_rfl) (by simp) ?_
        refine AllReadyH.cons rfl (fun K hK => ?_) AllReadyH.nil
        go_simp
        (go_at_call 81; (with_reducible refine (caret_g 7 3 a b c p _ HGG c7 HK7).mono ?_); rintro e wd ⟨rfl, hb8⟩; have HB8 := Lib.hid (Below.up HB2.out (Below.up (by (repeat (first | exact Below.refl _ _ | apply Below.drew | (apply below_alloc_on (Nat.le_refl _))))) hb8)))
        refine hK.out _ _ ?_ (fun hHeld => ?_)
        · ((try dsimp only); all_goals (refine ⟨?_, ?_, ?_, ?_, ?_, ?_, ?_, ?_, ?_, ?_, ?_, ?_, ?_, ?_, ?_, ?_⟩ <;> (repeat (first | with_reducible assumption | with_reducible apply cell_alloc_some | with_reducible apply cell_drew_some | with_reducible refine cell_below (by with_reducible assumption) ?_ | with_reducible refine cell_set_other (by omega) ?_))))
        clear hK K
        try (simp only [Act.put]; (try simp only [List.setIfInBounds_toArray]); (try simp only [List.set_cons_succ]); (try simp only [List.set_cons_zero]))
        refine wpAnyH_ready (rs := [9]) (by kernel_rfl) (by simp) ?_
        refine AllReadyH.cons rfl (fun K hK => ?_) AllReadyH.nil
        go_simp
        (go_at_call 15; (with_reducible refine (numbers_g x ⟨a, b, c, p, ⟨#[]⟩⟩ _ _ _ _ HG7 HN7).mono ?_); rintro e we ⟨rfl, hb9⟩; have HB9 := Lib.hid (Below.up HB8.out (Below.up (by (repeat (first | exact Below.refl _ _ | apply Below.drew | (apply below_alloc_on (Nat.le_refl _))))) hb9)))
        refine hK.out _ _ ?_ (fun hHeld => ?_)
        · ((try dsimp only); all_goals (refine ⟨?_, ?_, ?_, ?_, ?_, ?_, ?_, ?_, ?_, ?_, ?_, ?_, ?_, ?_, ?_, ?_⟩ <;> (repeat (first | with_reducible assumption | with_reducible apply cell_alloc_some | with_reducible apply cell_drew_some | with_reducible refine cell_below (by with_reducible assumption) ?_ | with_reducible refine cell_set_other (by omega) ?_))))
        clear hK K
        try (simp only [Act.put]; (try simp only [List.setIfInBounds_toArray]); (try simp only [List.set_cons_succ]); (try simp only [List.set_cons_zero]))
        refine wpAnyH_ready (rs := [10]) (by kernel_rfl) (by simp) ?_
        refine AllReadyH.cons rfl (fun K hK => ?_) AllReadyH.nil
        go_simp
        refine hK.out _ _ ?_ (fun hHeld => ?_)
        · ((try dsimp only); all_goals (refine ⟨?_, ?_, ?_, ?_, ?_, ?_, ?_, ?_, ?_, ?_, ?_, ?_, ?_, ?_, ?_, ?_⟩ <;> (repeat (first | with_reducible assumption | with_reducible apply cell_alloc_some | with_reducible apply cell_drew_some | with_reducible refine cell_below (by with_reducible assumption) ?_ | with_reducible refine cell_set_other (by omega) ?_))))
        clear hK K
        try (simp only [Act.put]; (try simp only [List.setIfInBounds_toArray]); (try simp only [List.set_cons_succ]); (try simp only [List.set_cons_zero]))
        refine wpAnyH_ready (rs := [11]) (by kernel_rfl) (by simp) ?_
        refine AllReadyH.cons rfl (fun K hK => ?_) AllReadyH.nil
        go_simp
        refine hK.out _ _ ?_ (fun hHeld => ?_)
        · ((try dsimp only); all_goals (refine ⟨?_, ?_, ?_, ?_, ?_, ?_, ?_, ?_, ?_, ?_, ?_, ?_, ?_, ?_, ?_, ?_⟩ <;> (repeat (first | with_reducible assumption | with_reducible apply cell_alloc_some | with_reducible apply cell_drew_some | with_reducible refine cell_below (by with_reducible assumption) ?_ | with_reducible refine cell_set_other (by omega) ?_))))
        clear hK K
        try (simp only [Act.put]; (try simp only [List.setIfInBounds_toArray]); (try simp only [List.set_cons_succ]); (try simp only [List.set_cons_zero]))
        refine wpAnyH_ready (rs := [12]) (by kernel_rfl) (by simp) ?_
        refine AllReadyH.cons rfl (fun K hK => ?_) AllReadyH.nil
        go_simp
        refine hK.out _ _ ?_ (fun hHeld => ?_)
        · ((try dsimp only); all_goals (refine ⟨?_, ?_, ?_, ?_, ?_, ?_, ?_, ?_, ?_, ?_, ?_, ?_, ?_, ?_, ?_, ?_⟩ <;> (repeat (first | with_reducible assumption | with_reducible apply cell_alloc_some | with_reducible apply cell_drew_some | with_reducible refine cell_below (by with_reducible assumption) ?_ | with_reducible refine cell_set_other (by omega) ?_))))
        clear hK K
        try (simp only [Act.put]; (try simp only [List.setIfInBounds_toArray]); (try simp only [List.set_cons_succ]); (try simp only [List.set_cons_zero]))
        refine wpAnyH_done (by kernel_rfl) ?_ _
        go_wp2
        go_ret
        exact ⟨ret_bool (by rw [← HR.out]; rcases H7R.out with k | k | k <;> simp [CompR, k]), Below.up HB9.out (by (repeat (first | exact Below.refl _ _ | apply Below.drew | (apply below_alloc_on (Nat.le_refl _)))))⟩
  · obtain rfl : u = n := by rw [hug]; simp [hg3]
    clear hug
    obtain rfl | rfl | rfl | rfl | rfl | rfl | rfl | rfl : op = 0 ∨ op = 1 ∨ op = 2 ∨ op = 3 ∨ op = 4 ∨ op = 5 ∨ op = 6 ∨ op = 7 := by have := HO.out; omega
    · rcases HNR.out with rfl | rfl | rfl <;> rcases HQR.out with rfl | rfl | rfl
      all_goals
        go_wp2_with (go_at_call 12; (with_reducible refine (specCompare_is' x ⟨a, b, c, p, ⟨#[]⟩⟩ _ _ zx zt HQ).mono ?_); rintro e w2 ⟨rfl, hb⟩; clear x0 x1 x2 x3 x4 l0 l1 l2 l3 l4 t0 t1 t2 t3 t4 t5; replace I := Lib.hid (I.out.below hb); clear hb; obtain ⟨x0, x1, x2, x3, x4⟩ := I.out.atx.cells; obtain ⟨l0, l1, l2, l3, l4⟩ := I.out.atl.cells; obtain ⟨t0, t1, t2, t3, t4, t5⟩ := I.out.att.cells)
        go_ret
        exact ⟨ret_bool (by rw [← HR.out]; simp [CompR, hg3]), I.out.bel⟩
    · rcases HNR.out with rfl | rfl | rfl
      all_goals
        go_wp2_with (go_at_call 12; (with_reducible refine (specCompare_is' x ⟨a, b, c, p, ⟨#[]⟩⟩ _ _ zx zt HQ).mono ?_); rintro e w2 ⟨rfl, hb⟩; clear x0 x1 x2 x3 x4 l0 l1 l2 l3 l4 t0 t1 t2 t3 t4 t5; replace I := Lib.hid (I.out.below hb); clear hb; obtain ⟨x0, x1, x2, x3, x4⟩ := I.out.atx.cells; obtain ⟨l0, l1, l2, l3, l4⟩ := I.out.atl.cells; obtain ⟨t0, t1, t2, t3, t4, t5⟩ := I.out.att.cells)
        go_ret
        exact ⟨ret_bool (by rw [← HR.out]; simp [CompR, hg3]), I.out.bel⟩
    · rcases HNR.out with rfl | rfl | rfl
      all_goals
        go_wp2_with (go_at_call 12; (with_reducible refine (specCompare_is' x ⟨a, b, c, p, ⟨#[]⟩⟩ _ _ zx zt HQ).mono ?_); rintro e w2 ⟨rfl, hb⟩; clear x0 x1 x2 x3 x4 l0 l1 l2 l3 l4 t0 t1 t2 t3 t4 t5; replace I := Lib.hid (I.out.below hb); clear hb; obtain ⟨x0, x1, x2, x3, x4⟩ := I.out.atx.cells; obtain ⟨l0, l1, l2, l3, l4⟩ := I.out.atl.cells; obtain ⟨t0, t1, t2, t3, t4, t5⟩ := I.out.att.cells)
        go_ret
        exact ⟨ret_bool (by rw [← HR.out]; simp [CompR, hg3]), I.out.bel⟩
    · rcases HQR.out with rfl | rfl | rfl
      all_goals
        go_wp2_with (go_at_call 12; (with_reducible refine (specCompare_is' x ⟨a, b, c, p, ⟨#[]⟩⟩ _ _ zx zt HQ).mono ?_); rintro e w2 ⟨rfl, hb⟩; clear x0 x1 x2 x3 x4 l0 l1 l2 l3 l4 t0 t1 t2 t3 t4 t5; replace I := Lib.hid (I.out.below hb); clear hb; obtain ⟨x0, x1, x2, x3, x4⟩ := I.out.atx.cells; obtain ⟨l0, l1, l2, l3, l4⟩ := I.out.atl.cells; obtain ⟨t0, t1, t2, t3, t4, t5⟩ := I.out.att.cells)
        go_ret
        exact ⟨ret_bool (by rw [← HR.out]; simp [CompR, hg3]), I.out.bel⟩
    · rcases HQR.out with rfl | rfl | rfl
      all_goals
        go_wp2_with (go_at_call 12; (with_reducible refine (specCompare_is' x ⟨a, b, c, p, ⟨#[]⟩⟩ _ _ zx zt HQ).mono ?_); rintro e w2 ⟨rfl, hb⟩; clear x0 x1 x2 x3 x4 l0 l1 l2 l3 l4 t0 t1 t2 t3 t4 t5; replace I := Lib.hid (I.out.below hb); clear hb; obtain ⟨x0, x1, x2, x3, x4⟩ := I.out.atx.cells; obtain ⟨l0, l1, l2, l3, l4⟩ := I.out.atl.cells; obtain ⟨t0, t1, t2, t3, t4, t5⟩ := I.out.att.cells)
        go_ret
        exact ⟨ret_bool (by rw [← HR.out]; simp [CompR, hg3]), I.out.bel⟩
    · rcases HNR.out with rfl | rfl | rfl
      all_goals
        go_wp2_with (go_at_call 12; (with_reducible refine (specCompare_is' x ⟨a, b, c, p, ⟨#[]⟩⟩ _ _ zx zt HQ).mono ?_); rintro e w2 ⟨rfl, hb⟩; clear x0 x1 x2 x3 x4 l0 l1 l2 l3 l4 t0 t1 t2 t3 t4 t5; replace I := Lib.hid (I.out.below hb); clear hb; obtain ⟨x0, x1, x2, x3, x4⟩ := I.out.atx.cells; obtain ⟨l0, l1, l2, l3, l4⟩ := I.out.atl.cells; obtain ⟨t0, t1, t2, t3, t4, t5⟩ := I.out.att.cells)
        go_ret
        exact ⟨ret_bool (by rw [← HR.out]; simp [CompR, hg3]), I.out.bel⟩
    · rcases HQR.out with rfl | rfl | rfl
      · go_upto_region 19 with fail
        refine wp_region_held_drew (S := (fun w' => w'.cell? ⟨w.heap.size + 1, 0, none⟩ = some (.int .u64 x.a) ∧ w'.cell? ⟨w.heap.size + 1, 1, none⟩ = some (.int .u64 x.b) ∧ w'.cell? ⟨w.heap.size + 1, 2, none⟩ = some (.int .u64 x.c) ∧ w'.cell? ⟨w.heap.size + 1, 3, none⟩ = some (.string x.p) ∧ w'.cell? ⟨w.heap.size + 1, 4, none⟩ = some (.string x.m) ∧ w'.cell? ⟨M, 0, none⟩ = some (.int .u64 a) ∧ w'.cell? ⟨M, 1, none⟩ = some (.int .u64 b) ∧ w'.cell? ⟨M, 2, none⟩ = some (.int .u64 c) ∧ w'.cell? ⟨M, 3, none⟩ = some (.string p) ∧ w'.cell? ⟨M, 4, none⟩ = some (.string ⟨#[]⟩) ∧ w'.cell? ⟨w.heap.size, 0, none⟩ = some (.int .i64 6) ∧ w'.cell? ⟨w.heap.size, 1, none⟩ = some (.int .i64 g) ∧ w'.cell? ⟨w.heap.size, 2, none⟩ = some (.int .u64 a) ∧ w'.cell? ⟨w.heap.size, 3, none⟩ = some (.int .u64 b) ∧ w'.cell? ⟨w.heap.size, 4, none⟩ = some (.int .u64 c) ∧ w'.cell? ⟨w.heap.size, 5, none⟩ = some (.string p))) (by kernel_rfl) ?_ (fun hHeld => ?_)
        · ((try dsimp only); all_goals (refine ⟨?_, ?_, ?_, ?_, ?_, ?_, ?_, ?_, ?_, ?_, ?_, ?_, ?_, ?_, ?_, ?_⟩ <;> (repeat (first | with_reducible assumption | with_reducible apply cell_alloc_some | with_reducible apply cell_drew_some | with_reducible refine cell_below (by with_reducible assumption) ?_ | with_reducible refine cell_set_other (by omega) ?_))))
        refine wpAnyH_take (i := 0) (v := ?_) rfl (by kernel_rfl) (by kernel_rfl) (by kernel_rfl) (fun _ _ _ h => h) (Or.inl ⟨by kernel_rfl, ?_⟩) (by assumption) ?_
        rotate_left
        · (intro w hSw; (try dsimp only at hSw); go_simp <;> with_reducible rfl)
        try (simp only [Act.put]; (try simp only [List.setIfInBounds_toArray]); (try simp only [List.set_cons_succ]); (try simp only [List.set_cons_zero]))
        refine wpAnyH_take (i := 1) (v := ?_) rfl (by kernel_rfl) (by kernel_rfl) (by kernel_rfl) (fun _ _ _ h => h) (Or.inl ⟨by kernel_rfl, ?_⟩) (by assumption) ?_
        rotate_left
        · (intro w hSw; (try dsimp only at hSw); go_simp <;> with_reducible rfl)
        try (simp only [Act.put]; (try simp only [List.setIfInBounds_toArray]); (try simp only [List.set_cons_succ]); (try simp only [List.set_cons_zero]))
        refine wpAnyH_ready (rs := [2]) (by kernel_rfl) (by simp) ?_
        refine AllReadyH.cons rfl (fun K hK => ?_) AllReadyH.nil
        go_simp
        (go_at_call 12; (with_reducible refine (specCompare_is' x ⟨a, b, c, p, ⟨#[]⟩⟩ _ _ zx zt HQ).mono ?_); rintro e wb ⟨rfl, hb⟩; have HB2 := Lib.hid (Below.up (w := w) (Below.up I.out.bel (by (repeat (first | exact Below.refl _ _ | apply Below.drew | (apply below_alloc_on (Nat.le_refl _)))))) hb))
        refine hK.out _ _ ?_ (fun hHeld => ?_)
        · ((try dsimp only); all_goals (refine ⟨?_, ?_, ?_, ?_, ?_, ?_, ?_, ?_, ?_, ?_, ?_, ?_, ?_, ?_, ?_, ?_⟩ <;> (repeat (first | with_reducible assumption | with_reducible apply cell_alloc_some | with_reducible apply cell_drew_some | with_reducible refine cell_below (by with_reducible assumption) ?_ | with_reducible refine cell_set_other (by omega) ?_))))
        clear hK K
        try (simp only [Act.put]; (try simp only [List.setIfInBounds_toArray]); (try simp only [List.set_cons_succ]); (try simp only [List.set_cons_zero]))
        refine wpAnyH_ready (rs := [3]) (by kernel_rfl) (by simp) ?_
        refine AllReadyH.cons rfl (fun K hK => ?_) AllReadyH.nil
        go_simp
        refine hK.out _ _ ?_ (fun hHeld => ?_)
        · ((try dsimp only); all_goals (refine ⟨?_, ?_, ?_, ?_, ?_, ?_, ?_, ?_, ?_, ?_, ?_, ?_, ?_, ?_, ?_, ?_⟩ <;> (repeat (first | with_reducible assumption | with_reducible apply cell_alloc_some | with_reducible apply cell_drew_some | with_reducible refine cell_below (by with_reducible assumption) ?_ | with_reducible refine cell_set_other (by omega) ?_))))
        clear hK K
        try (simp only [Act.put]; (try simp only [List.setIfInBounds_toArray]); (try simp only [List.set_cons_succ]); (try simp only [List.set_cons_zero]))
        refine wpAnyH_ready (rs := [4]) (by kernel_rfl) (by simp) ?_
        refine AllReadyH.cons rfl (fun K hK => ?_) AllReadyH.nil
        go_simp
        refine hK.out _ _ ?_ (fun hHeld => ?_)
        · ((try dsimp only); all_goals (refine ⟨?_, ?_, ?_, ?_, ?_, ?_, ?_, ?_, ?_, ?_, ?_, ?_, ?_, ?_, ?_, ?_⟩ <;> (repeat (first | with_reducible assumption | with_reducible apply cell_alloc_some | with_reducible apply cell_drew_some | with_reducible refine cell_below (by with_reducible assumption) ?_ | with_reducible refine cell_set_other (by omega) ?_))))
        clear hK K
        try (simp only [Act.put]; (try simp only [List.setIfInBounds_toArray]); (try simp only [List.set_cons_succ]); (try simp only [List.set_cons_zero]))
        refine wpAnyH_take (i := 5) (v := undef) rfl (by kernel_rfl) (by kernel_rfl) (by kernel_rfl) (fun _ _ _ h => h) (Or.inr ⟨by kernel_rfl, Eq.refl undef⟩) (by assumption) ?_
        try (simp only [Act.put]; (try simp only [List.setIfInBounds_toArray]); (try simp only [List.set_cons_succ]); (try simp only [List.set_cons_zero]))
        refine wpAnyH_take (i := 6) (v := undef) rfl (by kernel_rfl) (by kernel_rfl) (by kernel_rfl) (fun _ _ _ h => h) (Or.inr ⟨by kernel_rfl, Eq.refl undef⟩) (by assumption) ?_
        try (simp only [Act.put]; (try simp only [List.setIfInBounds_toArray]); (try simp only [List.set_cons_succ]); (try simp only [List.set_cons_zero]))
        refine wpAnyH_take (i := 7) (v := undef) rfl (by kernel_rfl) (by kernel_rfl) (by kernel_rfl) (fun _ _ _ h => h) (Or.inr ⟨by kernel_rfl, Eq.refl undef⟩) (by assumption) ?_
        try (simp only [Act.put]; (try simp only [List.setIfInBounds_toArray]); (try simp only [List.set_cons_succ]); (try simp only [List.set_cons_zero]))
        refine wpAnyH_take (i := 8) (v := undef) rfl (by kernel_rfl) (by kernel_rfl) (by kernel_rfl) (fun _ _ _ h => h) (Or.inr ⟨by kernel_rfl, Eq.refl undef⟩) (by assumption) ?_
        try (simp only [Act.put]; (try simp only [List.setIfInBounds_toArray]); (try simp only [List.set_cons_succ]); (try simp only [List.set_cons_zero]))
        refine wpAnyH_take (i := 9) (v := undef) rfl (by kernel_rfl) (by kernel_rfl) (by kernel_rfl) (fun _ _ _ h => h) (Or.inr ⟨by kernel_rfl, Eq.refl undef⟩) (by assumption) ?_
        try (simp only [Act.put]; (try simp only [List.setIfInBounds_toArray]); (try simp only [List.set_cons_succ]); (try simp only [List.set_cons_zero]))
        refine wpAnyH_take (i := 10) (v := undef) rfl (by kernel_rfl) (by kernel_rfl) (by kernel_rfl) (fun _ _ _ h => h) (Or.inr ⟨by kernel_rfl, Eq.refl undef⟩) (by assumption) ?_
        try (simp only [Act.put]; (try simp only [List.setIfInBounds_toArray]); (try simp only [List.set_cons_succ]); (try simp only [List.set_cons_zero]))
        refine wpAnyH_ready (rs := [11]) (by kernel_rfl) (by simp) ?_
        refine AllReadyH.cons rfl (fun K hK => ?_) AllReadyH.nil
        go_simp
        refine hK.out _ _ ?_ (fun hHeld => ?_)
        · ((try dsimp only); all_goals (refine ⟨?_, ?_, ?_, ?_, ?_, ?_, ?_, ?_, ?_, ?_, ?_, ?_, ?_, ?_, ?_, ?_⟩ <;> (repeat (first | with_reducible assumption | with_reducible apply cell_alloc_some | with_reducible apply cell_drew_some | with_reducible refine cell_below (by with_reducible assumption) ?_ | with_reducible refine cell_set_other (by omega) ?_))))
        clear hK K
        try (simp only [Act.put]; (try simp only [List.setIfInBounds_toArray]); (try simp only [List.set_cons_succ]); (try simp only [List.set_cons_zero]))
        refine wpAnyH_ready (rs := [12]) (by kernel_rfl) (by simp) ?_
        refine AllReadyH.cons rfl (fun K hK => ?_) AllReadyH.nil
        go_simp
        refine hK.out _ _ ?_ (fun hHeld => ?_)
        · ((try dsimp only); all_goals (refine ⟨?_, ?_, ?_, ?_, ?_, ?_, ?_, ?_, ?_, ?_, ?_, ?_, ?_, ?_, ?_, ?_⟩ <;> (repeat (first | with_reducible assumption | with_reducible apply cell_alloc_some | with_reducible apply cell_drew_some | with_reducible refine cell_below (by with_reducible assumption) ?_ | with_reducible refine cell_set_other (by omega) ?_))))
        clear hK K
        try (simp only [Act.put]; (try simp only [List.setIfInBounds_toArray]); (try simp only [List.set_cons_succ]); (try simp only [List.set_cons_zero]))
        refine wpAnyH_done (by kernel_rfl) ?_ _
        go_wp2
        go_ret
        exact ⟨ret_bool (by rw [← HR.out]; simp [CompR, hg3]), Below.up HB2.out (by (repeat (first | exact Below.refl _ _ | apply Below.drew | (apply below_alloc_on (Nat.le_refl _)))))⟩
      · go_upto_region 19 with fail
        refine wp_region_held_drew (S := (fun w' => w'.cell? ⟨w.heap.size + 1, 0, none⟩ = some (.int .u64 x.a) ∧ w'.cell? ⟨w.heap.size + 1, 1, none⟩ = some (.int .u64 x.b) ∧ w'.cell? ⟨w.heap.size + 1, 2, none⟩ = some (.int .u64 x.c) ∧ w'.cell? ⟨w.heap.size + 1, 3, none⟩ = some (.string x.p) ∧ w'.cell? ⟨w.heap.size + 1, 4, none⟩ = some (.string x.m) ∧ w'.cell? ⟨M, 0, none⟩ = some (.int .u64 a) ∧ w'.cell? ⟨M, 1, none⟩ = some (.int .u64 b) ∧ w'.cell? ⟨M, 2, none⟩ = some (.int .u64 c) ∧ w'.cell? ⟨M, 3, none⟩ = some (.string p) ∧ w'.cell? ⟨M, 4, none⟩ = some (.string ⟨#[]⟩) ∧ w'.cell? ⟨w.heap.size, 0, none⟩ = some (.int .i64 6) ∧ w'.cell? ⟨w.heap.size, 1, none⟩ = some (.int .i64 g) ∧ w'.cell? ⟨w.heap.size, 2, none⟩ = some (.int .u64 a) ∧ w'.cell? ⟨w.heap.size, 3, none⟩ = some (.int .u64 b) ∧ w'.cell? ⟨w.heap.size, 4, none⟩ = some (.int .u64 c) ∧ w'.cell? ⟨w.heap.size, 5, none⟩ = some (.string p))) (by kernel_rfl) ?_ (fun hHeld => ?_)
        · ((try dsimp only); all_goals (refine ⟨?_, ?_, ?_, ?_, ?_, ?_, ?_, ?_, ?_, ?_, ?_, ?_, ?_, ?_, ?_, ?_⟩ <;> (repeat (first | with_reducible assumption | with_reducible apply cell_alloc_some | with_reducible apply cell_drew_some | with_reducible refine cell_below (by with_reducible assumption) ?_ | with_reducible refine cell_set_other (by omega) ?_))))
        refine wpAnyH_take (i := 0) (v := ?_) rfl (by kernel_rfl) (by kernel_rfl) (by kernel_rfl) (fun _ _ _ h => h) (Or.inl ⟨by kernel_rfl, ?_⟩) (by assumption) ?_
        rotate_left
        · (intro w hSw; (try dsimp only at hSw); go_simp <;> with_reducible rfl)
        try (simp only [Act.put]; (try simp only [List.setIfInBounds_toArray]); (try simp only [List.set_cons_succ]); (try simp only [List.set_cons_zero]))
        refine wpAnyH_take (i := 1) (v := ?_) rfl (by kernel_rfl) (by kernel_rfl) (by kernel_rfl) (fun _ _ _ h => h) (Or.inl ⟨by kernel_rfl, ?_⟩) (by assumption) ?_
        rotate_left
        · (intro w hSw; (try dsimp only at hSw); go_simp <;> with_reducible rfl)
        try (simp only [Act.put]; (try simp only [List.setIfInBounds_toArray]); (try simp only [List.set_cons_succ]); (try simp only [List.set_cons_zero]))
        refine wpAnyH_ready (rs := [2]) (by kernel_rfl) (by simp) ?_
        refine AllReadyH.cons rfl (fun K hK => ?_) AllReadyH.nil
        go_simp
        (go_at_call 12; (with_reducible refine (specCompare_is' x ⟨a, b, c, p, ⟨#[]⟩⟩ _ _ zx zt HQ).mono ?_); rintro e wb ⟨rfl, hb⟩; have HB2 := Lib.hid (Below.up (w := w) (Below.up I.out.bel (by (repeat (first | exact Below.refl _ _ | apply Below.drew | (apply below_alloc_on (Nat.le_refl _)))))) hb))
        refine hK.out _ _ ?_ (fun hHeld => ?_)
        · ((try dsimp only); all_goals (refine ⟨?_, ?_, ?_, ?_, ?_, ?_, ?_, ?_, ?_, ?_, ?_, ?_, ?_, ?_, ?_, ?_⟩ <;> (repeat (first | with_reducible assumption | with_reducible apply cell_alloc_some | with_reducible apply cell_drew_some | with_reducible refine cell_below (by with_reducible assumption) ?_ | with_reducible refine cell_set_other (by omega) ?_))))
        clear hK K
        try (simp only [Act.put]; (try simp only [List.setIfInBounds_toArray]); (try simp only [List.set_cons_succ]); (try simp only [List.set_cons_zero]))
        refine wpAnyH_ready (rs := [3]) (by kernel_rfl) (by simp) ?_
        refine AllReadyH.cons rfl (fun K hK => ?_) AllReadyH.nil
        go_simp
        refine hK.out _ _ ?_ (fun hHeld => ?_)
        · ((try dsimp only); all_goals (refine ⟨?_, ?_, ?_, ?_, ?_, ?_, ?_, ?_, ?_, ?_, ?_, ?_, ?_, ?_, ?_, ?_⟩ <;> (repeat (first | with_reducible assumption | with_reducible apply cell_alloc_some | with_reducible apply cell_drew_some | with_reducible refine cell_below (by with_reducible assumption) ?_ | with_reducible refine cell_set_other (by omega) ?_))))
        clear hK K
        try (simp only [Act.put]; (try simp only [List.setIfInBounds_toArray]); (try simp only [List.set_cons_succ]); (try simp only [List.set_cons_zero]))
        refine wpAnyH_ready (rs := [4]) (by kernel_rfl) (by simp) ?_
        refine AllReadyH.cons rfl (fun K hK => ?_) AllReadyH.nil
        go_simp
        refine hK.out _ _ ?_ (fun hHeld => ?_)
        · ((try dsimp only); all_goals (refine ⟨?_, ?_, ?_, ?_, ?_, ?_, ?_, ?_, ?_, ?_, ?_, ?_, ?_, ?_, ?_, ?_⟩ <;> (repeat (first | with_reducible assumption | with_reducible apply cell_alloc_some | with_reducible apply cell_drew_some | with_reducible refine cell_below (by with_reducible assumption) ?_ | with_reducible refine cell_set_other (by omega) ?_))))
        clear hK K
        try (simp only [Act.put]; (try simp only [List.setIfInBounds_toArray]); (try simp only [List.set_cons_succ]); (try simp only [List.set_cons_zero]))
        refine wpAnyH_take (i := 5) (v := ?_) rfl (by kernel_rfl) (by kernel_rfl) (by kernel_rfl) (fun _ _ _ h => h) (Or.inl ⟨by kernel_rfl, ?_⟩) (by assumption) ?_
        rotate_left
        · (intro w hSw; (try dsimp only at hSw); go_simp <;> with_reducible rfl)
        try (simp only [Act.put]; (try simp only [List.setIfInBounds_toArray]); (try simp only [List.set_cons_succ]); (try simp only [List.set_cons_zero]))
        refine wpAnyH_take (i := 6) (v := ?_) rfl (by kernel_rfl) (by kernel_rfl) (by kernel_rfl) (fun _ _ _ h => h) (Or.inl ⟨by kernel_rfl, ?_⟩) (by assumption) ?_
        rotate_left
        · (intro w hSw; (try dsimp only at hSw); go_simp <;> with_reducible rfl)
        try (simp only [Act.put]; (try simp only [List.setIfInBounds_toArray]); (try simp only [List.set_cons_succ]); (try simp only [List.set_cons_zero]))
        refine wpAnyH_take (i := 7) (v := ?_) rfl (by kernel_rfl) (by kernel_rfl) (by kernel_rfl) (fun _ _ _ h => h) (Or.inl ⟨by kernel_rfl, ?_⟩) (by assumption) ?_
        rotate_left
        · (intro w hSw; (try dsimp only at hSw); go_simp <;> with_reducible rfl)
        try (simp only [Act.put]; (try simp only [List.setIfInBounds_toArray]); (try simp only [List.set_cons_succ]); (try simp only [List.set_cons_zero]))
        refine wpAnyH_ready (rs := [8]) (by kernel_rfl) (by simp) ?_
        refine AllReadyH.cons rfl (fun K hK => ?_) AllReadyH.nil
        go_simp
        (go_at_call 80; (with_reducible refine (tilde_g 6 g a b c p _ HGG k6 HK6).mono ?_); rintro e wd ⟨rfl, hb8⟩; have HB8 := Lib.hid (Below.up HB2.out (Below.up (by (repeat (first | exact Below.refl _ _ | apply Below.drew | (apply below_alloc_on (Nat.le_refl _))))) hb8)))
        refine hK.out _ _ ?_ (fun hHeld => ?_)
        · ((try dsimp only); all_goals (refine ⟨?_, ?_, ?_, ?_, ?_, ?_, ?_, ?_, ?_, ?_, ?_, ?_, ?_, ?_, ?_, ?_⟩ <;> (repeat (first | with_reducible assumption | with_reducible apply cell_alloc_some | with_reducible apply cell_drew_some | with_reducible refine cell_below (by with_reducible assumption) ?_ | with_reducible refine cell_set_other (by omega) ?_))))
        clear hK K
        try (simp only [Act.put]; (try simp only [List.setIfInBounds_toArray]); (try simp only [List.set_cons_succ]); (try simp only [List.set_cons_zero]))
        refine wpAnyH_ready (rs := [9]) (by kernel_rfl) (by simp) ?_
        refine AllReadyH.cons rfl (fun K hK => ?_) AllReadyH.nil
        go_simp
        (go_at_call 15; (with_reducible refine (numbers_g x ⟨a, b, c, p, ⟨#[]⟩⟩ _ _ _ _ HG6 HN6).mono ?_); rintro e we ⟨rfl, hb9⟩; have HB9 := Lib.hid (Below.up HB8.out (Below.up (by (repeat (first | exact Below.refl _ _ | apply Below.drew | (apply below_alloc_on (Nat.le_refl _))))) hb9)))
        refine hK.out _ _ ?_ (fun hHeld => ?_)
        · ((try dsimp only); all_goals (refine ⟨?_, ?_, ?_, ?_, ?_, ?_, ?_, ?_, ?_, ?_, ?_, ?_, ?_, ?_, ?_, ?_⟩ <;> (repeat (first | with_reducible assumption | with_reducible apply cell_alloc_some | with_reducible apply cell_drew_some | with_reducible refine cell_below (by with_reducible assumption) ?_ | with_reducible refine cell_set_other (by omega) ?_))))
        clear hK K
        try (simp only [Act.put]; (try simp only [List.setIfInBounds_toArray]); (try simp only [List.set_cons_succ]); (try simp only [List.set_cons_zero]))
        refine wpAnyH_ready (rs := [10]) (by kernel_rfl) (by simp) ?_
        refine AllReadyH.cons rfl (fun K hK => ?_) AllReadyH.nil
        go_simp
        refine hK.out _ _ ?_ (fun hHeld => ?_)
        · ((try dsimp only); all_goals (refine ⟨?_, ?_, ?_, ?_, ?_, ?_, ?_, ?_, ?_, ?_, ?_, ?_, ?_, ?_, ?_, ?_⟩ <;> (repeat (first | with_reducible assumption | with_reducible apply cell_alloc_some | with_reducible apply cell_drew_some | with_reducible refine cell_below (by with_reducible assumption) ?_ | with_reducible refine cell_set_other (by omega) ?_))))
        clear hK K
        try (simp only [Act.put]; (try simp only [List.setIfInBounds_toArray]); (try simp only [List.set_cons_succ]); (try simp only [List.set_cons_zero]))
        refine wpAnyH_ready (rs := [11]) (by kernel_rfl) (by simp) ?_
        refine AllReadyH.cons rfl (fun K hK => ?_) AllReadyH.nil
        go_simp
        refine hK.out _ _ ?_ (fun hHeld => ?_)
        · ((try dsimp only); all_goals (refine ⟨?_, ?_, ?_, ?_, ?_, ?_, ?_, ?_, ?_, ?_, ?_, ?_, ?_, ?_, ?_, ?_⟩ <;> (repeat (first | with_reducible assumption | with_reducible apply cell_alloc_some | with_reducible apply cell_drew_some | with_reducible refine cell_below (by with_reducible assumption) ?_ | with_reducible refine cell_set_other (by omega) ?_))))
        clear hK K
        try (simp only [Act.put]; (try simp only [List.setIfInBounds_toArray]); (try simp only [List.set_cons_succ]); (try simp only [List.set_cons_zero]))
        refine wpAnyH_ready (rs := [12]) (by kernel_rfl) (by simp) ?_
        refine AllReadyH.cons rfl (fun K hK => ?_) AllReadyH.nil
        go_simp
        refine hK.out _ _ ?_ (fun hHeld => ?_)
        · ((try dsimp only); all_goals (refine ⟨?_, ?_, ?_, ?_, ?_, ?_, ?_, ?_, ?_, ?_, ?_, ?_, ?_, ?_, ?_, ?_⟩ <;> (repeat (first | with_reducible assumption | with_reducible apply cell_alloc_some | with_reducible apply cell_drew_some | with_reducible refine cell_below (by with_reducible assumption) ?_ | with_reducible refine cell_set_other (by omega) ?_))))
        clear hK K
        try (simp only [Act.put]; (try simp only [List.setIfInBounds_toArray]); (try simp only [List.set_cons_succ]); (try simp only [List.set_cons_zero]))
        refine wpAnyH_done (by kernel_rfl) ?_ _
        go_wp2
        go_ret
        exact ⟨ret_bool (by rw [← HR.out]; rcases H6R.out with k | k | k <;> simp [CompR, k, hg3]), Below.up HB9.out (by (repeat (first | exact Below.refl _ _ | apply Below.drew | (apply below_alloc_on (Nat.le_refl _)))))⟩
      · go_upto_region 19 with fail
        refine wp_region_held_drew (S := (fun w' => w'.cell? ⟨w.heap.size + 1, 0, none⟩ = some (.int .u64 x.a) ∧ w'.cell? ⟨w.heap.size + 1, 1, none⟩ = some (.int .u64 x.b) ∧ w'.cell? ⟨w.heap.size + 1, 2, none⟩ = some (.int .u64 x.c) ∧ w'.cell? ⟨w.heap.size + 1, 3, none⟩ = some (.string x.p) ∧ w'.cell? ⟨w.heap.size + 1, 4, none⟩ = some (.string x.m) ∧ w'.cell? ⟨M, 0, none⟩ = some (.int .u64 a) ∧ w'.cell? ⟨M, 1, none⟩ = some (.int .u64 b) ∧ w'.cell? ⟨M, 2, none⟩ = some (.int .u64 c) ∧ w'.cell? ⟨M, 3, none⟩ = some (.string p) ∧ w'.cell? ⟨M, 4, none⟩ = some (.string ⟨#[]⟩) ∧ w'.cell? ⟨w.heap.size, 0, none⟩ = some (.int .i64 6) ∧ w'.cell? ⟨w.heap.size, 1, none⟩ = some (.int .i64 g) ∧ w'.cell? ⟨w.heap.size, 2, none⟩ = some (.int .u64 a) ∧ w'.cell? ⟨w.heap.size, 3, none⟩ = some (.int .u64 b) ∧ w'.cell? ⟨w.heap.size, 4, none⟩ = some (.int .u64 c) ∧ w'.cell? ⟨w.heap.size, 5, none⟩ = some (.string p))) (by kernel_rfl) ?_ (fun hHeld => ?_)
        · ((try dsimp only); all_goals (refine ⟨?_, ?_, ?_, ?_, ?_, ?_, ?_, ?_, ?_, ?_, ?_, ?_, ?_, ?_, ?_, ?_⟩ <;> (repeat (first | with_reducible assumption | with_reducible apply cell_alloc_some | with_reducible apply cell_drew_some | with_reducible refine cell_below (by with_reducible assumption) ?_ | with_reducible refine cell_set_other (by omega) ?_))))
        refine wpAnyH_take (i := 0) (v := ?_) rfl (by kernel_rfl) (by kernel_rfl) (by kernel_rfl) (fun _ _ _ h => h) (Or.inl ⟨by kernel_rfl, ?_⟩) (by assumption) ?_
        rotate_left
        · (intro w hSw; (try dsimp only at hSw); go_simp <;> with_reducible rfl)
        try (simp only [Act.put]; (try simp only [List.setIfInBounds_toArray]); (try simp only [List.set_cons_succ]); (try simp only [List.set_cons_zero]))
        refine wpAnyH_take (i := 1) (v := ?_) rfl (by kernel_rfl) (by kernel_rfl) (by kernel_rfl) (fun _ _ _ h => h) (Or.inl ⟨by kernel_rfl, ?_⟩) (by assumption) ?_
        rotate_left
        · (intro w hSw; (try dsimp only at hSw); go_simp <;> with_reducible rfl)
        try (simp only [Act.put]; (try simp only [List.setIfInBounds_toArray]); (try simp only [List.set_cons_succ]); (try simp only [List.set_cons_zero]))
        refine wpAnyH_ready (rs := [2]) (by kernel_rfl) (by simp) ?_
        refine AllReadyH.cons rfl (fun K hK => ?_) AllReadyH.nil
        go_simp
        (go_at_call 12; (with_reducible refine (specCompare_is' x ⟨a, b, c, p, ⟨#[]⟩⟩ _ _ zx zt HQ).mono ?_); rintro e wb ⟨rfl, hb⟩; have HB2 := Lib.hid (Below.up (w := w) (Below.up I.out.bel (by (repeat (first | exact Below.refl _ _ | apply Below.drew | (apply below_alloc_on (Nat.le_refl _)))))) hb))
        refine hK.out _ _ ?_ (fun hHeld => ?_)
        · ((try dsimp only); all_goals (refine ⟨?_, ?_, ?_, ?_, ?_, ?_, ?_, ?_, ?_, ?_, ?_, ?_, ?_, ?_, ?_, ?_⟩ <;> (repeat (first | with_reducible assumption | with_reducible apply cell_alloc_some | with_reducible apply cell_drew_some | with_reducible refine cell_below (by with_reducible assumption) ?_ | with_reducible refine cell_set_other (by omega) ?_))))
        clear hK K
        try (simp only [Act.put]; (try simp only [List.setIfInBounds_toArray]); (try simp only [List.set_cons_succ]); (try simp only [List.set_cons_zero]))
        refine wpAnyH_ready (rs := [3]) (by kernel_rfl) (by simp) ?_
        refine AllReadyH.cons rfl (fun K hK => ?_) AllReadyH.nil
        go_simp
        refine hK.out _ _ ?_ (fun hHeld => ?_)
        · ((try dsimp only); all_goals (refine ⟨?_, ?_, ?_, ?_, ?_, ?_, ?_, ?_, ?_, ?_, ?_, ?_, ?_, ?_, ?_, ?_⟩ <;> (repeat (first | with_reducible assumption | with_reducible apply cell_alloc_some | with_reducible apply cell_drew_some | with_reducible refine cell_below (by with_reducible assumption) ?_ | with_reducible refine cell_set_other (by omega) ?_))))
        clear hK K
        try (simp only [Act.put]; (try simp only [List.setIfInBounds_toArray]); (try simp only [List.set_cons_succ]); (try simp only [List.set_cons_zero]))
        refine wpAnyH_ready (rs := [4]) (by kernel_rfl) (by simp) ?_
        refine AllReadyH.cons rfl (fun K hK => ?_) AllReadyH.nil
        go_simp
        refine hK.out _ _ ?_ (fun hHeld => ?_)
        · ((try dsimp only); all_goals (refine ⟨?_, ?_, ?_, ?_, ?_, ?_, ?_, ?_, ?_, ?_, ?_, ?_, ?_, ?_, ?_, ?_⟩ <;> (repeat (first | with_reducible assumption | with_reducible apply cell_alloc_some | with_reducible apply cell_drew_some | with_reducible refine cell_below (by with_reducible assumption) ?_ | with_reducible refine cell_set_other (by omega) ?_))))
        clear hK K
        try (simp only [Act.put]; (try simp only [List.setIfInBounds_toArray]); (try simp only [List.set_cons_succ]); (try simp only [List.set_cons_zero]))
        refine wpAnyH_take (i := 5) (v := ?_) rfl (by kernel_rfl) (by kernel_rfl) (by kernel_rfl) (fun _ _ _ h => h) (Or.inl ⟨by kernel_rfl, ?_⟩) (by assumption) ?_
        rotate_left
        · (intro w hSw; (try dsimp only at hSw); go_simp <;> with_reducible rfl)
        try (simp only [Act.put]; (try simp only [List.setIfInBounds_toArray]); (try simp only [List.set_cons_succ]); (try simp only [List.set_cons_zero]))
        refine wpAnyH_take (i := 6) (v := ?_) rfl (by kernel_rfl) (by kernel_rfl) (by kernel_rfl) (fun _ _ _ h => h) (Or.inl ⟨by kernel_rfl, ?_⟩) (by assumption) ?_
        rotate_left
        · (intro w hSw; (try dsimp only at hSw); go_simp <;> with_reducible rfl)
        try (simp only [Act.put]; (try simp only [List.setIfInBounds_toArray]); (try simp only [List.set_cons_succ]); (try simp only [List.set_cons_zero]))
        refine wpAnyH_take (i := 7) (v := ?_) rfl (by kernel_rfl) (by kernel_rfl) (by kernel_rfl) (fun _ _ _ h => h) (Or.inl ⟨by kernel_rfl, ?_⟩) (by assumption) ?_
        rotate_left
        · (intro w hSw; (try dsimp only at hSw); go_simp <;> with_reducible rfl)
        try (simp only [Act.put]; (try simp only [List.setIfInBounds_toArray]); (try simp only [List.set_cons_succ]); (try simp only [List.set_cons_zero]))
        refine wpAnyH_ready (rs := [8]) (by kernel_rfl) (by simp) ?_
        refine AllReadyH.cons rfl (fun K hK => ?_) AllReadyH.nil
        go_simp
        (go_at_call 80; (with_reducible refine (tilde_g 6 g a b c p _ HGG k6 HK6).mono ?_); rintro e wd ⟨rfl, hb8⟩; have HB8 := Lib.hid (Below.up HB2.out (Below.up (by (repeat (first | exact Below.refl _ _ | apply Below.drew | (apply below_alloc_on (Nat.le_refl _))))) hb8)))
        refine hK.out _ _ ?_ (fun hHeld => ?_)
        · ((try dsimp only); all_goals (refine ⟨?_, ?_, ?_, ?_, ?_, ?_, ?_, ?_, ?_, ?_, ?_, ?_, ?_, ?_, ?_, ?_⟩ <;> (repeat (first | with_reducible assumption | with_reducible apply cell_alloc_some | with_reducible apply cell_drew_some | with_reducible refine cell_below (by with_reducible assumption) ?_ | with_reducible refine cell_set_other (by omega) ?_))))
        clear hK K
        try (simp only [Act.put]; (try simp only [List.setIfInBounds_toArray]); (try simp only [List.set_cons_succ]); (try simp only [List.set_cons_zero]))
        refine wpAnyH_ready (rs := [9]) (by kernel_rfl) (by simp) ?_
        refine AllReadyH.cons rfl (fun K hK => ?_) AllReadyH.nil
        go_simp
        (go_at_call 15; (with_reducible refine (numbers_g x ⟨a, b, c, p, ⟨#[]⟩⟩ _ _ _ _ HG6 HN6).mono ?_); rintro e we ⟨rfl, hb9⟩; have HB9 := Lib.hid (Below.up HB8.out (Below.up (by (repeat (first | exact Below.refl _ _ | apply Below.drew | (apply below_alloc_on (Nat.le_refl _))))) hb9)))
        refine hK.out _ _ ?_ (fun hHeld => ?_)
        · ((try dsimp only); all_goals (refine ⟨?_, ?_, ?_, ?_, ?_, ?_, ?_, ?_, ?_, ?_, ?_, ?_, ?_, ?_, ?_, ?_⟩ <;> (repeat (first | with_reducible assumption | with_reducible apply cell_alloc_some | with_reducible apply cell_drew_some | with_reducible refine cell_below (by with_reducible assumption) ?_ | with_reducible refine cell_set_other (by omega) ?_))))
        clear hK K
        try (simp only [Act.put]; (try simp only [List.setIfInBounds_toArray]); (try simp only [List.set_cons_succ]); (try simp only [List.set_cons_zero]))
        refine wpAnyH_ready (rs := [10]) (by kernel_rfl) (by simp) ?_
        refine AllReadyH.cons rfl (fun K hK => ?_) AllReadyH.nil
        go_simp
        refine hK.out _ _ ?_ (fun hHeld => ?_)
        · ((try dsimp only); all_goals (refine ⟨?_, ?_, ?_, ?_, ?_, ?_, ?_, ?_, ?_, ?_, ?_, ?_, ?_, ?_, ?_, ?_⟩ <;> (repeat (first | with_reducible assumption | with_reducible apply cell_alloc_some | with_reducible apply cell_drew_some | with_reducible refine cell_below (by with_reducible assumption) ?_ | with_reducible refine cell_set_other (by omega) ?_))))
        clear hK K
        try (simp only [Act.put]; (try simp only [List.setIfInBounds_toArray]); (try simp only [List.set_cons_succ]); (try simp only [List.set_cons_zero]))
        refine wpAnyH_ready (rs := [11]) (by kernel_rfl) (by simp) ?_
        refine AllReadyH.cons rfl (fun K hK => ?_) AllReadyH.nil
        go_simp
        refine hK.out _ _ ?_ (fun hHeld => ?_)
        · ((try dsimp only); all_goals (refine ⟨?_, ?_, ?_, ?_, ?_, ?_, ?_, ?_, ?_, ?_, ?_, ?_, ?_, ?_, ?_, ?_⟩ <;> (repeat (first | with_reducible assumption | with_reducible apply cell_alloc_some | with_reducible apply cell_drew_some | with_reducible refine cell_below (by with_reducible assumption) ?_ | with_reducible refine cell_set_other (by omega) ?_))))
        clear hK K
        try (simp only [Act.put]; (try simp only [List.setIfInBounds_toArray]); (try simp only [List.set_cons_succ]); (try simp only [List.set_cons_zero]))
        refine wpAnyH_ready (rs := [12]) (by kernel_rfl) (by simp) ?_
        refine AllReadyH.cons rfl (fun K hK => ?_) AllReadyH.nil
        go_simp
        refine hK.out _ _ ?_ (fun hHeld => ?_)
        · ((try dsimp only); all_goals (refine ⟨?_, ?_, ?_, ?_, ?_, ?_, ?_, ?_, ?_, ?_, ?_, ?_, ?_, ?_, ?_, ?_⟩ <;> (repeat (first | with_reducible assumption | with_reducible apply cell_alloc_some | with_reducible apply cell_drew_some | with_reducible refine cell_below (by with_reducible assumption) ?_ | with_reducible refine cell_set_other (by omega) ?_))))
        clear hK K
        try (simp only [Act.put]; (try simp only [List.setIfInBounds_toArray]); (try simp only [List.set_cons_succ]); (try simp only [List.set_cons_zero]))
        refine wpAnyH_done (by kernel_rfl) ?_ _
        go_wp2
        go_ret
        exact ⟨ret_bool (by rw [← HR.out]; rcases H6R.out with k | k | k <;> simp [CompR, k, hg3]), Below.up HB9.out (by (repeat (first | exact Below.refl _ _ | apply Below.drew | (apply below_alloc_on (Nat.le_refl _)))))⟩
    · rcases HQR.out with rfl | rfl | rfl
      · go_upto_region 20 with fail
        refine wp_region_held_drew (S := (fun w' => w'.cell? ⟨w.heap.size + 1, 0, none⟩ = some (.int .u64 x.a) ∧ w'.cell? ⟨w.heap.size + 1, 1, none⟩ = some (.int .u64 x.b) ∧ w'.cell? ⟨w.heap.size + 1, 2, none⟩ = some (.int .u64 x.c) ∧ w'.cell? ⟨w.heap.size + 1, 3, none⟩ = some (.string x.p) ∧ w'.cell? ⟨w.heap.size + 1, 4, none⟩ = some (.string x.m) ∧ w'.cell? ⟨M, 0, none⟩ = some (.int .u64 a) ∧ w'.cell? ⟨M, 1, none⟩ = some (.int .u64 b) ∧ w'.cell? ⟨M, 2, none⟩ = some (.int .u64 c) ∧ w'.cell? ⟨M, 3, none⟩ = some (.string p) ∧ w'.cell? ⟨M, 4, none⟩ = some (.string ⟨#[]⟩) ∧ w'.cell? ⟨w.heap.size, 0, none⟩ = some (.int .i64 7) ∧ w'.cell? ⟨w.heap.size, 1, none⟩ = some (.int .i64 g) ∧ w'.cell? ⟨w.heap.size, 2, none⟩ = some (.int .u64 a) ∧ w'.cell? ⟨w.heap.size, 3, none⟩ = some (.int .u64 b) ∧ w'.cell? ⟨w.heap.size, 4, none⟩ = some (.int .u64 c) ∧ w'.cell? ⟨w.heap.size, 5, none⟩ = some (.string p))) (by kernel_rfl) ?_ (fun hHeld => ?_)
        · ((try dsimp only); all_goals (refine ⟨?_, ?_, ?_, ?_, ?_, ?_, ?_, ?_, ?_, ?_, ?_, ?_, ?_, ?_, ?_, ?_⟩ <;> (repeat (first | with_reducible assumption | with_reducible apply cell_alloc_some | with_reducible apply cell_drew_some | with_reducible refine cell_below (by with_reducible assumption) ?_ | with_reducible refine cell_set_other (by omega) ?_))))
        refine wpAnyH_take (i := 0) (v := ?_) rfl (by kernel_rfl) (by kernel_rfl) (by kernel_rfl) (fun _ _ _ h => h) (Or.inl ⟨by kernel_rfl, ?_⟩) (by assumption) ?_
        rotate_left
        · (intro w hSw; (try dsimp only at hSw); go_simp <;> with_reducible rfl)
        try (simp only [Act.put]; (try simp only [List.setIfInBounds_toArray]); (try simp only [List.set_cons_succ]); (try simp only [List.set_cons_zero]))
        refine wpAnyH_take (i := 1) (v := ?_) rfl (by kernel_rfl) (by kernel_rfl) (by kernel_rfl) (fun _ _ _ h => h) (Or.inl ⟨by kernel_rfl, ?_⟩) (by assumption) ?_
        rotate_left
        · (intro w hSw; (try dsimp only at hSw); go_simp <;> with_reducible rfl)
        try (simp only [Act.put]; (try simp only [List.setIfInBounds_toArray]); (try simp only [List.set_cons_succ]); (try simp only [List.set_cons_zero]))
        refine wpAnyH_ready (rs := [2]) (by kernel_rfl) (by simp) ?_
        refine AllReadyH.cons rfl (fun K hK => ?_) AllReadyH.nil
        go_simp
        (go_at_call 12; (with_reducible refine (specCompare_is' x ⟨a, b, c, p, ⟨#[]⟩⟩ _ _ zx zt HQ).mono ?_); rintro e wb ⟨rfl, hb⟩; have HB2 := Lib.hid (Below.up (w := w) (Below.up I.out.bel (by (repeat (first | exact Below.refl _ _ | apply Below.drew | (apply below_alloc_on (Nat.le_refl _)))))) hb))
        refine hK.out _ _ ?_ (fun hHeld => ?_)
        · ((try dsimp only); all_goals (refine ⟨?_, ?_, ?_, ?_, ?_, ?_, ?_, ?_, ?_, ?_, ?_, ?_, ?_, ?_, ?_, ?_⟩ <;> (repeat (first | with_reducible assumption | with_reducible apply cell_alloc_some | with_reducible apply cell_drew_some | with_reducible refine cell_below (by with_reducible assumption) ?_ | with_reducible refine cell_set_other (by omega) ?_))))
        clear hK K
        try (simp only [Act.put]; (try simp only [List.setIfInBounds_toArray]); (try simp only [List.set_cons_succ]); (try simp only [List.set_cons_zero]))
        refine wpAnyH_ready (rs := [3]) (by kernel_rfl) (by simp) ?_
        refine AllReadyH.cons rfl (fun K hK => ?_) AllReadyH.nil
        go_simp
        refine hK.out _ _ ?_ (fun hHeld => ?_)
        · ((try dsimp only); all_goals (refine ⟨?_, ?_, ?_, ?_, ?_, ?_, ?_, ?_, ?_, ?_, ?_, ?_, ?_, ?_, ?_, ?_⟩ <;> (repeat (first | with_reducible assumption | with_reducible apply cell_alloc_some | with_reducible apply cell_drew_some | with_reducible refine cell_below (by with_reducible assumption) ?_ | with_reducible refine cell_set_other (by omega) ?_))))
        clear hK K
        try (simp only [Act.put]; (try simp only [List.setIfInBounds_toArray]); (try simp only [List.set_cons_succ]); (try simp only [List.set_cons_zero]))
        refine wpAnyH_ready (rs := [4]) (by kernel_rfl) (by simp) ?_
        refine AllReadyH.cons rfl (fun K hK => ?_) AllReadyH.nil
        go_simp
        refine hK.out _ _ ?_ (fun hHeld => ?_)
        · ((try dsimp only); all_goals (refine ⟨?_, ?_, ?_, ?_, ?_, ?_, ?_, ?_, ?_, ?_, ?_, ?_, ?_, ?_, ?_, ?_⟩ <;> (repeat (first | with_reducible assumption | with_reducible apply cell_alloc_some | with_reducible apply cell_drew_some | with_reducible refine cell_below (by with_reducible assumption) ?_ | with_reducible refine cell_set_other (by omega) ?_))))
        clear hK K
        try (simp only [Act.put]; (try simp only [List.setIfInBounds_toArray]); (try simp only [List.set_cons_succ]); (try simp only [List.set_cons_zero]))
        refine wpAnyH_take (i := 5) (v := undef) rfl (by kernel_rfl) (by kernel_rfl) (by kernel_rfl) (fun _ _ _ h => h) (Or.inr ⟨by kernel_rfl, Eq.refl undef⟩) (by assumption) ?_
        try (simp only [Act.put]; (try simp only [List.setIfInBounds_toArray]); (try simp only [List.set_cons_succ]); (try simp only [List.set_cons_zero]))
        refine wpAnyH_take (i := 6) (v := undef) rfl (by kernel_rfl) (by kernel_rfl) (by kernel_rfl) (fun _ _ _ h => h) (Or.inr ⟨by kernel_rfl, Eq.refl undef⟩) (by assumption) ?_
        try (simp only [Act.put]; (try simp only [List.setIfInBounds_toArray]); (try simp only [List.set_cons_succ]); (try simp only [List.set_cons_zero]))
        refine wpAnyH_take (i := 7) (v := undef) rfl (by kernel_rfl) (by kernel_rfl) (by kernel_rfl) (fun _ _ _ h => h) (Or.inr ⟨by kernel_rfl, Eq.refl undef⟩) (by assumption) ?_
        try (simp only [Act.put]; (try simp only [List.setIfInBounds_toArray]); (try simp only [List.set_cons_succ]); (try simp only [List.set_cons_zero]))
        refine wpAnyH_take (i := 8) (v := undef) rfl (by kernel_rfl) (by kernel_rfl) (by kernel_rfl) (fun _ _ _ h => h) (Or.inr ⟨by kernel_rfl, Eq.refl undef⟩) (by assumption) ?_
        try (simp only [Act.put]; (try simp only [List.setIfInBounds_toArray]); (try simp only [List.set_cons_succ]); (try simp only [List.set_cons_zero]))
        refine wpAnyH_take (i := 9) (v := undef) rfl (by kernel_rfl) (by kernel_rfl) (by kernel_rfl) (fun _ _ _ h => h) (Or.inr ⟨by kernel_rfl, Eq.refl undef⟩) (by assumption) ?_
        try (simp only [Act.put]; (try simp only [List.setIfInBounds_toArray]); (try simp only [List.set_cons_succ]); (try simp only [List.set_cons_zero]))
        refine wpAnyH_take (i := 10) (v := undef) rfl (by kernel_rfl) (by kernel_rfl) (by kernel_rfl) (fun _ _ _ h => h) (Or.inr ⟨by kernel_rfl, Eq.refl undef⟩) (by assumption) ?_
        try (simp only [Act.put]; (try simp only [List.setIfInBounds_toArray]); (try simp only [List.set_cons_succ]); (try simp only [List.set_cons_zero]))
        refine wpAnyH_ready (rs := [11]) (by kernel_rfl) (by simp) ?_
        refine AllReadyH.cons rfl (fun K hK => ?_) AllReadyH.nil
        go_simp
        refine hK.out _ _ ?_ (fun hHeld => ?_)
        · ((try dsimp only); all_goals (refine ⟨?_, ?_, ?_, ?_, ?_, ?_, ?_, ?_, ?_, ?_, ?_, ?_, ?_, ?_, ?_, ?_⟩ <;> (repeat (first | with_reducible assumption | with_reducible apply cell_alloc_some | with_reducible apply cell_drew_some | with_reducible refine cell_below (by with_reducible assumption) ?_ | with_reducible refine cell_set_other (by omega) ?_))))
        clear hK K
        try (simp only [Act.put]; (try simp only [List.setIfInBounds_toArray]); (try simp only [List.set_cons_succ]); (try simp only [List.set_cons_zero]))
        refine wpAnyH_ready (rs := [12]) (by kernel_rfl) (by simp) ?_
        refine AllReadyH.cons rfl (fun K hK => ?_) AllReadyH.nil
        go_simp
        refine hK.out _ _ ?_ (fun hHeld => ?_)
        · ((try dsimp only); all_goals (refine ⟨?_, ?_, ?_, ?_, ?_, ?_, ?_, ?_, ?_, ?_, ?_, ?_, ?_, ?_, ?_, ?_⟩ <;> (repeat (first | with_reducible assumption | with_reducible apply cell_alloc_some | with_reducible apply cell_drew_some | with_reducible refine cell_below (by with_reducible assumption) ?_ | with_reducible refine cell_set_other (by omega) ?_))))
        clear hK K
        try (simp only [Act.put]; (try simp only [List.setIfInBounds_toArray]); (try simp only [List.set_cons_succ]); (try simp only [List.set_cons_zero]))
        refine wpAnyH_done (by kernel_rfl) ?_ _
        go_wp2
        go_ret
        exact ⟨ret_bool (by rw [← HR.out]; simp [CompR, hg3]), Below.up HB2.out (by (repeat (first | exact Below.refl _ _ | apply Below.drew | (apply below_alloc_on (Nat.le_refl _)))))⟩
      · go_upto_region 20 with fail
        refine wp_region_held_drew (S := (fun w' => w'.cell? ⟨w.heap.size + 1, 0, none⟩ = some (.int .u64 x.a) ∧ w'.cell? ⟨w.heap.size + 1, 1, none⟩ = some (.int .u64 x.b) ∧ w'.cell? ⟨w.heap.size + 1, 2, none⟩ = some (.int .u64 x.c) ∧ w'.cell? ⟨w.heap.size + 1, 3, none⟩ = some (.string x.p) ∧ w'.cell? ⟨w.heap.size + 1, 4, none⟩ = some (.string x.m) ∧ w'.cell? ⟨M, 0, none⟩ = some (.int .u64 a) ∧ w'.cell? ⟨M, 1, none⟩ = some (.int .u64 b) ∧ w'.cell? ⟨M, 2, none⟩ = some (.int .u64 c) ∧ w'.cell? ⟨M, 3, none⟩ = some (.string p) ∧ w'.cell? ⟨M, 4, none⟩ = some (.string ⟨#[]⟩) ∧ w'.cell? ⟨w.heap.size, 0, none⟩ = some (.int .i64 7) ∧ w'.cell? ⟨w.heap.size, 1, none⟩ = some (.int .i64 g) ∧ w'.cell? ⟨w.heap.size, 2, none⟩ = some (.int .u64 a) ∧ w'.cell? ⟨w.heap.size, 3, none⟩ = some (.int .u64 b) ∧ w'.cell? ⟨w.heap.size, 4, none⟩ = some (.int .u64 c) ∧ w'.cell? ⟨w.heap.size, 5, none⟩ = some (.string p))) (by kernel_rfl) ?_ (fun hHeld => ?_)
        · ((try dsimp only); all_goals (refine ⟨?_, ?_, ?_, ?_, ?_, ?_, ?_, ?_, ?_, ?_, ?_, ?_, ?_, ?_, ?_, ?_⟩ <;> (repeat (first | with_reducible assumption | with_reducible apply cell_alloc_some | with_reducible apply cell_drew_some | with_reducible refine cell_below (by with_reducible assumption) ?_ | with_reducible refine cell_set_other (by omega) ?_))))
        refine wpAnyH_take (i := 0) (v := ?_) rfl (by kernel_rfl) (by kernel_rfl) (by kernel_rfl) (fun _ _ _ h => h) (Or.inl ⟨by kernel_rfl, ?_⟩) (by assumption) ?_
        rotate_left
        · (intro w hSw; (try dsimp only at hSw); go_simp <;> with_reducible rfl)
        try (simp only [Act.put]; (try simp only [List.setIfInBounds_toArray]); (try simp only [List.set_cons_succ]); (try simp only [List.set_cons_zero]))
        refine wpAnyH_take (i := 1) (v := ?_) rfl (by kernel_rfl) (by kernel_rfl) (by kernel_rfl) (fun _ _ _ h => h) (Or.inl ⟨by kernel_rfl, ?_⟩) (by assumption) ?_
        rotate_left
        · (intro w hSw; (try dsimp only at hSw); go_simp <;> with_reducible rfl)
        try (simp only [Act.put]; (try simp only [List.setIfInBounds_toArray]); (try simp only [List.set_cons_succ]); (try simp only [List.set_cons_zero]))
        refine wpAnyH_ready (rs := [2]) (by kernel_rfl) (by simp) ?_
        refine AllReadyH.cons rfl (fun K hK => ?_) AllReadyH.nil
        go_simp
        (go_at_call 12; (with_reducible refine (specCompare_is' x ⟨a, b, c, p, ⟨#[]⟩⟩ _ _ zx zt HQ).mono ?_); rintro e wb ⟨rfl, hb⟩; have HB2 := Lib.hid (Below.up (w := w) (Below.up I.out.bel (by (repeat (first | exact Below.refl _ _ | apply Below.drew | (apply below_alloc_on (Nat.le_refl _)))))) hb))
        refine hK.out _ _ ?_ (fun hHeld => ?_)
        · ((try dsimp only); all_goals (refine ⟨?_, ?_, ?_, ?_, ?_, ?_, ?_, ?_, ?_, ?_, ?_, ?_, ?_, ?_, ?_, ?_⟩ <;> (repeat (first | with_reducible assumption | with_reducible apply cell_alloc_some | with_reducible apply cell_drew_some | with_reducible refine cell_below (by with_reducible assumption) ?_ | with_reducible refine cell_set_other (by omega) ?_))))
        clear hK K
        try (simp only [Act.put]; (try simp only [List.setIfInBounds_toArray]); (try simp only [List.set_cons_succ]); (try simp only [List.set_cons_zero]))
        refine wpAnyH_ready (rs := [3]) (by kernel_rfl) (by simp) ?_
        refine AllReadyH.cons rfl (fun K hK => ?_) AllReadyH.nil
        go_simp
        refine hK.out _ _ ?_ (fun hHeld => ?_)
        · ((try dsimp only); all_goals (refine ⟨?_, ?_, ?_, ?_, ?_, ?_, ?_, ?_, ?_, ?_, ?_, ?_, ?_, ?_, ?_, ?_⟩ <;> (repeat (first | with_reducible assumption | with_reducible apply cell_alloc_some | with_reducible apply cell_drew_some | with_reducible refine cell_below (by with_reducible assumption) ?_ | with_reducible refine cell_set_other (by omega) ?_))))
        clear hK K
        try (simp only [Act.put]; (try simp only [List.setIfInBounds_toArray]); (try simp only [List.set_cons_succ]); (try simp only [List.set_cons_zero]))
        refine wpAnyH_ready (rs := [4]) (by kernel_rfl) (by simp) ?_
        refine AllReadyH.cons rfl (fun K hK => ?_) AllReadyH.nil
        go_simp
        refine hK.out _ _ ?_ (fun hHeld => ?_)
        · ((try dsimp only); all_goals (refine ⟨?_, ?_, ?_, ?_, ?_, ?_, ?_, ?_, ?_, ?_, ?_, ?_, ?_, ?_, ?_, ?_⟩ <;> (repeat (first | with_reducible assumption | with_reducible apply cell_alloc_some | with_reducible apply cell_drew_some | with_reducible refine cell_below (by with_reducible assumption) ?_ | with_reducible refine cell_set_other (by omega) ?_))))
        clear hK K
        try (simp only [Act.put]; (try simp only [List.setIfInBounds_toArray]); (try simp only [List.set_cons_succ]); (try simp only [List.set_cons_zero]))
        refine wpAnyH_take (i := 5) (v := ?_) rfl (by kernel_rfl) (by kernel_rfl) (by kernel_rfl) (fun _ _ _ h => h) (Or.inl ⟨by kernel_rfl, ?_⟩) (by assumption) ?_
        rotate_left
        · (intro w hSw; (try dsimp only at hSw); go_simp <;> with_reducible rfl)
        try (simp only [Act.put]; (try simp only [List.setIfInBounds_toArray]); (try simp only [List.set_cons_succ]); (try simp only [List.set_cons_zero]))
        refine wpAnyH_take (i := 6) (v := ?_) rfl (by kernel_rfl) (by kernel_rfl) (by kernel_rfl) (fun _ _ _ h => h) (Or.inl ⟨by kernel_rfl, ?_⟩) (by assumption) ?_
        rotate_left
        · (intro w hSw; (try dsimp only at hSw); go_simp <;> with_reducible rfl)
        try (simp only [Act.put]; (try simp only [List.setIfInBounds_toArray]); (try simp only [List.set_cons_succ]); (try simp only [List.set_cons_zero]))
        refine wpAnyH_take (i := 7) (v := ?_) rfl (by kernel_rfl) (by kernel_rfl) (by kernel_rfl) (fun _ _ _ h => h) (Or.inl ⟨by kernel_rfl, ?_⟩) (by assumption) ?_
        rotate_left
        · (intro w hSw; (try dsimp only at hSw); go_simp <;> with_reducible rfl)
        try (simp only [Act.put]; (try simp only [List.setIfInBounds_toArray]); (try simp only [List.set_cons_succ]); (try simp only [List.set_cons_zero]))
        refine wpAnyH_ready (rs := [8]) (by kernel_rfl) (by simp) ?_
        refine AllReadyH.cons rfl (fun K hK => ?_) AllReadyH.nil
        go_simp
        (go_at_call 81; (with_reducible refine (caret_g 7 g a b c p _ HGG c7 HK7).mono ?_); rintro e wd ⟨rfl, hb8⟩; have HB8 := Lib.hid (Below.up HB2.out (Below.up (by (repeat (first | exact Below.refl _ _ | apply Below.drew | (apply below_alloc_on (Nat.le_refl _))))) hb8)))
        refine hK.out _ _ ?_ (fun hHeld => ?_)
        · ((try dsimp only); all_goals (refine ⟨?_, ?_, ?_, ?_, ?_, ?_, ?_, ?_, ?_, ?_, ?_, ?_, ?_, ?_, ?_, ?_⟩ <;> (repeat (first | with_reducible assumption | with_reducible apply cell_alloc_some | with_reducible apply cell_drew_some | with_reducible refine cell_below (by with_reducible assumption) ?_ | with_reducible refine cell_set_other (by omega) ?_))))
        clear hK K
        try (simp only [Act.put]; (try simp only [List.setIfInBounds_toArray]); (try simp only [List.set_cons_succ]); (try simp only [List.set_cons_zero]))
        refine wpAnyH_ready (rs := [9]) (by kernel_rfl) (by simp) ?_
        refine AllReadyH.cons rfl (fun K hK => ?_) AllReadyH.nil
        go_simp
        (go_at_call 15; (with_reducible refine (numbers_g x ⟨a, b, c, p, ⟨#[]⟩⟩ _ _ _ _ HG7 HN7).mono ?_); rintro e we ⟨rfl, hb9⟩; have HB9 := Lib.hid (Below.up HB8.out (Below.up (by (repeat (first | exact Below.refl _ _ | apply Below.drew | (apply below_alloc_on (Nat.le_refl _))))) hb9)))
        refine hK.out _ _ ?_ (fun hHeld => ?_)
        · ((try dsimp only); all_goals (refine ⟨?_, ?_, ?_, ?_, ?_, ?_, ?_, ?_, ?_, ?_, ?_, ?_, ?_, ?_, ?_, ?_⟩ <;> (repeat (first | with_reducible assumption | with_reducible apply cell_alloc_some | with_reducible apply cell_drew_some | with_reducible refine cell_below (by with_reducible assumption) ?_ | with_reducible refine cell_set_other (by omega) ?_))))
        clear hK K
        try (simp only [Act.put]; (try simp only [List.setIfInBounds_toArray]); (try simp only [List.set_cons_succ]); (try simp only [List.set_cons_zero]))
        refine wpAnyH_ready (rs := [10]) (by kernel_rfl) (by simp) ?_
        refine AllReadyH.cons rfl (fun K hK => ?_) AllReadyH.nil
        go_simp
        refine hK.out _ _ ?_ (fun hHeld => ?_)
        · ((try dsimp only); all_goals (refine ⟨?_, ?_, ?_, ?_, ?_, ?_, ?_, ?_, ?_, ?_, ?_, ?_, ?_, ?_, ?_, ?_⟩ <;> (repeat (first | with_reducible assumption | with_reducible apply cell_alloc_some | with_reducible apply cell_drew_some | with_reducible refine cell_below (by with_reducible assumption) ?_ | with_reducible refine cell_set_other (by omega) ?_))))
        clear hK K
        try (simp only [Act.put]; (try simp only [List.setIfInBounds_toArray]); (try simp only [List.set_cons_succ]); (try simp only [List.set_cons_zero]))
        refine wpAnyH_ready (rs := [11]) (by kernel_rfl) (by simp) ?_
        refine AllReadyH.cons rfl (fun K hK => ?_) AllReadyH.nil
        go_simp
        refine hK.out _ _ ?_ (fun hHeld => ?_)
        · ((try dsimp only); all_goals (refine ⟨?_, ?_, ?_, ?_, ?_, ?_, ?_, ?_, ?_, ?_, ?_, ?_, ?_, ?_, ?_, ?_⟩ <;> (repeat (first | with_reducible assumption | with_reducible apply cell_alloc_some | with_reducible apply cell_drew_some | with_reducible refine cell_below (by with_reducible assumption) ?_ | with_reducible refine cell_set_other (by omega) ?_))))
        clear hK K
        try (simp only [Act.put]; (try simp only [List.setIfInBounds_toArray]); (try simp only [List.set_cons_succ]); (try simp only [List.set_cons_zero]))
        refine wpAnyH_ready (rs := [12]) (by kernel_rfl) (by simp) ?_
        refine AllReadyH.cons rfl (fun K hK => ?_) AllReadyH.nil
        go_simp
        refine hK.out _ _ ?_ (fun hHeld => ?_)
        · ((try dsimp only); all_goals (refine ⟨?_, ?_, ?_, ?_, ?_, ?_, ?_, ?_, ?_, ?_, ?_, ?_, ?_, ?_, ?_, ?_⟩ <;> (repeat (first | with_reducible assumption | with_reducible apply cell_alloc_some | with_reducible apply cell_drew_some | with_reducible refine cell_below (by with_reducible assumption) ?_ | with_reducible refine cell_set_other (by omega) ?_))))
        clear hK K
        try (simp only [Act.put]; (try simp only [List.setIfInBounds_toArray]); (try simp only [List.set_cons_succ]); (try simp only [List.set_cons_zero]))
        refine wpAnyH_done (by kernel_rfl) ?_ _
        go_wp2
        go_ret
        exact ⟨ret_bool (by rw [← HR.out]; rcases H7R.out with k | k | k <;> simp [CompR, k, hg3]), Below.up HB9.out (by (repeat (first | exact Below.refl _ _ | apply Below.drew | (apply below_alloc_on (Nat.le_refl _)))))⟩
      · go_upto_region 20 with fail
        refine wp_region_held_drew (S := (fun w' => w'.cell? ⟨w.heap.size + 1, 0, none⟩ = some (.int .u64 x.a) ∧ w'.cell? ⟨w.heap.size + 1, 1, none⟩ = some (.int .u64 x.b) ∧ w'.cell? ⟨w.heap.size + 1, 2, none⟩ = some (.int .u64 x.c) ∧ w'.cell? ⟨w.heap.size + 1, 3, none⟩ = some (.string x.p) ∧ w'.cell? ⟨w.heap.size + 1, 4, none⟩ = some (.string x.m) ∧ w'.cell? ⟨M, 0, none⟩ = some (.int .u64 a) ∧ w'.cell? ⟨M, 1, none⟩ = some (.int .u64 b) ∧ w'.cell? ⟨M, 2, none⟩ = some (.int .u64 c) ∧ w'.cell? ⟨M, 3, none⟩ = some (.string p) ∧ w'.cell? ⟨M, 4, none⟩ = some (.string ⟨#[]⟩) ∧ w'.cell? ⟨w.heap.size, 0, none⟩ = some (.int .i64 7) ∧ w'.cell? ⟨w.heap.size, 1, none⟩ = some (.int .i64 g) ∧ w'.cell? ⟨w.heap.size, 2, none⟩ = some (.int .u64 a) ∧ w'.cell? ⟨w.heap.size, 3, none⟩ = some (.int .u64 b) ∧ w'.cell? ⟨w.heap.size, 4, none⟩ = some (.int .u64 c) ∧ w'.cell? ⟨w.heap.size, 5, none⟩ = some (.string p))) (by kernel_rfl) ?_ (fun hHeld => ?_)
        · ((try dsimp only); all_goals (refine ⟨?_, ?_, ?_, ?_, ?_, ?_, ?_, ?_, ?_, ?_, ?_, ?_, ?_, ?_, ?_, ?_⟩ <;> (repeat (first | with_reducible assumption | with_reducible apply cell_alloc_some | with_reducible apply cell_drew_some | with_reducible refine cell_below (by with_reducible assumption) ?_ | with_reducible refine cell_set_other (by omega) ?_))))
        refine wpAnyH_take (i := 0) (v := ?_) rfl (by kernel_rfl) (by kernel_rfl) (by kernel_rfl) (fun _ _ _ h => h) (Or.inl ⟨by kernel_rfl, ?_⟩) (by assumption) ?_
        rotate_left
        · (intro w hSw; (try dsimp only at hSw); go_simp <;> with_reducible rfl)
        try (simp only [Act.put]; (try simp only [List.setIfInBounds_toArray]); (try simp only [List.set_cons_succ]); (try simp only [List.set_cons_zero]))
        refine wpAnyH_take (i := 1) (v := ?_) rfl (by kernel_rfl) (by kernel_rfl) (by kernel_rfl) (fun _ _ _ h => h) (Or.inl ⟨by kernel_rfl, ?_⟩) (by assumption) ?_
        rotate_left
        · (intro w hSw; (try dsimp only at hSw); go_simp <;> with_reducible rfl)
        try (simp only [Act.put]; (try simp only [List.setIfInBounds_toArray]); (try simp only [List.set_cons_succ]); (try simp only [List.set_cons_zero]))
        refine wpAnyH_ready (rs := [2]) (by kernel_rfl) (by simp) ?_
        refine AllReadyH.cons rfl (fun K hK => ?_) AllReadyH.nil
        go_simp
        (go_at_call 12; (with_reducible refine (specCompare_is' x ⟨a, b, c, p, ⟨#[]⟩⟩ _ _ zx zt HQ).mono ?_); rintro e wb ⟨rfl, hb⟩; have HB2 := Lib.hid (Below.up (w := w) (Below.up I.out.bel (by (repeat (first | exact Below.refl _ _ | apply Below.drew | (apply below_alloc_on (Nat.le_refl _)))))) hb))
        refine hK.out _ _ ?_ (fun hHeld => ?_)
        · ((try dsimp only); all_goals (refine ⟨?_, ?_, ?_, ?_, ?_, ?_, ?_, ?_, ?_, ?_, ?_, ?_, ?_, ?_, ?_, ?_⟩ <;> (repeat (first | with_reducible assumption | with_reducible apply cell_alloc_some | with_reducible apply cell_drew_some | with_reducible refine cell_below (by with_reducible assumption) ?_ | with_reducible refine cell_set_other (by omega) ?_))))
        clear hK K
        try (simp only [Act.put]; (try simp only [List.setIfInBounds_toArray]); (try simp only [List.set_cons_succ]); (try simp only [List.set_cons_zero]))
        refine wpAnyH_ready (rs := [3]) (by kernel_rfl) (by simp) ?_
        refine AllReadyH.cons rfl (fun K hK => ?_) AllReadyH.nil
        go_simp
        refine hK.out _ _ ?_ (fun hHeld => ?_)
        · ((try dsimp only); all_goals (refine ⟨?_, ?_, ?_, ?_, ?_, ?_, ?_, ?_, ?_, ?_, ?_, ?_, ?_, ?_, ?_, ?_⟩ <;> (repeat (first | with_reducible assumption | with_reducible apply cell_alloc_some | with_reducible apply cell_drew_some | with_reducible refine cell_below (by with_reducible assumption) ?_ | with_reducible refine cell_set_other (by omega) ?_))))
        clear hK K
        try (simp only [Act.put]; (try simp only [List.setIfInBounds_toArray]); (try simp only [List.set_cons_succ]); (try simp only [List.set_cons_zero]))
        refine wpAnyH_ready (rs := [4]) (by kernel_rfl) (by simp) ?_
        refine AllReadyH.cons rfl (fun K hK => ?_) AllReadyH.nil
        go_simp
        refine hK.out _ _ ?_ (fun hHeld => ?_)
        · ((try dsimp only); all_goals (refine ⟨?_, ?_, ?_, ?_, ?_, ?_, ?_, ?_, ?_, ?_, ?_, ?_, ?_, ?_, ?_, ?_⟩ <;> (repeat (first | with_reducible assumption | with_reducible apply cell_alloc_some | with_reducible apply cell_drew_some | with_reducible refine cell_below (by with_reducible assumption) ?_ | with_reducible refine cell_set_other (by omega) ?_))))
        clear hK K
        try (simp only [Act.put]; (try simp only [List.setIfInBounds_toArray]); (try simp only [List.set_cons_succ]); (try simp only [List.set_cons_zero]))
        refine wpAnyH_take (i := 5) (v := ?_) rfl (by kernel_rfl) (by kernel_rfl) (by kernel_rfl) (fun _ _ _ h => h) (Or.inl ⟨by kernel_rfl, ?_⟩) (by assumption) ?_
        rotate_left
        · (intro w hSw; (try dsimp only at hSw); go_simp <;> with_reducible rfl)
        try (simp only [Act.put]; (try simp only [List.setIfInBounds_toArray]); (try simp only [List.set_cons_succ]); (try simp only [List.set_cons_zero]))
        refine wpAnyH_take (i := 6) (v := ?_) rfl (by kernel_rfl) (by kernel_rfl) (by kernel_rfl) (fun _ _ _ h => h) (Or.inl ⟨by kernel_rfl, ?_⟩) (by assumption) ?_
        rotate_left
        · (intro w hSw; (try dsimp only at hSw); go_simp <;> with_reducible rfl)
        try (simp only [Act.put]; (try simp only [List.setIfInBounds_toArray]); (try simp only [List.set_cons_succ]); (try simp only [List.set_cons_zero]))
        refine wpAnyH_take (i := 7) (v := ?_) rfl (by kernel_rfl) (by kernel_rfl) (by kernel_rfl) (fun _ _ _ h => h) (Or.inl ⟨by kernel_rfl, ?_⟩) (by assumption) ?_
        rotate_left
        · (intro w hSw; (try dsimp only at hSw); go_simp <;> with_reducible rfl)
        try (simp only [Act.put]; (try simp only [List.setIfInBounds_toArray]); (try simp only [List.set_cons_succ]); (try simp only [List.set_cons_zero]))
        refine wpAnyH_ready (rs := [8]) (by kernel_rfl) (by simp) ?_
        refine AllReadyH.cons rfl (fun K hK => ?_) AllReadyH.nil
        go_simp
        (go_at_call 81; (with_reducible refine (caret_g 7 g a b c p _ HGG c7 HK7).mono ?_); rintro e wd ⟨rfl, hb8⟩; have HB8 := Lib.hid (Below.up HB2.out (Below.up (by (repeat (first | exact Below.refl _ _ | apply Below.drew | (apply below_alloc_on (Nat.le_refl _))))) hb8)))
        refine hK.out _ _ ?_ (fun hHeld => ?_)
        · ((try dsimp only); all_goals (refine ⟨?_, ?_, ?_, ?_, ?_, ?_, ?_, ?_, ?_, ?_, ?_, ?_, ?_, ?_, ?_, ?_⟩ <;> (repeat (first | with_reducible assumption | with_reducible apply cell_alloc_some | with_reducible apply cell_drew_some | with_reducible refine cell_below (by with_reducible assumption) ?_ | with_reducible refine cell_set_other (by omega) ?_))))
        clear hK K
        try (simp only [Act.put]; (try simp only [List.setIfInBounds_toArray]); (try simp only [List.set_cons_succ]); (try simp only [List.set_cons_zero]))
        refine wpAnyH_ready (rs := [9]) (by kernel_rfl) (by simp) ?_
        refine AllReadyH.cons rfl (fun K hK => ?_) AllReadyH.nil
        go_simp
        (go_at_call 15; (with_reducible refine (numbers_g x ⟨a, b, c, p, ⟨#[]⟩⟩ _ _ _ _ HG7 HN7).mono ?_); rintro e we ⟨rfl, hb9⟩; have HB9 := Lib.hid (Below.up HB8.out (Below.up (by (repeat (first | exact Below.refl _ _ | apply Below.drew | (apply below_alloc_on (Nat.le_refl _))))) hb9)))
        refine hK.out _ _ ?_ (fun hHeld => ?_)
        · ((try dsimp only); all_goals (refine ⟨?_, ?_, ?_, ?_, ?_, ?_, ?_, ?_, ?_, ?_, ?_, ?_, ?_, ?_, ?_, ?_⟩ <;> (repeat (first | with_reducible assumption | with_reducible apply cell_alloc_some | with_reducible apply cell_drew_some | with_reducible refine cell_below (by with_reducible assumption) ?_ | with_reducible refine cell_set_other (by omega) ?_))))
        clear hK K
        try (simp only [Act.put]; (try simp only [List.setIfInBounds_toArray]); (try simp only [List.set_cons_succ]); (try simp only [List.set_cons_zero]))
        refine wpAnyH_ready (rs := [10]) (by kernel_rfl) (by simp) ?_
        refine AllReadyH.cons rfl (fun K hK => ?_) AllReadyH.nil
        go_simp
        refine hK.out _ _ ?_ (fun hHeld => ?_)
        · ((try dsimp only); all_goals (refine ⟨?_, ?_, ?_, ?_, ?_, ?_, ?_, ?_, ?_, ?_, ?_, ?_, ?_, ?_, ?_, ?_⟩ <;> (repeat (first | with_reducible assumption | with_reducible apply cell_alloc_some | with_reducible apply cell_drew_some | with_reducible refine cell_below (by with_reducible assumption) ?_ | with_reducible refine cell_set_other (by omega) ?_))))
        clear hK K
        try (simp only [Act.put]; (try simp only [List.setIfInBounds_toArray]); (try simp only [List.set_cons_succ]); (try simp only [List.set_cons_zero]))
        refine wpAnyH_ready (rs := [11]) (by kernel_rfl) (by simp) ?_
        refine AllReadyH.cons rfl (fun K hK => ?_) AllReadyH.nil
        go_simp
        refine hK.out _ _ ?_ (fun hHeld => ?_)
        · ((try dsimp only); all_goals (refine ⟨?_, ?_, ?_, ?_, ?_, ?_, ?_, ?_, ?_, ?_, ?_, ?_, ?_, ?_, ?_, ?_⟩ <;> (repeat (first | with_reducible assumption | with_reducible apply cell_alloc_some | with_reducible apply cell_drew_some | with_reducible refine cell_below (by with_reducible assumption) ?_ | with_reducible refine cell_set_other (by omega) ?_))))
        clear hK K
        try (simp only [Act.put]; (try simp only [List.setIfInBounds_toArray]); (try simp only [List.set_cons_succ]); (try simp only [List.set_cons_zero]))
        refine wpAnyH_ready (rs := [12]) (by kernel_rfl) (by simp) ?_
        refine AllReadyH.cons rfl (fun K hK => ?_) AllReadyH.nil
        go_simp
        refine hK.out _ _ ?_ (fun hHeld => ?_)
        · ((try dsimp only); all_goals (refine ⟨?_, ?_, ?_, ?_, ?_, ?_, ?_, ?_, ?_, ?_, ?_, ?_, ?_, ?_, ?_, ?_⟩ <;> (repeat (first | with_reducible assumption | with_reducible apply cell_alloc_some | with_reducible apply cell_drew_some | with_reducible refine cell_below (by with_reducible assumption) ?_ | with_reducible refine cell_set_other (by omega) ?_))))
        clear hK K
        try (simp only [Act.put]; (try simp only [List.setIfInBounds_toArray]); (try simp only [List.set_cons_succ]); (try simp only [List.set_cons_zero]))
        refine wpAnyH_done (by kernel_rfl) ?_ _
        go_wp2
        go_ret
        exact ⟨ret_bool (by rw [← HR.out]; rcases H7R.out with k | k | k <;> simp [CompR, k, hg3]), Below.up HB9.out (by (repeat (first | exact Below.refl _ _ | apply Below.drew | (apply below_alloc_on (Nat.le_refl _)))))⟩
end Go.Proofs.YtagmdhinbkponaaDoor
