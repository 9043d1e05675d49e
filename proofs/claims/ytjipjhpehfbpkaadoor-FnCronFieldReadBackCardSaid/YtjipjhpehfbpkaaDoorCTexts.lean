/-
  spec.CronItemTexts.
-/
import Derived.Test.YtjipjhpehfbpkaaDoorCItemW
import Derived.Test.YtjipjhpehfbpkaaDoorCCov
import Derived.Test.YtjipjhpehfbpkaaDoorCRuns
import Derived.BigRegion
namespace Go.Proofs.YtjipjhpehfbpkaaDoor
open Go.RowKit
set_option maxRecDepth 100000
set_option linter.unusedVariables false

theorem Bar.grown {S : Nat} {w w' : World} (h : Bar w.heap.size S w w') : w.grownBy w' (some S) := ⟨h.os, h.tape, h.output, h.size, fun k hk hs => h.block k hk (fun e => hs (by rw [e]))⟩
theorem OwnS.bar {w w' : World} {base S : Nat} {v : Value} {L : List ByteArray} (h : OwnS w base v L) (hS : S < base) (b : Bar w.heap.size S w w') : OwnS w' base v L :=
  World.ownsRow.kept h b.grown (by
    cases hv : v.ownBlock with
    | none => exact .inl rfl
    | some k =>
      right
      intro e
      have := (World.ownsRow.lt h k hv).1
      have := Option.some.inj e
      omega)
/-- 'append(v, s)', with what it leaves as it was -/
theorem append_strG {w : World} {ops : Array Oper} {rest : List Oper} {o : Oper} {a : Act} {Q : Exit → Act → World → Prop} (hgd : o.guard = none) (s x : Operand)
    (ho : o.op = .call { callee := .builtin .append, args := #[s, x], argTypes := #[49, 49] })
    (base : Nat) (v : Value) (L : List ByteArray) (hs : a.eval s = v) (hown : OwnS w base v L)
    (g : Nat) (c : Nat) (b : ByteArray) (hx : a.eval x = .slice (some ⟨g, 0, none⟩) 1 c) (hcell : w.cell? ⟨g, 0, none⟩ = some (.string b))
    (hlen : L.length < 1099511627776) (hbase : base ≤ w.heap.size)
    (h : ∀ v' w', OwnS w' base v' (L ++ [b]) → w.grownBy w' v.ownBlock → wpList Tryd.prog ops Q rest (a.put o.dst v') w') : wpList Tryd.prog ops Q (o :: rest) a w := by
  obtain ⟨i0, hi, hz0, hz1, hz2⟩ := info_parts infoS
  refine wpList_append_own w hgd s x 49 ho base 9 i0 (.string ⟨#[]⟩) 1 16 Tryd.underlying49 hi hz0 hz1 hz2 rfl (by decide) v L.length (L.map Value.string) hs hown
    ⟨g, 0, none⟩ 1 c [.string b] hx rfl ?_ ?_ ?_ ?_ hbase ?_
  · intro j u hj
    cases j with
    | zero => simp at hj; subst hj; exact hcell
    | succ j => simp at hj
  · intro u hu; simp at hu; subst hu; rfl
  · unfold maxLen; omega
  · omega
  · intro v' w' h1 h2 _
    refine h v' w' ?_ h2
    unfold OwnS
    simpa using h1
/-- a set's block is none of a list's -/
def Apart (v : Value) (M : Nat) : Prop := v.ownBlock ≠ some M
theorem SetAt.grown {w w' : World} {N : Nat} {f : Nat → Bool} {row : Option Nat} (h : SetAt w N f) (hg : w.grownBy w' row) (hne : row ≠ some N) : SetAt w' N f := by
  have hb := hg.block N h.lt (fun e => hne e.symm)
  refine ⟨Nat.lt_of_lt_of_le h.lt hg.size, fun j v hv => ?_, fun j => ?_⟩
  · rw [World.cell?_of_block (w := w) hb]
    exact h.has j v hv
  · rw [World.frozen?_of_block (w := w) hb]
    exact h.loose j
theorem apart_of {w : World} {base : Nat} {v : Value} {L : List ByteArray} {N : Nat} {f : Nat → Bool} (h : OwnS w base v L) (hL : L ≠ []) (hs : SetAt w N f) : Apart v N := by
  obtain ⟨g, c, rfl, hg, hc⟩ := h.at hL
  intro e
  obtain rfl : g = N := Option.some.inj e
  have h1 := hc 0 (List.length_pos_iff.2 hL)
  have h2 := hs.cell 0 (by omega)
  rw [h1] at h2
  cases h2
/-- the state of CronItemTexts -/
structure TSt (f : Nat → Bool) (S N0 M2 : Nat) (w : World) (v : Value) (L : List ByteArray) (g : Nat → Bool) (wx : World) : Prop where
  set : SetAt wx N0 f
  rest : SetAt wx M2 g
  sty : StyleAt wx S
  bar : Bar w.heap.size S w wx
  pow : PowS S wx
  own : OwnS wx N0 v L
  ne : Apart v N0 ∧ Apart v M2
structure TFix (S N0 M2 : Nat) (w : World) : Prop where
  n0 : w.heap.size = N0
  s0 : S < N0
  m2 : N0 < M2
theorem TSt.on {f g : Nat → Bool} {S N0 M2 : Nat} {w wx wy : World} {v : Value} {L : List ByteArray} (h : TSt f S N0 M2 w v L g wx) (F : TFix S N0 M2 w) (hs : StyleAt wy S) (hb : Bar wx.heap.size S wx wy) : TSt f S N0 M2 w v L g wy :=
  ⟨h.set.bar hb (Nat.ne_of_gt F.s0), h.rest.bar hb (Nat.ne_of_gt (Nat.lt_trans F.s0 F.m2)), hs, h.bar.up hb, h.pow.bar h.sty hb, h.own.bar F.s0 hb, h.ne⟩
theorem TSt.low {f g : Nat → Bool} {S N0 M2 : Nat} {w wx wy : World} {v : Value} {L : List ByteArray} (h : TSt f S N0 M2 w v L g wx) (F : TFix S N0 M2 w) (hb : Below wx.heap.size wx wy) : TSt f S N0 M2 w v L g wy :=
  h.on F (h.sty.below hb) (Bar.of hb)
theorem TSt.put {f g : Nat → Bool} {S N0 M2 : Nat} {w wx : World} {v : Value} {L : List ByteArray} (h : TSt f S N0 M2 w v L g wx) (F : TFix S N0 M2 w) {x : Nat} (hx : x ≤ 62) : TSt f S N0 M2 w v L (fun i => if i = 1 + x then false else g i) (wx.setCell ⟨M2, 1 + x, none⟩ (.bool false)) := by
  have hs2 := Nat.lt_trans F.s0 F.m2
  have hM : w.heap.size ≤ M2 := by have := F.n0; have := F.m2; omega
  have hb : ∀ k, k ≠ M2 → (wx.setCell ⟨M2, 1 + x, none⟩ (.bool false)).heap[k]? = wx.heap[k]? := fun k hk => heap_setCell_other wx ⟨M2, 1 + x, none⟩ k _ hk
  refine ⟨h.set.other (Nat.ne_of_lt F.m2) _ _, h.rest.set (1 + x) (by omega) false, h.sty.apart hs2 _ _, h.bar.trans ⟨rfl, rfl, rfl, by rw [heap_size_setCell]; exact Nat.le_refl _, fun k hk _ => hb k (by omega)⟩, ?_, ?_, h.ne⟩
  · exact h.pow.below ⟨rfl, rfl, rfl, by rw [heap_size_setCell]; exact Nat.le_refl _, fun k hk => hb k (by omega)⟩
  · exact World.ownsRow.kept h.own (row := some M2) ⟨rfl, rfl, rfl, by rw [heap_size_setCell]; exact Nat.le_refl _, fun k hk hk2 => hb k (fun e => hk2 (by rw [e]))⟩ (.inr h.ne.2)
theorem TSt.app {f g : Nat → Bool} {S N0 M2 : Nat} {w wx wy : World} {v v' : Value} {L : List ByteArray} {t : ByteArray} (h : TSt f S N0 M2 w v L g wx) (F : TFix S N0 M2 w) (ho : OwnS wy N0 v' (L ++ [t])) (hg : wx.grownBy wy v.ownBlock) : TSt f S N0 M2 w v' (L ++ [t]) g wy := by
  have h1 := h.set.grown hg h.ne.1
  have h2 := h.rest.grown hg h.ne.2
  have hbel : Below N0 wx wy := below_of_grown h.own (by have := h.bar.size; rw [F.n0] at this; exact this) hg
  refine ⟨h1, h2, ?_, h.bar.trans (Bar.of (by rw [F.n0]; exact hbel)), h.pow.below (hbel.mono (Nat.le_of_lt F.s0)), ho, apart_of ho (by simp) h1, apart_of ho (by simp) h2⟩
  obtain ⟨A, l, cap, a, e1, e2, e3⟩ := h.sty
  refine ⟨A, l, cap, a, by rw [hbel.block _ F.s0]; exact e1, e2, fun j hj => ?_⟩
  obtain ⟨gg, o, x, e, z1, z2, z3⟩ := e3 j hj
  exact ⟨gg, o, x, e, Nat.lt_of_lt_of_le z1 hbel.size, z2, by rw [hbel.cell (p := ⟨gg, o + j, none⟩) (Nat.lt_trans z2 F.s0)]; exact z3⟩
/-- the items in their last order -/
structure SSt (S N0 : Nat) (w : World) (g c : Nat) (L : List ByteArray) (wx : World) : Prop where
  sty : StyleAt wx S
  bar : Bar w.heap.size S w wx
  own : OwnS wx N0 (.slice (some ⟨g, 0, none⟩) L.length c) L
theorem swap_mem {α : Type} (L : List α) (i j : Nat) (hi : i < L.length) (hj : j < L.length) (p : α) : p ∈ (L.set i L[j]).set j L[i] ↔ p ∈ L := by
  constructor
  · intro h
    rcases List.mem_or_eq_of_mem_set h with h | rfl
    · rcases List.mem_or_eq_of_mem_set h with h | rfl
      · exact h
      · exact List.getElem_mem _
    · exact List.getElem_mem _
  · intro h
    obtain ⟨k, hk, rfl⟩ := List.mem_iff_getElem.1 h
    by_cases e : k = i
    · subst e
      exact List.mem_iff_getElem.2 ⟨j, by simpa using hj, by simp⟩
    · by_cases e2 : k = j
      · subst e2
        exact List.mem_iff_getElem.2 ⟨i, by simpa using hi, by simp [e]⟩
      · exact List.mem_iff_getElem.2 ⟨k, by simpa using hk, by simp [Ne.symm e, Ne.symm e2]⟩
theorem TSt.pack {f g : Nat → Bool} {S N0 M2 : Nat} {w wx : World} {v : Value} {L : List ByteArray} (h : TSt f S N0 M2 w v L g wx) (F : TFix S N0 M2 w) (t : ByteArray) :
    (∀ o, OwnS (wx.alloc o) N0 v L) ∧ (∀ o, N0 ≤ (wx.alloc o).heap.size) ∧ (∀ o v' w', OwnS w' N0 v' (L ++ [t]) → (wx.alloc o).grownBy w' v.ownBlock → TSt f S N0 M2 w v' (L ++ [t]) g w') := by
  refine ⟨fun o => (h.low F (below_alloc _ _)).own, fun o => ?_, fun o v' w' ho hg => (h.low F (below_alloc wx o)).app F ho hg⟩
  have h1 := h.bar.size
  rw [F.n0] at h1
  have := heap_size_alloc wx o
  omega
theorem TSt.make {f : Nat → Bool} {S N0 : Nat} {w wc W : World} {v : Value} {L : List ByteArray} (I : ISt f S N0 w wc) (hb : Below wc.heap.size wc W) (ho : OwnS wc N0 v L) (ha : Apart v N0) (hr : SetAt W wc.heap.size f) : TSt f S N0 wc.heap.size w v L f W := by
  have J := I.low hb
  refine ⟨J.set, hr, J.sty, J.bar, J.pow, ho.kept hb, ha, fun e => ?_⟩
  have := (World.ownsRow.lt ho _ e).2
  omega
theorem SSt.swap {S N0 g c : Nat} {w wx : World} {L : List ByteArray} (h : SSt S N0 w g c L wx) (hS : S < N0) (hN : w.heap.size = N0) (i j : Nat) (hi : i < L.length) (hj : j < L.length) :
    SSt S N0 w g c ((L.set i L[j]).set j L[i]) ((wx.setCell ⟨g, i, none⟩ (.string L[j])).setCell ⟨g, j, none⟩ (.string L[i])) := by
  have hg : N0 ≤ g := (World.ownsRow.lt h.own g rfl).1
  have hb : ∀ wy k x, StyleAt wy S → Bar w.heap.size S w wy → StyleAt (wy.setCell ⟨g, k, none⟩ x) S ∧ Bar w.heap.size S w (wy.setCell ⟨g, k, none⟩ x) := fun wy k x hs hb =>
    ⟨hs.apart (by omega) _ _, hb.trans ⟨rfl, rfl, rfl, by rw [heap_size_setCell]; exact Nat.le_refl _, fun m hm _ => heap_setCell_other wy ⟨g, k, none⟩ m x (by simp; omega)⟩⟩
  have h1 := hb wx i (.string L[j]) h.sty h.bar
  have h2 := hb _ j (.string L[i]) h1.1 h1.2
  refine ⟨h2.1, h2.2, ?_⟩
  have o1 := (World.ownsRow.stored h.own i (.string L[j])).1
  have o2 := (World.ownsRow.stored o1 j (.string L[i])).1
  unfold OwnS
  have e : ((L.set i L[j]).set j L[i]).map Value.string = ((L.map Value.string).set i (.string L[j])).set j (.string L[i]) := by rw [List.map_set, List.map_set]
  rw [e]
  simpa using o2
theorem SSt.cell {S N0 g c : Nat} {w wx : World} {L : List ByteArray} (h : SSt S N0 w g c L wx) (i : Nat) (hi : i < L.length) : wx.cell? ⟨g, i, none⟩ = some (.string L[i]) := by
  have := World.ownsRow.cellAt (w := wx) (base := N0) (e := 9) (size := 1) (g := g) (n := L.length) (cap := c) (xs := L.map Value.string) h.own i (by omega)
  rw [this]
  simp [hi]
theorem SSt.loose {S N0 g c : Nat} {w wx : World} {L : List ByteArray} (h : SSt S N0 w g c L wx) (i : Nat) : wx.frozen? ⟨g, i, none⟩ = false := World.ownsRow.frozenAt h.own i
theorem SSt.drew {S N0 g c : Nat} {w wx : World} {L : List ByteArray} (h : SSt S N0 w g c L wx) : SSt S N0 w g c L wx.drew := ⟨h.sty.below (Below.refl _ _).drew, h.bar.drew, World.ownsRow.drew h.own⟩
theorem app_first {w4 w5 : World} {o : Obj} (hg : (w4.alloc o).grownBy w5 (Value.slice none 0 0).ownBlock) : Below w4.heap.size w4 w5 :=
  (below_alloc w4 o).trans (below_of_grown (World.ownsRow_nil (w4.alloc o) w4.heap.size 9 1) (by rw [heap_size_alloc]; omega) hg)
set_option maxHeartbeats 40000000 in
theorem itemTexts_any (f : Nat → Bool) (k S : Nat) (hk : k ≤ 5) (hf : SetK f k) (hne : ∃ u, f (1 + u) = true) (w : World) (h : StyleAt w S) (hp : PowS S w) :
    Calls Tryd.prog 24 #[.int .i64 (k : Int), setV f, .pointer (some ⟨S, 0, none⟩)] w fun e w' =>
      ∃ g c L, e = .returned (.slice (some ⟨g, 0, none⟩) L.length c) ∧ SlAt w' g L ∧ DoneT f k L ∧ StyleAt w' S ∧ Bar w.heap.size S w w' := by
  have hx := (bd_le k).1
  have hmm : (M.bdOf k).mn ≤ (M.bdOf k).mx := by rcases k with _ | _ | _ | _ | _ | k <;> simp [M.bdOf]
  have HF := Lib.hid hf
  have HNEF := Lib.hid hne
  obtain ⟨mn, hmn⟩ : ∃ n, (M.bdOf k).mn = n := ⟨_, rfl⟩
  obtain ⟨mx, hmx⟩ : ∃ n, (M.bdOf k).mx = n := ⟨_, rfl⟩
  have HLO : Hid (∀ w : World, Calls Tryd.prog 21 #[.int .i64 (k : Int)] w fun e w' => e = .returned (.int .i64 (mn : Int)) ∧ w = w') := Lib.hid (fun w => by have := low_any k hk w; rw [hmn] at this; exact this)
  have HHI : Hid (∀ w : World, Calls Tryd.prog 22 #[.int .i64 (k : Int)] w fun e w' => e = .returned (.int .i64 (mx : Int)) ∧ w = w') := Lib.hid (fun w => by have := high_any k hk w; rw [hmx] at this; exact this)
  have HIT : Hid (∀ (V : Nat) (W : World), mn ≤ V → V ≤ mx → f (1 + V) = true → StyleAt W S → PowS S W → Calls Tryd.prog 31 #[.int .i64 (k : Int), setV f, .int .i64 (V : Int), .pointer (some ⟨S, 0, none⟩)] W (ItemText f k V S W)) := Lib.hid (fun V W a b c d e => itemText_any f k V S hk (by omega) (by omega) c W d e)
  have HST : Hid (∀ W, StyleAt W S → PowS S W → Calls Tryd.prog 29 #[.int .i64 (k : Int), .pointer (some ⟨S, 0, none⟩)] W (StarText k S W)) := Lib.hid (fun W a b => starText_any k S hk W a b)
  have pk4 : ∀ W, StyleAt W S → Calls Tryd.prog 30 #[.pointer (some ⟨S, 0, none⟩), .int .i64 4] W (Picked S 4 W) := fun W hW => pick_any S 4 W hW (by omega) (by omega)
  have pk2 : ∀ W, StyleAt W S → Calls Tryd.prog 30 #[.pointer (some ⟨S, 0, none⟩), .int .i64 2] W (Picked S 2 W) := fun W hW => pick_any S 2 W hW (by omega) (by omega)
  have pk8 : ∀ W, StyleAt W S → Calls Tryd.prog 30 #[.pointer (some ⟨S, 0, none⟩), .int .i64 8] W (Picked S 8 W) := fun W hW => pick_any S 8 W hW (by omega) (by omega)
  have HMN := Lib.hid hmn
  have HMX := Lib.hid hmx
  rw [hmn, hmx] at hmm
  rw [hmx] at hx
  clear hmn hmx hf hne hk
  show Calls Tryd.prog 24 #[.int .i64 (k : Int), .agg (setL f).toArray, .pointer (some ⟨S, 0, none⟩)] w _
  have I0 : Hid (ISt f S w.heap.size w (w.alloc (.cells (setL f).toArray 27))) := Lib.hid ⟨SetAt.new w f _ rfl, h.below (below_alloc _ _), Bar.of (below_alloc _ _), hp.below ((below_alloc _ _).mono (Nat.le_of_lt h.lt))⟩
  have HSN : Hid (S < w.heap.size) := Lib.hid h.lt
  clear h hp
  go_enter Tryd.func24, Tryd.ntmps24
  go_upto_region 1 with fail
  generalize w.alloc (.cells (setL f).toArray 27) = w3 at *
  obtain ⟨N0, h0⟩ : ∃ n, w.heap.size = n := ⟨_, rfl⟩
  have H0 := Lib.hid h0
  rw [h0] at I0 HSN ⊢
  clear h0
  obtain ⟨z, hz⟩ : ∃ z, f 0 = z := ⟨_, rfl⟩
  have HZ := Lib.hid hz
  have c0 : w3.cell? ⟨N0, 0, none⟩ = some (.bool z) := by rw [← hz]; exact I0.out.set.cell 0 (by omega)
  clear hz
  go_upto_if 17 with fail
  clear c0
  go_cut [7] (fun s7 wx => ∃ v L, v = s7 ∧ Hid (OwnS wx N0 v L) ∧ Hid (Apart v N0) ∧ Hid (ISt f S N0 w wx) ∧ Hid (CovT f k L f mn))
  case first =>
    rcases z with _ | _
    · have HC := Lib.hid (CovT.start HF.out HZ.out HMN.out)
      go_wp2
      go_meet
      exact ⟨_, [], rfl, Lib.hid (OwnS.nil _ _), Lib.hid (fun e => by cases e), I0, HC⟩
    · have HC : Hid (∀ t, StarT k t → CovT f k [t] f mn) := Lib.hid fun t ht => CovT.startS HF.out HZ.out ht
      have HNES := Lib.hid (Nat.ne_of_gt HSN.out)
      go_wp2_with (first
        | (go_at_call 29; (with_reducible refine (HST.out _ I0.out.sty I0.out.pow).mono ?_); rintro e w4 ⟨t, rfl, ht, hs, hb⟩; replace I0 := Lib.hid (I0.out.on HNES.out hs hb); have HT := Lib.hid (HC.out t ht); have HSZ : Hid (∀ o, N0 ≤ (w4.alloc o).heap.size) := Lib.hid (fun o => (by have h1 := I0.out.bar.size; have h2 := H0.out; rw [heap_size_alloc]; omega)); clear ht hs hb)
        | (at_builtin; refine append_strG rfl _ _ rfl N0 _ [] rfl (OwnS.nil _ _) _ 1 t rfl (row_cell (alloc_at _ _ _ rfl) 0 _ rfl) (by decide) (HSZ.out _) ?_; intro v' w5 ho hg; have HO := Lib.hid ho; have HB := Lib.hid (app_first hg); clear ho hg)
        | fail)
      go_meet
      have I1 := Lib.hid (I0.out.low HB.out)
      exact ⟨_, [t], rfl, HO, Lib.hid (apart_of HO.out (by simp) I1.out.set), I1, HT⟩
  case rest =>
  clear I0 HST
  obtain ⟨v0, L0, rfl, HO, HA, I0, HC0⟩ := hcut
  have HSZ := Lib.hid (show N0 < wc.heap.size from I0.out.set.lt)
  have HTM := Lib.hid (fun W hb hr => TSt.make (W := W) I0.out hb HO.out HA.out hr)
  have HN1 : Hid (∀ cs, cs = (setL noneF).toArray → SetAt (wc.alloc (.cells cs 27)) wc.heap.size noneF) := Lib.hid fun cs e => SetAt.new wc noneF _ e
  have HFIX := Lib.hid (TFix.mk H0.out HSN.out HSZ.out : TFix S N0 wc.heap.size w)
  go_upto_region 5 with (first
    | (with_reducible refine wpList_set_load rfl _ rfl N0 f rfl I0.out.set ?_)
    | (refine wpList_set_store rfl _ _ rfl wc.heap.size noneF f (by kernel_rfl) (by kernel_rfl) (HN1.out _ zero_set) ?_; intro W hW; have HT := Lib.hid (HTM.out W (hW.bel (Nat.le_refl _) (below_alloc _ _)) hW.it); clear hW)
    | fail)
  clear HTM HN1 HSZ I0 HA HO
  obtain ⟨M2, hM2⟩ : ∃ m, wc.heap.size = m := ⟨_, rfl⟩
  rw [hM2] at HT HFIX ⊢
  clear hM2 wc
  go_wp2_with (go_at_call 21; (with_reducible refine (HLO.out _).mono ?_); rintro e w1 ⟨rfl, rfl⟩)
  go_loopw [7, 9] (fun v i wr => ∃ (vv : Value) (V : Nat) (L : List ByteArray) (g : Nat → Bool), vv = v ∧ i = .int .i64 (V : Int) ∧ mn ≤ V ∧ V ≤ mx + 1 ∧ Hid (TSt f S N0 M2 w vv L g wr) ∧ Hid (CovT f k L g V)) (fun _ i _ => 64 - (intOf i).toNat)
  case atStart => exact ⟨_, mn, L0, f, rfl, rfl, Nat.le_refl _, by omega, HT, HC0⟩
  case round =>
    clear HT HC0
    obtain ⟨vv, V, L, g, rfl, rfl, hV1, hV2, HT, HC⟩ := hrel
    by_cases hlt : V ≤ mx
    · have hVi : (V : Int) ≤ (mx : Int) := by omega
      have hV0 : (0 : Int) ≤ (V : Int) := by omega
      have hV63 : (V : Int) < 63 := by omega
      obtain ⟨gb, hgb⟩ : ∃ b, g (1 + V) = b := ⟨_, rfl⟩
      have c0 : wr.cell? ⟨N0, 0, none⟩ = some (.bool z) := by rw [← HZ.out]; exact HT.out.set.cell 0 (by omega)
      have c1 : wr.cell? ⟨M2, 1 + V, none⟩ = some (.bool gb) := by rw [← hgb]; exact HT.out.rest.cell (1 + V) (by omega)
      have HGB := Lib.hid hgb
      clear hgb
      go_upto_region 8 with (go_at_call 22; (with_reducible refine (HHI.out _).mono ?_); rintro e w1 ⟨rfl, rfl⟩)
      go_cut [46] (fun s46 wx => ∃ b : Bool, s46 = .bool b ∧ Hid ((b = true → gb = false ∨ z = true) ∧ (b = false → gb = true)) ∧ Hid (TSt f S N0 M2 w vv L g wx))
      case first =>
        rcases gb with _ | _
        · go_wp2
          go_meet
          exact ⟨true, rfl, Lib.hid ⟨by simp, by simp⟩, HT⟩
        · rcases z with _ | _
          · go_wp2
            go_meet
            exact ⟨false, rfl, Lib.hid ⟨by simp, by simp⟩, HT⟩
          · go_wp2_with (go_at_call 30; (with_reducible refine (pk4 _ HT.out.sty).mono ?_); rintro e w4 ⟨q, rfl, hq, hs, hb⟩; replace HT := Lib.hid (HT.out.on HFIX.out hs hb); clear hs hb)
            go_meet
            exact ⟨_, rfl, Lib.hid ⟨by simp, by simp⟩, HT⟩
      case rest =>
        clear HT c0 c1
        obtain ⟨b, rfl, HB, HT⟩ := hcut
        rcases b with _ | _
        rotate_left
        · have HC2 := Lib.hid (HC.out.skip (by
            rcases HB.out.1 rfl with e | e
            · left; rw [HGB.out]; exact e
            · right; rw [HZ.out]; exact e))
          go_wp2
          go_roundw
          case rel => exact ⟨_, V + 1, L, g, rfl, by go_num, by omega, by omega, HT, HC2⟩
          case measure => simp [intOf]; omega
        · have HFV := Lib.hid (HC.out.sub V (by rw [HGB.out]; exact HB.out.2 rfl))
          clear HB HGB
          go_upto_block 2 with (first
            | (with_reducible refine wpList_set_load rfl _ rfl N0 f rfl HT.out.set ?_)
            | (go_at_call 31; (with_reducible refine (HIT.out V _ hV1 hlt HFV.out HT.out.sty HT.out.pow).mono ?_); rintro e w4 ⟨t, last, st, rfl, ht, hs, hb⟩; replace HT := Lib.hid (HT.out.on HFIX.out hs hb); have HI := Lib.hid ht; have st1 := ht.st1; have st2 := ht.st2; have hlo := ht.lo; have hhi := ht.hi; rw [HMX.out] at hhi; clear ht hs hb)
            | fail)
          go_cut [13] (fun s13 wx => ∃ (x : Nat) (h : Nat → Bool), s13 = .int .i64 (x : Int) ∧ last < x ∧ Hid (TSt f S N0 M2 w vv L h wx) ∧ Hid (CutT g V last st h x))
          case first =>
            go_wp2
            go_loopw [13] (fun i wr => ∃ (x : Nat) (h : Nat → Bool), i = .int .i64 (x : Int) ∧ x ≤ 80 ∧ Hid (TSt f S N0 M2 w vv L h wr) ∧ Hid (CutT g V last st h x)) (fun i _ => 90 - (intOf i).toNat)
            case atStart => exact ⟨V, g, rfl, by omega, HT, Lib.hid (CutT.start g V last st)⟩
            case round =>
              clear HT
              obtain ⟨x, h, rfl, hx80, HT, HK⟩ := hrel
              by_cases hxl : x ≤ last
              · have hxi : (x : Int) ≤ (last : Int) := by omega
                have hx0 : (0 : Int) ≤ (x : Int) := by omega
                have hx63 : (x : Int) < 63 := by omega
                obtain ⟨y, hy⟩ : ∃ y, h (1 + x) = y := ⟨_, rfl⟩
                have c1 : wr.cell? ⟨M2, 1 + x, none⟩ = some (.bool y) := by rw [← hy]; exact HT.out.rest.cell (1 + x) (by omega)
                have l1 : wr.frozen? ⟨M2, 1 + x, none⟩ = false := HT.out.rest.loose _
                have HT2 := Lib.hid (HT.out.put HFIX.out (x := x) (by omega))
                have HK2 := Lib.hid (HK.out.step hxl st1)
                clear hy
                go_wp2
                go_roundw
                case rel => exact ⟨x + st, _, by go_num, by omega, HT2, HK2⟩
                case measure => simp [intOf]; omega
              · have hxi : ¬ (x : Int) ≤ (last : Int) := by omega
                go_wp2
                go_meet
                exact ⟨x, h, rfl, by omega, HT, HK⟩
          case rest =>
            clear HT
            obtain ⟨x, h, rfl, hxl, HT, HK⟩ := hcut
            have HP := Lib.hid (HT.out.pack HFIX.out t)
            have HLEN : Hid (L.length < 1099511627776) := Lib.hid (by have := HC.out.len; omega)
            have HLEN2 : Hid ((L ++ [t]).length < 1099511627776) := Lib.hid (by have := HC.out.len; simp; omega)
            have HC1 : Hid (∀ L', (∀ p, p ∈ L' ↔ p ∈ L ∨ p = t) → L'.length ≤ L.length + 2 → CovT f k L' h (V + 1)) := Lib.hid fun L' a b => HC.out.add HK.out hxl HI.out a b
            clear HC HK HI HFV HT
            go_wp2_with (first
              | (at_builtin; refine append_strG rfl _ _ rfl N0 _ L rfl (HP.out.1 _) _ 1 t rfl (row_cell (alloc_at _ _ _ rfl) 0 _ rfl) HLEN.out (HP.out.2.1 _) ?_; intro v' w5 ho hg; have HT := Lib.hid (HP.out.2.2 _ _ _ ho hg); clear ho hg)
              | (go_at_call 30; (with_reducible refine (pk8 _ HT.out.sty).mono ?_); rintro e w6 ⟨q, rfl, hq, hs, hb⟩; replace HT := Lib.hid (HT.out.on HFIX.out hs hb); have HP2 := Lib.hid (HT.out.pack HFIX.out t); clear hs hb hq)
              | (at_builtin; refine append_strG rfl _ _ rfl N0 _ (L ++ [t]) rfl (HP2.out.1 _) _ 1 t rfl (row_cell (alloc_at _ _ _ rfl) 0 _ rfl) HLEN2.out (HP2.out.2.1 _) ?_; intro v' w5 ho hg; have HT2 := Lib.hid (HP2.out.2.2 _ _ _ ho hg); clear ho hg)
              | fail)
            all_goals go_roundw
            case rel => exact ⟨_, V + 1, _, h, rfl, by go_num, by omega, by omega, HT2, Lib.hid (HC1.out _ (by simp) (by simp))⟩
            case measure => simp [intOf]; omega
            case rel => exact ⟨_, V + 1, _, h, rfl, by go_num, by omega, by omega, HT, Lib.hid (HC1.out _ (by simp) (by simp))⟩
            case measure => simp [intOf]; omega
    · have hVi : ¬ (V : Int) ≤ (mx : Int) := by omega
      have hVe : V = mx + 1 := by omega
      have HD := Lib.hid (HC.out.done HF.out (by rw [HMX.out]; omega) (by omega))
      have hL : L ≠ [] := by
        rintro rfl
        obtain ⟨u, hu⟩ := HNEF.out
        obtain ⟨p, hp, -⟩ := HD.out.cov u hu
        cases hp
      have hLn : L.length ≤ 130 := HD.out.len
      obtain ⟨gg, c, rfl, -⟩ := HT.out.own.at hL
      have HS := Lib.hid (SSt.mk HT.out.sty HT.out.bar HT.out.own : SSt S N0 w gg c L wr)
      obtain ⟨n, hn⟩ : ∃ n, L.length = n := ⟨_, rfl⟩
      have HN := Lib.hid hn
      rw [hn] at hLn ⊢
      have hL0 : 1 ≤ n := by rw [← hn]; exact List.length_pos_iff.2 hL
      clear HC HT hn hL hVe
      go_wp2_with (go_at_call 22; (with_reducible refine (HHI.out _).mono ?_); rintro e w1 ⟨rfl, rfl⟩)
      go_loopw [79] (fun i wr => ∃ (j : Nat) (L' : List ByteArray), i = .int .i64 (j : Int) ∧ j ≤ n ∧ L'.length = n ∧ Hid (SSt S N0 w gg c L' wr) ∧ Hid (∀ p, p ∈ L' ↔ p ∈ L)) (fun i _ => n - (intOf i).toNat)
      case atStart => exact ⟨0, L, rfl, Nat.zero_le _, HN.out, HS, Lib.hid fun p => Iff.rfl⟩
      case round =>
        clear HS
        obtain ⟨j, L', rfl, hj, hL', HS, HM⟩ := hrel
        by_cases hjn : j < n
        · have hji : (j : Int) < (n : Int) := by omega
          have hj0 : (0 : Int) ≤ (j : Int) := by omega
          have pkj : ∀ W, StyleAt W S → Calls Tryd.prog 30 #[.pointer (some ⟨S, 0, none⟩), .int .i64 ((j : Int) + 1)] W (Picked S (j + 1) W) := fun W hW => pick_any S (j + 1) W hW (by omega) (by omega)
          have HON : Hid (∀ wa wb, SSt S N0 w gg c L' wa → StyleAt wb S → Bar wa.heap.size S wa wb → SSt S N0 w gg c L' wb) := Lib.hid fun wa wb a b d => ⟨b, a.bar.up d, a.own.bar HSN.out d⟩
          go_upto_region 22 with (first
            | (go_at_call 30; (with_reducible refine (pkj _ HS.out.sty).mono ?_); rintro e w6 ⟨q, rfl, hq, hs, hb⟩; replace HS := Lib.hid (HON.out _ _ HS.out hs hb); clear hs hb)
            | (go_at_call 30; (with_reducible refine (pk2 _ HS.out.sty).mono ?_); rintro e w7 ⟨y, rfl, hy, hs, hb⟩; replace HS := Lib.hid (HON.out _ _ HS.out hs hb); clear hs hb)
            | fail)
          rotate_left
          · go_roundw
            case rel => exact ⟨j + 1, L', by go_num, hjn, hL', HS, HM⟩
            case measure => simp [intOf]; omega
          · have hq1 : q < L'.length := by omega
            have hj1 : j < L'.length := by omega
            obtain ⟨aq, haq⟩ : ∃ a, L'[q] = a := ⟨_, rfl⟩
            obtain ⟨aj, haj⟩ : ∃ a, L'[j] = a := ⟨_, rfl⟩
            have hqi : (q : Int) < (n : Int) := by omega
            have hq0 : (0 : Int) ≤ (q : Int) := by omega
            have cq : w7.cell? ⟨gg, q, none⟩ = some (.string aq) := by rw [← haq]; exact HS.out.cell q hq1
            have cj : w7.cell? ⟨gg, j, none⟩ = some (.string aj) := by rw [← haj]; exact HS.out.cell j hj1
            have fq : w7.frozen? ⟨gg, q, none⟩ = false := HS.out.loose q
            have fj : w7.frozen? ⟨gg, j, none⟩ = false := HS.out.loose j
            have HSW := Lib.hid (HS.out.swap HSN.out H0.out j q hj1 hq1).drew
            have HMM : Hid (∀ p, p ∈ (L'.set j L'[q]).set q L'[j] ↔ p ∈ L) := Lib.hid fun p => (swap_mem L' j q hj1 hq1 p).trans (HM.out p)
            have HLN : Hid (((L'.set j L'[q]).set q L'[j]).length = n) := Lib.hid (by simp [hL'])
            rw [haq, haj] at HSW HMM HLN
            clear HM HS HON
            by_cases eqj : q = j
            · subst eqj
              obtain rfl : aq = aj := haq.symm.trans haj
              clear haq haj
              go_region
              go_wp2
              go_roundw
              case rel => exact ⟨q + 1, _, by go_num, hjn, HLN.out, HSW, HMM⟩
              case measure => simp [intOf]; omega
            · clear haq haj
              go_region
              go_wp2
              go_roundw
              case rel => exact ⟨j + 1, _, by go_num, hjn, HLN.out, HSW, HMM⟩
              case measure => simp [intOf]; omega
        · have hji : ¬ (j : Int) < (n : Int) := by omega
          have hjn2 : j = n := by omega
          go_wp2
          go_ret
          have hown := HS.out.own
          obtain ⟨g', c', e, hsl⟩ := hown.at (by
            intro e
            rw [e] at hL'
            simp at hL'
            omega)
          rw [hL'] at e
          obtain ⟨rfl, rfl⟩ : gg = g' ∧ c = c' := by simpa using e
          exact ⟨gg, c, L', by rw [hL']; rfl, hsl, HD.out.perm HM.out (by rw [hL', HN.out]), HS.out.sty, HS.out.bar⟩
end Go.Proofs.YtjipjhpehfbpkaaDoor
