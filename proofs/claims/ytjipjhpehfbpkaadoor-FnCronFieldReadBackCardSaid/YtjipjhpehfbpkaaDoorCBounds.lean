/-
  package cron's bounds of the six fields; ZZItem, impl.CronItem.
-/
import Derived.Test.YtjipjhpehfbpkaaDoorCGetR
import Derived.Carry
namespace Go.Proofs.YtjipjhpehfbpkaaDoor
open Go.RowKit
set_option maxRecDepth 100000
set_option linter.unusedVariables false

namespace M
def monT : List (Bs × Nat) := [([106, 97, 110], 1), ([102, 101, 98], 2), ([109, 97, 114], 3), ([97, 112, 114], 4), ([109, 97, 121], 5), ([106, 117, 110], 6), ([106, 117, 108], 7), ([97, 117, 103], 8), ([115, 101, 112], 9), ([111, 99, 116], 10), ([110, 111, 118], 11), ([100, 101, 99], 12)]
def dowT : List (Bs × Nat) := [([115, 117, 110], 0), ([109, 111, 110], 1), ([116, 117, 101], 2), ([119, 101, 100], 3), ([116, 104, 117], 4), ([102, 114, 105], 5), ([115, 97, 116], 6)]
/-- the bounds of a field -/
def bdOf : Nat → Bd
  | 0 => ⟨0, 59, none⟩
  | 1 => ⟨0, 59, none⟩
  | 2 => ⟨0, 23, none⟩
  | 3 => ⟨1, 31, none⟩
  | 4 => ⟨1, 12, some (nmOf monT)⟩
  | _ => ⟨0, 6, some (nmOf dowT)⟩
end M
/-- an entry of a map's literal -/
theorem wpList_insert_own {P : Program} (w : World) {ops : Array Oper} {rest : List Oper} {o : Oper} {a : Act} {Q : Exit → Act → World → Prop}
    (hg : o.guard = none) (m x v : Operand) (t : TypeId) (hop : o.op = Op.insert t m x v)
    (k e : TypeId) (K : Maps.Keyed P k) (ht : P.underlying t = some (.map k e)) (R : Value → Option (DataW Unit × List MemPlace)) (b n : Nat) (D : DataW Unit)
    (hm : a.eval m = .map (some b)) (hown : w.ownsMap P k R b n D) (hn : n < maxLen) (key val : Value) (kl : Lit) (hx : a.eval x = key) (hv : a.eval v = val) (hkey : keyOf P k key = some kl)
    (d : DataW Unit) (ps : List MemPlace) (hval : R val = some (d, ps))
    (hK : ∀ w', w'.ownsMap P k R b (n + 1) (D.put kl d) → w.grownBy w' (some b) → wpList P ops Q rest (a.put o.dst undef) w') :
    wpList P ops Q (o :: rest) a w := by
  refine wpList_plain hg fun K' hK' => ?_
  obtain ⟨w', hrun, r1, r2⟩ := hown.update K ht hn hkey hval
  unfold Oper.wp
  simp [execOp, hop, hm, hx, hv, hrun, Result.andThen]
  exact hK' _ _ (hK w' r1 r2)
/-- what the bounds' functions hand back -/
def BdRes (b : M.Bd) (w : World) (e : Ending) (w' : World) : Prop :=
  ∃ v, e = .returned (.agg #[.int .u64 (b.mn : Int), .int .u64 (b.mx : Int), v]) ∧ Nm w' v b.nm ∧ Below w.heap.size w w'
theorem post_bd {fn : Func} {p : Tmp} (h : fn.results = #[.cell p 62]) {R : Ending → World → Prop} {a : Act} {w : World} (N : Nat) (x y : Int) (v : Value) (hd : a.defers = [])
    (hp : a.tmps.getD p undef = .pointer (some ⟨N, 0, none⟩)) (hat : w.heap[N]? = some (.cells #[.int .u64 x, .int .u64 y, v] 62 (0, 0))) (hR : R (.returned (.agg #[.int .u64 x, .int .u64 y, v])) w) : bodyPost Tryd.prog fn R .ret a w :=
  bodyPost_ret (results_cell_row h _ _ N _ _ (0, 0) _ hp hat Tryd.underlying62 rfl (by kernel_rfl)) hd hR
theorem row3_store {w : World} {N : Nat} {t : TypeId} {u0 u1 u2 : Value} (h : w.heap[N]? = some (.cells #[u0, u1, u2] t (0, 0))) (v0 v1 v2 : Value) :
    (((w.setCell ⟨N, 0, none⟩ v0).setCell ⟨N, 1, none⟩ v1).setCell ⟨N, 2, none⟩ v2).heap[N]? = some (.cells #[v0, v1, v2] t (0, 0)) := by
  have h0 := heap_setCell_same w N 0 _ _ v0 h
  have h1 := heap_setCell_same _ N 1 _ _ v1 h0
  have h2 := heap_setCell_same _ N 2 _ _ v2 h1
  simpa using h2
theorem loose3 {w : World} {N : Nat} {t : TypeId} {cs : Array Value} (h : w.heap[N]? = some (.cells cs t (0, 0))) (j : Nat) : w.frozen? ⟨N, j, none⟩ = false := by
  simp [World.frozen?, h]
theorem Nm.set {w : World} {v : Value} {nm : Option (M.Bs → Option Nat)} (h : Nm w v nm) {N : Nat} {t : TypeId} {cs : Array Value} {fz : Nat × Nat} (hN : w.heap[N]? = some (.cells cs t fz)) (j : Nat) (x : Value) : Nm (w.setCell ⟨N, j, none⟩ x) v nm := by
  rcases h with h | ⟨K, n, T, h1, h2, h3⟩
  · exact .inl h
  · refine .inr ⟨K, n, T, h1, h2, ?_⟩
    obtain ⟨es, clock, hb, F, hs, hD⟩ := h3
    have hne : K ≠ N := fun e => by subst e; rw [hb] at hN; cases hN
    exact ⟨es, clock, (heap_setCell_other w ⟨N, j, none⟩ K x hne).trans hb, F, hs, hD⟩
theorem seconds_any (w : World) : Calls Tryd.prog 35 #[] w (BdRes ⟨0, 59, none⟩ w) := by
  go_enter Tryd.func35, Tryd.ntmps35
  go_wp2
  refine post_bd rfl w.heap.size 0 59 (.map none) rfl rfl ?_ ⟨_, rfl, .inl ⟨rfl, rfl⟩, ?_⟩
  · exact alloc_at _ _ _ rfl
  · exact below_alloc _ _
theorem minutes_any (w : World) : Calls Tryd.prog 36 #[] w (BdRes ⟨0, 59, none⟩ w) := by
  go_enter Tryd.func36, Tryd.ntmps36
  go_wp2
  refine post_bd rfl w.heap.size 0 59 (.map none) rfl rfl ?_ ⟨_, rfl, .inl ⟨rfl, rfl⟩, ?_⟩
  · exact alloc_at _ _ _ rfl
  · exact below_alloc _ _
theorem hours_any (w : World) : Calls Tryd.prog 37 #[] w (BdRes ⟨0, 23, none⟩ w) := by
  go_enter Tryd.func37, Tryd.ntmps37
  go_wp2
  refine post_bd rfl w.heap.size 0 23 (.map none) rfl rfl ?_ ⟨_, rfl, .inl ⟨rfl, rfl⟩, ?_⟩
  · exact alloc_at _ _ _ rfl
  · exact below_alloc _ _
theorem dom_any (w : World) : Calls Tryd.prog 38 #[] w (BdRes ⟨1, 31, none⟩ w) := by
  go_enter Tryd.func38, Tryd.ntmps38
  go_wp2
  refine post_bd rfl w.heap.size 1 31 (.map none) rfl rfl ?_ ⟨_, rfl, .inl ⟨rfl, rfl⟩, ?_⟩
  · exact alloc_at _ _ _ rfl
  · exact below_alloc _ _
set_option maxHeartbeats 4000000 in
theorem months_any (w : World) : Calls Tryd.prog 39 #[] w (BdRes ⟨1, 12, some (M.nmOf M.monT)⟩ w) := by
  have hmm := @run_makeMap Tryd.prog
  have HX := Lib.hid (show ((w.alloc (.cells #[.int .u64 0, .int .u64 0, .map none] 62)).alloc (.map #[] 0)).heap[w.heap.size]? = some (.cells #[.int .u64 0, .int .u64 0, .map none] 62 (0, 0)) from heap_alloc_some (alloc_at _ _ _ rfl))
  have HB := Lib.hid (show Below w.heap.size w ((w.alloc (.cells #[.int .u64 0, .int .u64 0, .map none] 62)).alloc (.map #[] 0)) from below_alloc_on (by simp) (below_alloc _ _))
  have HO := Lib.hid (show ((w.alloc (.cells #[.int .u64 0, .int .u64 0, .map none] 62)).alloc (.map #[] 0)).ownsMap Tryd.prog 9 (plainElem (H := Unit) Tryd.prog 59) (w.heap.size + 1) 0 (.map []) from by
    have := World.ownsMap_made (H := Unit) (w.alloc (.cells #[.int .u64 0, .int .u64 0, .map none] 62)) Tryd.prog 9 (plainElem (H := Unit) Tryd.prog 59)
    simpa using this)
  obtain ⟨d0, d1, d2⟩ : (w.cell? ⟨0, 0, none⟩ = w.cell? ⟨0, 0, none⟩) ∧ (w.cell? ⟨0, 0, none⟩ = w.cell? ⟨0, 0, none⟩) ∧ (w.cell? ⟨0, 0, none⟩ = w.cell? ⟨0, 0, none⟩) := ⟨rfl, rfl, rfl⟩
  obtain ⟨l0, l1, l2⟩ : True ∧ True ∧ True := ⟨trivial, trivial, trivial⟩
  go_enter Tryd.func39, Tryd.ntmps39
  go_wp2_with (refine wpList_insert_own _ rfl _ _ _ 60 rfl 9 59 lawS Tryd.underlying60 _ (w.heap.size + 1) _ _ rfl HO.out (by decide) _ _ _ rfl rfl (WideMaps.keyOf_string_mk Tryd.underlying9 (by decide)) _ [] (plainElem_int Tryd.underlying59 (by decide)) ?_; intro wn hown hgr; have hx := (hgr.block w.heap.size (Array.getElem?_eq_some_iff.1 HX.out).1 (by simp)).trans HX.out; have hb := RowKit.Below.grown HB.out hgr HB.out.size (fun j hj => by cases hj; exact Nat.le_succ _); clear HO HX HB d0 d1 d2 l0 l1 l2; have HO := Lib.hid hown; have HX := Lib.hid hx; have HB := Lib.hid hb; have d0 := row_cell hx 0 _ rfl; have d1 := row_cell hx 1 _ rfl; have d2 := row_cell hx 2 _ rfl; have l0 := loose3 hx 0; have l1 := loose3 hx 1; have l2 := loose3 hx 2; clear hown hx hb hgr)
  have hst := row3_store HX.out (.int .u64 1) (.int .u64 12) (.map (some (w.heap.size + 1)))
  refine post_bd rfl w.heap.size 1 12 (.map (some (w.heap.size + 1))) rfl rfl hst ⟨_, rfl, ?_, ?_⟩
  · exact (((show Nm wn (.map (some (w.heap.size + 1))) (some (M.nmOf M.monT)) from .inr ⟨_, _, M.monT, rfl, rfl, HO.out⟩).set HX.out 0 _).set (heap_setCell_same wn w.heap.size 0 _ _ _ HX.out) 1 _).set (heap_setCell_same _ w.heap.size 1 _ _ _ (heap_setCell_same wn w.heap.size 0 _ _ _ HX.out)) 2 _
  · exact ((HB.out.setCell (Nat.le_refl _) _).setCell (Nat.le_refl _) _).setCell (Nat.le_refl _) _
set_option maxHeartbeats 4000000 in
theorem dow_any (w : World) : Calls Tryd.prog 40 #[] w (BdRes ⟨0, 6, some (M.nmOf M.dowT)⟩ w) := by
  have hmm := @run_makeMap Tryd.prog
  have HX := Lib.hid (show ((w.alloc (.cells #[.int .u64 0, .int .u64 0, .map none] 62)).alloc (.map #[] 0)).heap[w.heap.size]? = some (.cells #[.int .u64 0, .int .u64 0, .map none] 62 (0, 0)) from heap_alloc_some (alloc_at _ _ _ rfl))
  have HB := Lib.hid (show Below w.heap.size w ((w.alloc (.cells #[.int .u64 0, .int .u64 0, .map none] 62)).alloc (.map #[] 0)) from below_alloc_on (by simp) (below_alloc _ _))
  have HO := Lib.hid (show ((w.alloc (.cells #[.int .u64 0, .int .u64 0, .map none] 62)).alloc (.map #[] 0)).ownsMap Tryd.prog 9 (plainElem (H := Unit) Tryd.prog 59) (w.heap.size + 1) 0 (.map []) from by
    have := World.ownsMap_made (H := Unit) (w.alloc (.cells #[.int .u64 0, .int .u64 0, .map none] 62)) Tryd.prog 9 (plainElem (H := Unit) Tryd.prog 59)
    simpa using this)
  obtain ⟨d0, d1, d2⟩ : (w.cell? ⟨0, 0, none⟩ = w.cell? ⟨0, 0, none⟩) ∧ (w.cell? ⟨0, 0, none⟩ = w.cell? ⟨0, 0, none⟩) ∧ (w.cell? ⟨0, 0, none⟩ = w.cell? ⟨0, 0, none⟩) := ⟨rfl, rfl, rfl⟩
  obtain ⟨l0, l1, l2⟩ : True ∧ True ∧ True := ⟨trivial, trivial, trivial⟩
  go_enter Tryd.func40, Tryd.ntmps40
  go_wp2_with (refine wpList_insert_own _ rfl _ _ _ 60 rfl 9 59 lawS Tryd.underlying60 _ (w.heap.size + 1) _ _ rfl HO.out (by decide) _ _ _ rfl rfl (WideMaps.keyOf_string_mk Tryd.underlying9 (by decide)) _ [] (plainElem_int Tryd.underlying59 (by decide)) ?_; intro wn hown hgr; have hx := (hgr.block w.heap.size (Array.getElem?_eq_some_iff.1 HX.out).1 (by simp)).trans HX.out; have hb := RowKit.Below.grown HB.out hgr HB.out.size (fun j hj => by cases hj; exact Nat.le_succ _); clear HO HX HB d0 d1 d2 l0 l1 l2; have HO := Lib.hid hown; have HX := Lib.hid hx; have HB := Lib.hid hb; have d0 := row_cell hx 0 _ rfl; have d1 := row_cell hx 1 _ rfl; have d2 := row_cell hx 2 _ rfl; have l0 := loose3 hx 0; have l1 := loose3 hx 1; have l2 := loose3 hx 2; clear hown hx hb hgr)
  have hst := row3_store HX.out (.int .u64 0) (.int .u64 6) (.map (some (w.heap.size + 1)))
  refine post_bd rfl w.heap.size 0 6 (.map (some (w.heap.size + 1))) rfl rfl hst ⟨_, rfl, ?_, ?_⟩
  · exact (((show Nm wn (.map (some (w.heap.size + 1))) (some (M.nmOf M.dowT)) from .inr ⟨_, _, M.dowT, rfl, rfl, HO.out⟩).set HX.out 0 _).set (heap_setCell_same wn w.heap.size 0 _ _ _ HX.out) 1 _).set (heap_setCell_same _ w.heap.size 1 _ _ _ (heap_setCell_same wn w.heap.size 0 _ _ _ HX.out)) 2 _
  · exact ((HB.out.setCell (Nat.le_refl _) _).setCell (Nat.le_refl _) _).setCell (Nat.le_refl _) _
theorem Nm.map {w : World} {v : Value} {nm : Option (M.Bs → Option Nat)} (h : Nm w v nm) : ∃ r : Option Nat, v = .map r := by
  rcases h with ⟨h, _⟩ | ⟨N, n, T, h, _⟩
  · exact ⟨none, h⟩
  · exact ⟨some N, h⟩
theorem Nm.set3 {w : World} {v : Value} {nm : Option (M.Bs → Option Nat)} (h : Nm w v nm) {N : Nat} {t : TypeId} {u0 u1 u2 : Value} (hN : w.heap[N]? = some (.cells #[u0, u1, u2] t (0, 0))) (v0 v1 v2 : Value) :
    Nm (((w.setCell ⟨N, 0, none⟩ v0).setCell ⟨N, 1, none⟩ v1).setCell ⟨N, 2, none⟩ v2) v nm :=
  ((h.set hN 0 _).set (heap_setCell_same w N 0 _ _ _ hN) 1 _).set (heap_setCell_same _ N 1 _ _ _ (heap_setCell_same w N 0 _ _ _ hN)) 2 _
theorem seconds_c (w : World) : Calls Tryd.prog 35 #[] w fun e w' => ∃ r : Option Nat, e = .returned (.agg #[.int .u64 0, .int .u64 59, .map r]) ∧ Nm w' (.map r) none ∧ Below w.heap.size w w' := (seconds_any w).mono fun e w' ⟨v, he, hn, hb⟩ => by obtain ⟨r, rfl⟩ := hn.map; exact ⟨r, he, hn, hb⟩
theorem minutes_c (w : World) : Calls Tryd.prog 36 #[] w fun e w' => ∃ r : Option Nat, e = .returned (.agg #[.int .u64 0, .int .u64 59, .map r]) ∧ Nm w' (.map r) none ∧ Below w.heap.size w w' := (minutes_any w).mono fun e w' ⟨v, he, hn, hb⟩ => by obtain ⟨r, rfl⟩ := hn.map; exact ⟨r, he, hn, hb⟩
theorem hours_c (w : World) : Calls Tryd.prog 37 #[] w fun e w' => ∃ r : Option Nat, e = .returned (.agg #[.int .u64 0, .int .u64 23, .map r]) ∧ Nm w' (.map r) none ∧ Below w.heap.size w w' := (hours_any w).mono fun e w' ⟨v, he, hn, hb⟩ => by obtain ⟨r, rfl⟩ := hn.map; exact ⟨r, he, hn, hb⟩
theorem dom_c (w : World) : Calls Tryd.prog 38 #[] w fun e w' => ∃ r : Option Nat, e = .returned (.agg #[.int .u64 1, .int .u64 31, .map r]) ∧ Nm w' (.map r) none ∧ Below w.heap.size w w' := (dom_any w).mono fun e w' ⟨v, he, hn, hb⟩ => by obtain ⟨r, rfl⟩ := hn.map; exact ⟨r, he, hn, hb⟩
theorem months_c (w : World) : Calls Tryd.prog 39 #[] w fun e w' => ∃ r : Option Nat, e = .returned (.agg #[.int .u64 1, .int .u64 12, .map r]) ∧ Nm w' (.map r) (some (M.nmOf M.monT)) ∧ Below w.heap.size w w' := (months_any w).mono fun e w' ⟨v, he, hn, hb⟩ => by obtain ⟨r, rfl⟩ := hn.map; exact ⟨r, he, hn, hb⟩
theorem dow_c (w : World) : Calls Tryd.prog 40 #[] w fun e w' => ∃ r : Option Nat, e = .returned (.agg #[.int .u64 0, .int .u64 6, .map r]) ∧ Nm w' (.map r) (some (M.nmOf M.dowT)) ∧ Below w.heap.size w w' := (dow_any w).mono fun e w' ⟨v, he, hn, hb⟩ => by obtain ⟨r, rfl⟩ := hn.map; exact ⟨r, he, hn, hb⟩
theorem zzBounds_0 (w : World) : Calls Tryd.prog 26 #[.int .i64 0] w fun e w' => ∃ v, e = .returned (.agg #[.int .u64 0, .int .u64 59, v]) ∧ Nm w' v none ∧ Below w.heap.size w w' := by
  go_enter Tryd.func26, Tryd.ntmps26
  go_wp2_with (go_at_call 35; (with_reducible refine (seconds_c _).mono ?_); rintro e w1 ⟨r, rfl, hnm, hb⟩; have hx := heap_below hb (alloc_at w (.cells #[.int .u64 0, .int .u64 0, .map none] 62) _ rfl); have d0 := row_cell hx 0 _ rfl; have d1 := row_cell hx 1 _ rfl; have d2 := row_cell hx 2 _ rfl; have l0 := loose3 hx 0; have l1 := loose3 hx 1; have l2 := loose3 hx 2; have HN := Lib.hid hnm; have HX := Lib.hid hx; have HB := Lib.hid (Below.up (below_alloc _ _) hb); clear hnm hx hb)
  exact post_bd rfl w.heap.size 0 59 (.map r) rfl rfl (row3_store HX.out _ _ _) ⟨_, rfl, HN.out.set3 HX.out _ _ _, ((HB.out.setCell (Nat.le_refl _) _).setCell (Nat.le_refl _) _).setCell (Nat.le_refl _) _⟩
theorem zzBounds_1 (w : World) : Calls Tryd.prog 26 #[.int .i64 1] w fun e w' => ∃ v, e = .returned (.agg #[.int .u64 0, .int .u64 59, v]) ∧ Nm w' v none ∧ Below w.heap.size w w' := by
  go_enter Tryd.func26, Tryd.ntmps26
  go_wp2_with (go_at_call 36; (with_reducible refine (minutes_c _).mono ?_); rintro e w1 ⟨r, rfl, hnm, hb⟩; have hx := heap_below hb (alloc_at w (.cells #[.int .u64 0, .int .u64 0, .map none] 62) _ rfl); have d0 := row_cell hx 0 _ rfl; have d1 := row_cell hx 1 _ rfl; have d2 := row_cell hx 2 _ rfl; have l0 := loose3 hx 0; have l1 := loose3 hx 1; have l2 := loose3 hx 2; have HN := Lib.hid hnm; have HX := Lib.hid hx; have HB := Lib.hid (Below.up (below_alloc _ _) hb); clear hnm hx hb)
  exact post_bd rfl w.heap.size 0 59 (.map r) rfl rfl (row3_store HX.out _ _ _) ⟨_, rfl, HN.out.set3 HX.out _ _ _, ((HB.out.setCell (Nat.le_refl _) _).setCell (Nat.le_refl _) _).setCell (Nat.le_refl _) _⟩
theorem zzBounds_2 (w : World) : Calls Tryd.prog 26 #[.int .i64 2] w fun e w' => ∃ v, e = .returned (.agg #[.int .u64 0, .int .u64 23, v]) ∧ Nm w' v none ∧ Below w.heap.size w w' := by
  go_enter Tryd.func26, Tryd.ntmps26
  go_wp2_with (go_at_call 37; (with_reducible refine (hours_c _).mono ?_); rintro e w1 ⟨r, rfl, hnm, hb⟩; have hx := heap_below hb (alloc_at w (.cells #[.int .u64 0, .int .u64 0, .map none] 62) _ rfl); have d0 := row_cell hx 0 _ rfl; have d1 := row_cell hx 1 _ rfl; have d2 := row_cell hx 2 _ rfl; have l0 := loose3 hx 0; have l1 := loose3 hx 1; have l2 := loose3 hx 2; have HN := Lib.hid hnm; have HX := Lib.hid hx; have HB := Lib.hid (Below.up (below_alloc _ _) hb); clear hnm hx hb)
  exact post_bd rfl w.heap.size 0 23 (.map r) rfl rfl (row3_store HX.out _ _ _) ⟨_, rfl, HN.out.set3 HX.out _ _ _, ((HB.out.setCell (Nat.le_refl _) _).setCell (Nat.le_refl _) _).setCell (Nat.le_refl _) _⟩
theorem zzBounds_3 (w : World) : Calls Tryd.prog 26 #[.int .i64 3] w fun e w' => ∃ v, e = .returned (.agg #[.int .u64 1, .int .u64 31, v]) ∧ Nm w' v none ∧ Below w.heap.size w w' := by
  go_enter Tryd.func26, Tryd.ntmps26
  go_wp2_with (go_at_call 38; (with_reducible refine (dom_c _).mono ?_); rintro e w1 ⟨r, rfl, hnm, hb⟩; have hx := heap_below hb (alloc_at w (.cells #[.int .u64 0, .int .u64 0, .map none] 62) _ rfl); have d0 := row_cell hx 0 _ rfl; have d1 := row_cell hx 1 _ rfl; have d2 := row_cell hx 2 _ rfl; have l0 := loose3 hx 0; have l1 := loose3 hx 1; have l2 := loose3 hx 2; have HN := Lib.hid hnm; have HX := Lib.hid hx; have HB := Lib.hid (Below.up (below_alloc _ _) hb); clear hnm hx hb)
  exact post_bd rfl w.heap.size 1 31 (.map r) rfl rfl (row3_store HX.out _ _ _) ⟨_, rfl, HN.out.set3 HX.out _ _ _, ((HB.out.setCell (Nat.le_refl _) _).setCell (Nat.le_refl _) _).setCell (Nat.le_refl _) _⟩
theorem zzBounds_4 (w : World) : Calls Tryd.prog 26 #[.int .i64 4] w fun e w' => ∃ v, e = .returned (.agg #[.int .u64 1, .int .u64 12, v]) ∧ Nm w' v (some (M.nmOf M.monT)) ∧ Below w.heap.size w w' := by
  go_enter Tryd.func26, Tryd.ntmps26
  go_wp2_with (go_at_call 39; (with_reducible refine (months_c _).mono ?_); rintro e w1 ⟨r, rfl, hnm, hb⟩; have hx := heap_below hb (alloc_at w (.cells #[.int .u64 0, .int .u64 0, .map none] 62) _ rfl); have d0 := row_cell hx 0 _ rfl; have d1 := row_cell hx 1 _ rfl; have d2 := row_cell hx 2 _ rfl; have l0 := loose3 hx 0; have l1 := loose3 hx 1; have l2 := loose3 hx 2; have HN := Lib.hid hnm; have HX := Lib.hid hx; have HB := Lib.hid (Below.up (below_alloc _ _) hb); clear hnm hx hb)
  exact post_bd rfl w.heap.size 1 12 (.map r) rfl rfl (row3_store HX.out _ _ _) ⟨_, rfl, HN.out.set3 HX.out _ _ _, ((HB.out.setCell (Nat.le_refl _) _).setCell (Nat.le_refl _) _).setCell (Nat.le_refl _) _⟩
theorem zzBounds_5 (w : World) : Calls Tryd.prog 26 #[.int .i64 5] w fun e w' => ∃ v, e = .returned (.agg #[.int .u64 0, .int .u64 6, v]) ∧ Nm w' v (some (M.nmOf M.dowT)) ∧ Below w.heap.size w w' := by
  go_enter Tryd.func26, Tryd.ntmps26
  go_wp2_with (go_at_call 40; (with_reducible refine (dow_c _).mono ?_); rintro e w1 ⟨r, rfl, hnm, hb⟩; have hx := heap_below hb (alloc_at w (.cells #[.int .u64 0, .int .u64 0, .map none] 62) _ rfl); have d0 := row_cell hx 0 _ rfl; have d1 := row_cell hx 1 _ rfl; have d2 := row_cell hx 2 _ rfl; have l0 := loose3 hx 0; have l1 := loose3 hx 1; have l2 := loose3 hx 2; have HN := Lib.hid hnm; have HX := Lib.hid hx; have HB := Lib.hid (Below.up (below_alloc _ _) hb); clear hnm hx hb)
  exact post_bd rfl w.heap.size 0 6 (.map r) rfl rfl (row3_store HX.out _ _ _) ⟨_, rfl, HN.out.set3 HX.out _ _ _, ((HB.out.setCell (Nat.le_refl _) _).setCell (Nat.le_refl _) _).setCell (Nat.le_refl _) _⟩
theorem zzBounds_any (k : Nat) (hk : k ≤ 5) (w : World) : Calls Tryd.prog 26 #[.int .i64 (k : Int)] w fun e w' => ∃ v, e = .returned (.agg #[.int .u64 ((M.bdOf k).mn : Int), .int .u64 ((M.bdOf k).mx : Int), v]) ∧ Nm w' v (M.bdOf k).nm ∧ Below w.heap.size w w' := by
  rcases k with _ | _ | _ | _ | _ | _ | k
  · exact zzBounds_0 w
  · exact zzBounds_1 w
  · exact zzBounds_2 w
  · exact zzBounds_3 w
  · exact zzBounds_4 w
  · exact zzBounds_5 w
  · omega
theorem bd_le (k : Nat) : (M.bdOf k).mx ≤ 62 ∧ (M.bdOf k).mn ≤ 62 := by
  rcases k with _ | _ | _ | _ | _ | k
  all_goals first | exact ⟨by decide, by decide⟩ | exact ⟨(by show (6 : Nat) ≤ 62; omega), (by show (0 : Nat) ≤ 62; omega)⟩
theorem getRange_some (s : ByteArray) (b : M.Bd) (v : Value) (n : Nat) (w : World) (hs : s.size ≤ 2147483647) (hm : b.mx ≤ 62) (hm2 : b.mn ≤ 62) (hn : NumErrs w) (hv : Nm w v b.nm) (ho : Hid (M.item b (M.bs s) = some n)) :
    Calls Tryd.prog 34 #[.string s, .agg #[.int .u64 (b.mn : Int), .int .u64 (b.mx : Int), v]] w fun e w' => e = .returned (.tuple #[.int .u64 (n : Int), .nilIface]) ∧ Below w.heap.size w w' := getRange_any s b v _ w hs hm hm2 hn hv ho
theorem getRange_none (s : ByteArray) (b : M.Bd) (v : Value) (w : World) (hs : s.size ≤ 2147483647) (hm : b.mx ≤ 62) (hm2 : b.mn ≤ 62) (hn : NumErrs w) (hv : Nm w v b.nm) (ho : Hid (M.item b (M.bs s) = none)) :
    Calls Tryd.prog 34 #[.string s, .agg #[.int .u64 (b.mn : Int), .int .u64 (b.mx : Int), v]] w fun e w' => (∃ t u, e = .returned (.tuple #[.int .u64 0, .iface t u])) ∧ Below w.heap.size w w' := getRange_any s b v _ w hs hm hm2 hn hv ho
theorem bits_some (n : Int) (w : World) : Calls Tryd.prog 15 #[.int .u64 n, .nilIface] w fun e w' => e = .returned (.tuple #[.int .u64 n, .bool true]) ∧ w = w' := by
  go_enter Tryd.func15, Tryd.ntmps15
  go_wp2
  go_ret2
  exact ⟨rfl, rfl⟩
theorem bits_none (t : TypeId) (v : Value) (w : World) : Calls Tryd.prog 15 #[.int .u64 0, .iface t v] w fun e w' => e = .returned (.tuple #[.int .u64 0, .bool false]) ∧ w = w' := by
  go_enter Tryd.func15, Tryd.ntmps15
  go_wp2
  go_ret2
  exact ⟨rfl, rfl⟩
end Go.Proofs.YtjipjhpehfbpkaaDoor
