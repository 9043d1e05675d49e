/-
  Setting a version's metadata.
-/
import Derived.Test.YtopaileliohpdaaDoorText
import Derived.Laws.ResultCell
namespace Go.Proofs.YtopaileliohpdaaDoor
open Go.RowKit
set_option maxRecDepth 100000
set_option linter.unusedVariables false

theorem text_size (x : V) (hu : x.u64) : x.text.size ≤ 64 + x.p.size + x.m.size := by
  have da := dec_size hu.1
  have db := dec_size hu.2.1
  have dc := dec_size hu.2.2
  have s1 : (⟨#[46]⟩ : ByteArray).size = 1 := rfl
  have s2 : (⟨#[45]⟩ : ByteArray).size = 1 := rfl
  have s3 : (⟨#[43]⟩ : ByteArray).size = 1 := rfl
  have hn : x.nums.size ≤ 62 := by unfold V.nums; rw [ByteArray.size_append, ByteArray.size_append, ByteArray.size_append, ByteArray.size_append]; omega
  unfold V.text
  by_cases h1 : x.p.toList.isEmpty = true <;> by_cases h2 : x.m.toList.isEmpty = true <;> simp only [h1, h2, if_true, if_false, Bool.false_eq_true, ByteArray.size_append] <;> omega

theorem AtV.loose {w : World} {N : Nat} {x : V} {o : ByteArray} (h : AtV w N x o) (j : Nat) : w.frozen? ⟨N, j, none⟩ = false := by
  unfold AtV V.cells at h
  simp [World.frozen?, h]

theorem AtV.store6 {w : World} {N : Nat} {x : V} {o : ByteArray} (h : AtV w N x o) (y : V) (o' : ByteArray) :
    AtV ((((((w.setCell ⟨N, 0, none⟩ (.int .u64 y.a)).setCell ⟨N, 1, none⟩ (.int .u64 y.b)).setCell ⟨N, 2, none⟩ (.int .u64 y.c)).setCell ⟨N, 3, none⟩ (.string y.p)).setCell ⟨N, 4, none⟩ (.string y.m)).setCell ⟨N, 5, none⟩ (.string o')) N y o' := by
  unfold AtV V.cells at *
  have h0 := heap_setCell_same w N 0 _ _ (.int .u64 y.a) h
  have h1 := heap_setCell_same _ N 1 _ _ (.int .u64 y.b) h0
  have h2 := heap_setCell_same _ N 2 _ _ (.int .u64 y.c) h1
  have h3 := heap_setCell_same _ N 3 _ _ (.string y.p) h2
  have h4 := heap_setCell_same _ N 4 _ _ (.string y.m) h3
  have h5 := heap_setCell_same _ N 5 _ _ (.string o') h4
  simpa using h5
theorem AtV.other {w : World} {N : Nat} {x : V} {o : ByteArray} (h : AtV w N x o) (a : Addr) (v : Value) (hn : N ≠ a.block) : AtV (w.setCell a v) N x o := by
  unfold AtV at *
  rw [heap_setCell_other w a N v hn]
  exact h
theorem results_rec {fn : Func} {p u : Tmp} (h : fn.results = #[.cell p 59, .tmp u]) (tmps : Array Value) (w : World) (N : Nat) (x : V) (o : ByteArray) (v : Value)
    (hp : tmps.getD p undef = .pointer (some ⟨N, 0, none⟩)) (hu : tmps.getD u undef = v) (hat : AtV w N x o) : (results fn tmps).run Tryd.prog w = .ok (.tuple #[x.rc o, v]) w := by
  unfold AtV V.cells at hat
  rw [results_cell_tmp h, hp, hu]
  simp [asAddr, Result.andThen, run_loadVar_row w N _ _ _ _ _ hat Tryd.underlying59 rfl (by kernel_rfl), V.rc]

theorem post_rec {fn : Func} {p u : Tmp} (h : fn.results = #[.cell p 59, .tmp u]) {R : Ending → World → Prop} {a : Act} {w : World} (N : Nat) (x : V) (o : ByteArray) (v : Value) (hd : a.defers = [])
    (hp : a.tmps.getD p undef = .pointer (some ⟨N, 0, none⟩)) (hu : a.tmps.getD u undef = v) (hat : AtV w N x o) (hR : R (.returned (.tuple #[x.rc o, v])) w) : bodyPost Tryd.prog fn R .ret a w :=
  bodyPost_ret (results_rec h _ _ N x o v hp hu hat) hd hR
theorem up_store6 {B N : Nat} {a w : World} (h : Below B a w) (hB : B ≤ N) (v0 v1 v2 v3 v4 v5 : Value) :
    Below B a ((((((w.setCell ⟨N, 0, none⟩ v0).setCell ⟨N, 1, none⟩ v1).setCell ⟨N, 2, none⟩ v2).setCell ⟨N, 3, none⟩ v3).setCell ⟨N, 4, none⟩ v4).setCell ⟨N, 5, none⟩ v5) :=
  (((((h.setCell hB _).setCell hB _).setCell hB _).setCell hB _).setCell hB _).setCell hB _

theorem vPrefix_nil (x : V) (w : World) : Calls Tryd.prog 69 #[x.rc ⟨#[]⟩] w fun e w' => e = .returned (.string ⟨#[]⟩) ∧ Below w.heap.size w w' := by
  obtain ⟨a, b, c, p, m⟩ := x
  unfold V.rc
  simp only
  go_enter Tryd.func69, Tryd.ntmps69
  go_wp2
  go_ret
  exact ⟨rfl, below_alloc _ _⟩
theorem bs_nil {s : ByteArray} (h : s.size = 0) : M.bs s = [] := by
  apply List.eq_nil_of_length_eq_zero
  rw [M.bs_length]; exact h
theorem bs_ne {s : ByteArray} (h : 0 < s.size) : ¬ M.bs s = [] := by
  intro e
  have : (M.bs s).length = 0 := by rw [e]; rfl
  rw [M.bs_length] at this
  omega
theorem AtV.newMeta {w : World} {N : Nat} {x : V} {o s : ByteArray} (h : AtV w N x o) : AtV (w.setCell ⟨N, 4, none⟩ (.string s)) N { x with m := s } o := by
  unfold AtV V.cells at *
  have h0 := heap_setCell_same w N 4 _ _ (.string s) h
  simpa using h0

set_option maxHeartbeats 3000000 in
/-- metadata that are empty or valid -/
theorem setMetadata_ok (x : V) (s : ByteArray) (ev : Value) (w : World) (hs : s.size ≤ 2147483647) (hv : M.bs s = [] ∨ M.validMeta (M.bs s) = true) (hg : w.cell? ⟨5, 0, none⟩ = some ev) (hu : x.u64) (ht : Pow10 w) (hp1 : x.p.size ≤ 2147483647) :
    Calls Tryd.prog 42 #[x.rc ⟨#[]⟩, .string s] w fun e w' => (∃ o, e = .returned (.tuple #[V.rc { x with m := s } o, .nilIface])) ∧ Below w.heap.size w w' := by
  have hv1 : x.rc ⟨#[]⟩ = .agg #[.int .u64 x.a, .int .u64 x.b, .int .u64 x.c, .string x.p, .string x.m, .string ⟨#[]⟩] := rfl
  rw [hv1]
  clear hv1
  have HG := Lib.hid hg
  have HT := Lib.hid ht
  have HU := Lib.hid hu
  have hU0 : V.u64 { x with m := s } := hu
  have HP := Lib.hid hp1
  have HV := Lib.hid hv
  have HS := Lib.hid hs
  clear hg ht hu hp1 hv hs
  go_enter Tryd.func42, Tryd.ntmps42
  rcases Nat.eq_zero_or_pos s.size with hs0 | hs0
  all_goals first
    | (have hs2 : s.size = 0 := hs0
       have hs1 : s.toList = [] := empty_toList (bs_nil hs0)
       go_wp2_with fail
       generalize hW : (((w.alloc (Obj.cells #[Value.int IntKind.u64 x.a, Value.int IntKind.u64 x.b, Value.int IntKind.u64 x.c, Value.string x.p, Value.string x.m, Value.string { data := #[] }] 59)).alloc (Obj.cells #[Value.int IntKind.u64 0, Value.int IntKind.u64 0, Value.int IntKind.u64 0, Value.string { data := #[] }, Value.string { data := #[] }, Value.string { data := #[] }] 59)).alloc (Obj.cells #[Value.int IntKind.u64 x.a, Value.int IntKind.u64 x.b, Value.int IntKind.u64 x.c, Value.string x.p, Value.string s, Value.string { data := #[] }] 59)) = W
       have hA : AtV W w.heap.size x ⟨#[]⟩ := by subst hW; exact heap_alloc_some (heap_alloc_some (alloc_at _ _ _ rfl))
       have hB : AtV W (w.heap.size + 1 + 1) { x with m := s } ⟨#[]⟩ := by subst hW; exact alloc_at _ _ _ (by simp)
       have hC : AtV W (w.heap.size + 1) ⟨0, 0, 0, ⟨#[]⟩, ⟨#[]⟩⟩ ⟨#[]⟩ := by subst hW; exact heap_alloc_some (alloc_at _ _ _ (by simp))
       have hBW : Below w.heap.size w W := by subst hW; (repeat (first | exact Below.refl _ _ | apply Below.drew | (apply below_alloc_on (Nat.le_refl _))))
       clear hW)
    | (have hs2 : 0 < s.size := hs0
       have HV1 := Lib.hid (HV.out.resolve_left (bs_ne hs0))
       go_wp2_with (go_at_call 68; refine (validateMetadata_ok s ev _ HS.out (cell_alloc_some (cell_alloc_some (cell_alloc_some HG.out))) HV1).mono ?_; rintro e w0 ⟨rfl, hb⟩; have hA0 : AtV w0 w.heap.size x ⟨#[]⟩ := AtV.below (heap_alloc_some (heap_alloc_some (alloc_at _ _ _ rfl))) hb; have hB0 : AtV w0 (w.heap.size + 1 + 1) x ⟨#[]⟩ := AtV.below (alloc_at _ _ _ (by simp)) hb; have hC0 : AtV w0 (w.heap.size + 1) ⟨0, 0, 0, ⟨#[]⟩, ⟨#[]⟩⟩ ⟨#[]⟩ := AtV.below (heap_alloc_some (alloc_at _ _ _ (by simp))) hb; have hBW0 : Below w.heap.size w w0 := Below.up (by (repeat (first | exact Below.refl _ _ | apply Below.drew | (apply below_alloc_on (Nat.le_refl _))))) hb; obtain ⟨a0, a1, a2, a3, a4, a5⟩ := hB0.cells; have l4 := hB0.loose 4; have HA0 := Lib.hid hA0; have HB0 := Lib.hid hB0; have HC0 := Lib.hid hC0; have HBW0 := Lib.hid hBW0; clear hA0 hB0 hC0 hBW0 hb)
       generalize hW : w0.setCell ⟨w.heap.size + 1 + 1, 4, none⟩ (.string s) = W
       have hA : AtV W w.heap.size x ⟨#[]⟩ := by subst hW; exact AtV.other HA0.out _ _ (by show w.heap.size ≠ w.heap.size + 1 + 1; omega)
       have hB : AtV W (w.heap.size + 1 + 1) { x with m := s } ⟨#[]⟩ := by subst hW; exact AtV.newMeta HB0.out
       have hC : AtV W (w.heap.size + 1) ⟨0, 0, 0, ⟨#[]⟩, ⟨#[]⟩⟩ ⟨#[]⟩ := by subst hW; exact AtV.other HC0.out _ _ (by show w.heap.size + 1 ≠ w.heap.size + 1 + 1; omega)
       have hBW : Below w.heap.size w W := by subst hW; exact Below.setCell HBW0.out (Nat.le_succ_of_le (Nat.le_succ _)) _
       clear hW a0 a1 a2 a3 a4 a5 l4)
  all_goals
    have HA := Lib.hid hA
    have HB := Lib.hid hB
    have HC := Lib.hid hC
    have HW := Lib.hid hBW
    obtain ⟨a0, a1, a2, a3, a4, a5⟩ := hA.cells
    obtain ⟨b0, b1, b2, b3, b4, b5⟩ := hB.cells
    have hs3 : s.size ≤ 2147483647 := HS.out
    have ht1 := text_size { x with m := s } hU0
    have e1 := add_ok (a := ⟨#[]⟩) (b := ⟨#[]⟩) (by decide)
    have e2 := add_ok (a := ⟨#[]⟩) (b := V.text { x with m := s }) (by have : (⟨#[]⟩ : ByteArray).size = 0 := rfl; have := HP.out; simp only at ht1; omega)
    have e3 := add_ok (a := ⟨#[]⟩ ++ ⟨#[]⟩) (b := V.text { x with m := s }) (by rw [ByteArray.size_append]; have : (⟨#[]⟩ : ByteArray).size = 0 := rfl; have := HP.out; simp only at ht1; omega)
    clear hA hB hC hBW ht1
    go_region_with (first
    | (go_at_call 69; refine (vPrefix_nil x _).mono ?_; rintro e w1 ⟨rfl, hb⟩; have HB1 := Lib.hid (Below.up (w := W) (Below.refl _ _).drew hb); obtain ⟨d0, d1, d2, d3, d4, d5⟩ := (HB.out.below HB1.out).cells; clear hb)
    | (go_at_call 70; refine (string_any { x with m := s } _ _ HU.out (HT.out.below (Below.up HW.out HB1.out)) HP.out hs3).mono ?_; rintro e w2 ⟨rfl, hb⟩; have HB2 := Lib.hid (Below.up HB1.out hb); obtain ⟨f0, f1, f2, f3, f4, f5⟩ := (HB.out.below HB2.out).cells; have hfz := (HB.out.below HB2.out).loose 5; clear hb)
    | fail)
  all_goals
    have hAt := HC.out.below HB2.out
    obtain ⟨g0, g1, g2, g3, g4, g5⟩ := hAt.cells
    have l0 := hAt.loose 0
    have l1 := hAt.loose 1
    have l2 := hAt.loose 2
    have l3 := hAt.loose 3
    have l4 := hAt.loose 4
    have l5 := hAt.loose 5
    have HAt := Lib.hid hAt
    clear hAt
    go_wp2
  all_goals
    refine post_rec rfl (w.heap.size + 1) { x with m := s } (⟨#[]⟩ ++ ⟨#[]⟩ ++ V.text { x with m := s }) .nilIface rfl rfl rfl ?_ ?_
    · exact AtV.store6 (AtV.other HAt.out _ _ (by simp)) { x with m := s } _
    · exact ⟨⟨_, rfl⟩, up_store6 ((Below.up HW.out HB2.out).setCell (Nat.le_succ_of_le (Nat.le_succ _)) _) (Nat.le_succ _) _ _ _ _ _ _⟩

set_option maxHeartbeats 2000000 in
/-- metadata that are not valid -/
theorem setMetadata_bad (x : V) (s : ByteArray) (et : TypeId) (ep : Value) (w : World) (hs : s.size ≤ 2147483647) (hs0 : 0 < s.size) (hv : M.validMeta (M.bs s) = false) (hg : w.cell? ⟨5, 0, none⟩ = some (.iface et ep)) :
    Calls Tryd.prog 42 #[x.rc ⟨#[]⟩, .string s] w fun e w' => (∃ y o, e = .returned (.tuple #[V.rc y o, .iface et ep])) ∧ Below w.heap.size w w' := by
  have hv1 : x.rc ⟨#[]⟩ = .agg #[.int .u64 x.a, .int .u64 x.b, .int .u64 x.c, .string x.p, .string x.m, .string ⟨#[]⟩] := rfl
  rw [hv1]
  clear hv1
  have HG := Lib.hid hg
  have HV := Lib.hid hv
  have HS := Lib.hid hs
  clear hg hv hs
  go_enter Tryd.func42, Tryd.ntmps42
  go_wp2_with (go_at_call 68; refine (validateMetadata_bad s (.iface et ep) _ HS.out (cell_alloc_some (cell_alloc_some (cell_alloc_some HG.out))) HV).mono ?_; rintro e w0 ⟨rfl, hb⟩; have hB0 : AtV w0 (w.heap.size + 1 + 1) x ⟨#[]⟩ := AtV.below (alloc_at _ _ _ (by simp)) hb; have hC0 : AtV w0 (w.heap.size + 1) ⟨0, 0, 0, ⟨#[]⟩, ⟨#[]⟩⟩ ⟨#[]⟩ := AtV.below (heap_alloc_some (alloc_at _ _ _ (by simp))) hb; have hBW0 : Below w.heap.size w w0 := Below.up (by (repeat (first | exact Below.refl _ _ | apply Below.drew | (apply below_alloc_on (Nat.le_refl _))))) hb; obtain ⟨a0, a1, a2, a3, a4, a5⟩ := hB0.cells; obtain ⟨g0, g1, g2, g3, g4, g5⟩ := hC0.cells; have l0 := hC0.loose 0; have l1 := hC0.loose 1; have l2 := hC0.loose 2; have l3 := hC0.loose 3; have l4 := hC0.loose 4; have l5 := hC0.loose 5; have HB0 := Lib.hid hB0; have HC0 := Lib.hid hC0; have HBW0 := Lib.hid hBW0; clear hB0 hC0 hBW0 hb)
  refine post_rec rfl (w.heap.size + 1) x ⟨#[]⟩ (.iface et ep) rfl rfl rfl ?_ ?_
  · exact AtV.store6 HC0.out x _
  · exact ⟨⟨_, _, rfl⟩, up_store6 HBW0.out (Nat.le_succ _) _ _ _ _ _ _⟩
end Go.Proofs.YtopaileliohpdaaDoor
