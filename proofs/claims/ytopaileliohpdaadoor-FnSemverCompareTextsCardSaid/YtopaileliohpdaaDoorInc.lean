/-
  (Version).IncMajor, impl.VersionIncMajor, spec.Plain.
-/
import Derived.Test.YtopaileliohpdaaDoorLess
namespace Go.Proofs.YtopaileliohpdaaDoor
open Go.RowKit
set_option maxRecDepth 100000
set_option linter.unusedVariables false

/-- a version of numbers alone -/
def V.bare (a b c : Nat) : V := ⟨a, b, c, ⟨#[]⟩, ⟨#[]⟩⟩
theorem wrap_u64 {n : Int} (h0 : 0 ≤ n) (h1 : n < 18446744073709551616) : IntKind.u64.wrap n = n := by
  simp only [IntKind.wrap, IntKind.bits, IntKind.signed]
  simp
  omega
theorem post_rec1 {fn : Func} {p : Tmp} (h : fn.results = #[.cell p 59]) {R : Ending → World → Prop} {a : Act} {w : World} (N : Nat) (x : V) (o : ByteArray) (hd : a.defers = [])
    (hp : a.tmps.getD p undef = .pointer (some ⟨N, 0, none⟩)) (hat : AtV w N x o) (hR : R (.returned (x.rc o)) w) : bodyPost Tryd.prog fn R .ret a w :=
  bodyPost_ret (results_cell_row h _ _ N _ _ (0, 0) _ hp hat Tryd.underlying59 rfl (by kernel_rfl)) hd hR

set_option maxHeartbeats 2000000 in
theorem incMajor_any (x : V) (w : World) (hu : x.u64) (hm : x.a < 18446744073709551615) (ht : Pow10 w) :
    Calls Tryd.prog 51 #[x.rc ⟨#[]⟩] w fun e w' => (∃ o, e = .returned (V.rc (V.bare (x.a + 1) 0 0) o)) ∧ Below w.heap.size w w' := by
  have hv1 : x.rc ⟨#[]⟩ = .agg #[.int .u64 x.a, .int .u64 x.b, .int .u64 x.c, .string x.p, .string x.m, .string ⟨#[]⟩] := rfl
  rw [hv1]
  clear hv1
  have HT := Lib.hid ht
  have HU := Lib.hid hu
  have HU1 : Hid (V.u64 (V.bare (x.a + 1) 0 0)) := Lib.hid ⟨by show x.a + 1 < _; omega, by show 0 < _; omega, by show 0 < _; omega⟩
  have hwrap : IntKind.u64.wrap ((x.a : Int) + 1) = ((x.a + 1 : Nat) : Int) := by rw [wrap_u64 (by omega) (by omega)]; omega
  have HWR := Lib.hid hwrap
  clear hwrap
  have hm1 : ¬ (x.a : Int) = 18446744073709551615 := by omega
  have hm2 : (x.a : Int) + 1 < 18446744073709551616 := by omega
  clear ht hu hm hm2
  go_enter Tryd.func51, Tryd.ntmps51
  go_wp2_with fail
  generalize hW : (((w.alloc (Obj.cells #[Value.int IntKind.u64 x.a, Value.int IntKind.u64 x.b, Value.int IntKind.u64 x.c, Value.string x.p, Value.string x.m, Value.string { data := #[] }] 59)).alloc (Obj.cells #[Value.int IntKind.u64 0, Value.int IntKind.u64 0, Value.int IntKind.u64 0, Value.string { data := #[] }, Value.string { data := #[] }, Value.string { data := #[] }] 59)).alloc (Obj.cells #[Value.int IntKind.u64 (IntKind.u64.wrap ((x.a : Int) + 1)), Value.int IntKind.u64 0, Value.int IntKind.u64 0, Value.string { data := #[] }, Value.string { data := #[] }, Value.string { data := #[] }] 59)) = W
  rw [HWR.out] at hW
  have hA : AtV W w.heap.size x ⟨#[]⟩ := by subst hW; exact heap_alloc_some (heap_alloc_some (alloc_at _ _ _ rfl))
  have hB : AtV W (w.heap.size + 1 + 1) (V.bare (x.a + 1) 0 0) ⟨#[]⟩ := by subst hW; exact alloc_at _ _ _ (by simp)
  have hC : AtV W (w.heap.size + 1) ⟨0, 0, 0, ⟨#[]⟩, ⟨#[]⟩⟩ ⟨#[]⟩ := by subst hW; exact heap_alloc_some (alloc_at _ _ _ (by simp))
  have hBW : Below w.heap.size w W := by subst hW; (repeat (first | exact Below.refl _ _ | apply Below.drew | (apply below_alloc_on (Nat.le_refl _))))
  have HA := Lib.hid hA
  have HB := Lib.hid hB
  have HC := Lib.hid hC
  have HW := Lib.hid hBW
  obtain ⟨a0, a1, a2, a3, a4, a5⟩ := hA.cells
  obtain ⟨b0, b1, b2, b3, b4, b5⟩ := hB.cells
  have ht1 := text_size (V.bare (x.a + 1) 0 0) HU1.out
  have e1 := add_ok (a := ⟨#[]⟩) (b := ⟨#[]⟩) (by decide)
  have e2 := add_ok (a := ⟨#[]⟩) (b := V.text (V.bare (x.a + 1) 0 0)) (by have : (⟨#[]⟩ : ByteArray).size = 0 := rfl; simp only [V.bare] at ht1 ⊢; omega)
  have e3 := add_ok (a := ⟨#[]⟩ ++ ⟨#[]⟩) (b := V.text (V.bare (x.a + 1) 0 0)) (by rw [ByteArray.size_append]; have : (⟨#[]⟩ : ByteArray).size = 0 := rfl; simp only [V.bare] at ht1 ⊢; omega)
  clear hA hB hC hBW hW ht1
  go_region_with (first
    | (go_at_call 69; refine (vPrefix_nil x _).mono ?_; rintro e w1 ⟨rfl, hb⟩; have HB1 := Lib.hid (Below.up (w := W) (Below.refl _ _).drew hb); obtain ⟨d0, d1, d2, d3, d4, d5⟩ := (HB.out.below HB1.out).cells; clear hb)
    | (go_at_call 70; refine (string_any (V.bare (x.a + 1) 0 0) _ _ HU1.out (HT.out.below (Below.up HW.out HB1.out)) (by show (0 : Nat) ≤ _; omega) (by show (0 : Nat) ≤ _; omega)).mono ?_; rintro e w2 ⟨rfl, hb⟩; have HB2 := Lib.hid (Below.up HB1.out hb); obtain ⟨f0, f1, f2, f3, f4, f5⟩ := (HB.out.below HB2.out).cells; have hfz := (HB.out.below HB2.out).loose 5; clear hb)
    | fail)
  all_goals
    have hAt := HC.out.below HB2.out
    obtain ⟨g0, g1, g2, g3, g4, g5⟩ := hAt.cells
    have l0 := hAt.loose 0
    have l1 := hAt.loose 1
    have l2 := hAt.loose 2
    have l3 := hAt.loose 3
    have l4 := hAt.loose 4
    have l5 := hAt.loose 5
    have HAt := Lib.hid hAt
    clear hAt
    go_wp2
  all_goals
    refine post_rec1 rfl (w.heap.size + 1) (V.bare (x.a + 1) 0 0) (⟨#[]⟩ ++ ⟨#[]⟩ ++ V.text (V.bare (x.a + 1) 0 0)) rfl rfl ?_ ?_
    · exact AtV.store6 (AtV.other HAt.out _ _ (by simp)) (V.bare (x.a + 1) 0 0) _
    · exact ⟨⟨_, rfl⟩, up_store6 ((Below.up HW.out HB2.out).setCell (Nat.le_succ_of_le (Nat.le_succ _)) _) (Nat.le_succ _) _ _ _ _ _ _⟩

theorem version_at (x : V) (w : World) : Calls Tryd.prog 41 #[.agg #[.int .u64 x.a, .int .u64 x.b, .int .u64 x.c, .string x.p, .string x.m]] w (PtrV w x ⟨#[]⟩) := version_any x w
theorem versionIncMajor_any (x : V) (w : World) (hu : x.u64) (hm : x.a < 18446744073709551615) (ht : Pow10 w) :
    Calls Tryd.prog 22 #[.agg #[.int .u64 x.a, .int .u64 x.b, .int .u64 x.c, .string x.p, .string x.m]] w fun e w' => e = .returned (V.v (V.bare (x.a + 1) 0 0)) ∧ Below w.heap.size w w' := by
  have HT := Lib.hid ht
  have HU := Lib.hid hu
  have HM := Lib.hid hm
  clear ht hu hm
  go_enter Tryd.func22, Tryd.ntmps22
  go_wp2_with (first
    | (go_at_call 41; (with_reducible refine (version_at x _).mono ?_); rintro e w1 ⟨N, rfl, hN, hat, hb⟩; have hz : AtP w1 (w.heap.size + 1) V.zero := AtP.below (alloc_at _ _ _ (by simp)) hb; have hB1 : Below w.heap.size w w1 := Below.up (by (repeat (first | exact Below.refl _ _ | apply Below.drew | (apply below_alloc_on (Nat.le_refl _))))) hb; have hat1 : AtV w1 N x ⟨#[]⟩ := hat; obtain ⟨a0, a1, a2, a3, a4, a5⟩ := hat1.cells; have HZ1 := Lib.hid hz; have HB1 := Lib.hid hB1; clear hz hB1 hb hat hat1 hN)
    | (go_at_call 51; refine (incMajor_any x _ HU.out HM.out (HT.out.below HB1.out)).mono ?_; rintro e w2 ⟨⟨o, rfl⟩, hb⟩; simp only [V.rc, V.bare]; have HZ2 := Lib.hid (HZ1.out.below hb); have HB2 := Lib.hid (Below.up HB1.out hb); clear hb)
    | (go_at_call 52; refine (plainVersion_any (V.bare (x.a + 1) 0 0) o _ _ (alloc_at _ _ _ (by simp))).mono ?_; rintro e w3 ⟨rfl, hb⟩; simp only [V.v, V.bare]; have hz : AtP w3 (w.heap.size + 1) V.zero := AtP.below (heap_alloc_some HZ2.out) hb; have HB3 := Lib.hid (Below.up (Below.up HB2.out (below_alloc _ _)) hb); obtain ⟨g0, g1, g2, g3, g4⟩ := hz.cells; have l0 := hz.loose 0; have l1 := hz.loose 1; have l2 := hz.loose 2; have l3 := hz.loose 3; have l4 := hz.loose 4; have HZ3 := Lib.hid hz; clear hz hb))
  refine post_ver1 rfl (w.heap.size + 1) (V.bare (x.a + 1) 0 0) rfl rfl ?_ ⟨rfl, ?_⟩
  · exact AtP.store5 HZ3.out (V.bare (x.a + 1) 0 0)
  · exact up_store5 HB3.out (Nat.le_succ _) _ _ _ _ _
end Go.Proofs.YtopaileliohpdaaDoor
