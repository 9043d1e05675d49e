/-
  impl.VersionIncPatch and impl.VersionIncMinor of a version of numbers alone.
-/
import Derived.Test.YtnkdpgcfaelpkaaDoorBaseB
namespace Go.Proofs.YtnkdpgcfaelpkaaDoor
open Go.RowKit
set_option maxRecDepth 100000
set_option linter.unusedVariables false

set_option maxHeartbeats 2000000 in
theorem incPatch_any (x : V) (w : World) (he : x.p = ⟨#[]⟩) (hem : x.m = ⟨#[]⟩) (hu : x.u64) (hm : x.c < 18446744073709551615) (ht : Pow10 w) :
    Calls Tryd.prog 21 #[.agg #[.int .u64 x.a, .int .u64 x.b, .int .u64 x.c, .string ⟨#[]⟩, .string ⟨#[]⟩, .string ⟨#[]⟩]] w fun e w' => (∃ o, e = .returned (V.rc (V.bare x.a x.b (x.c + 1)) o)) ∧ Below w.heap.size w w' := by
  have HT := Lib.hid ht
  have HU := Lib.hid hu
  have HE := Lib.hid (And.intro he hem)
  have HU1 : Hid (V.u64 (V.bare x.a x.b (x.c + 1))) := Lib.hid ⟨by show x.a < _; have := hu.1; have := hu.2.1; have := hu.2.2; omega, by show x.b < _; have := hu.1; have := hu.2.1; have := hu.2.2; omega, by show (x.c + 1) < _; have := hu.1; have := hu.2.1; have := hu.2.2; omega⟩
  have hwrap : IntKind.u64.wrap ((x.c : Int) + 1) = ((x.c + 1 : Nat) : Int) := by rw [wrap_u64 (by omega) (by omega)]; omega
  have HWR := Lib.hid hwrap
  clear hwrap
  have hm1 : ¬ (x.c : Int) = 18446744073709551615 := by omega
  have hm2 : (x.c : Int) + 1 < 18446744073709551616 := by omega
  clear ht hu hm hm2 he hem
  go_enter Tryd.func21, Tryd.ntmps21
  go_wp2_with fail
  generalize hW : (((w.alloc (Obj.cells #[Value.int IntKind.u64 x.a, Value.int IntKind.u64 x.b, Value.int IntKind.u64 x.c, Value.string { data := #[] }, Value.string { data := #[] }, Value.string { data := #[] }] 41)).alloc (Obj.cells #[Value.int IntKind.u64 0, Value.int IntKind.u64 0, Value.int IntKind.u64 0, Value.string { data := #[] }, Value.string { data := #[] }, Value.string { data := #[] }] 41)).alloc (Obj.cells #[Value.int IntKind.u64 x.a, Value.int IntKind.u64 x.b, Value.int IntKind.u64 (IntKind.u64.wrap ((x.c : Int) + 1)), Value.string { data := #[] }, Value.string { data := #[] }, Value.string { data := #[] }] 41)) = W
  rw [HWR.out] at hW
  have hA : AtV W w.heap.size x ⟨#[]⟩ := by
    have e := HE.out
    have ex : x.cells ⟨#[]⟩ = Obj.cells #[Value.int IntKind.u64 x.a, Value.int IntKind.u64 x.b, Value.int IntKind.u64 x.c, Value.string { data := #[] }, Value.string { data := #[] }, Value.string { data := #[] }] 41 := by unfold V.cells; rw [e.1, e.2]
    subst hW; exact heap_alloc_some (heap_alloc_some ((alloc_at _ _ _ rfl).trans (by rw [ex])))
  have hB : AtV W (w.heap.size + 1 + 1) (V.bare x.a x.b (x.c + 1)) ⟨#[]⟩ := by subst hW; exact alloc_at _ _ _ (by simp)
  have hC : AtV W (w.heap.size + 1) ⟨0, 0, 0, ⟨#[]⟩, ⟨#[]⟩⟩ ⟨#[]⟩ := by subst hW; exact heap_alloc_some (alloc_at _ _ _ (by simp))
  have hBW : Below w.heap.size w W := by subst hW; (repeat (first | exact Below.refl _ _ | apply Below.drew | (apply below_alloc_on (Nat.le_refl _))))
  have HA := Lib.hid hA
  have HB := Lib.hid hB
  have HC := Lib.hid hC
  have HW := Lib.hid hBW
  have hxe := HE.out
  obtain ⟨a0, a1, a2, a3, a4, a5⟩ := hA.cells
  rw [hxe.1] at a3
  rw [hxe.2] at a4
  obtain ⟨b0, b1, b2, b3, b4, b5⟩ := hB.cells
  have ht1 := text_size (V.bare x.a x.b (x.c + 1)) HU1.out
  have e1 := add_ok (a := ⟨#[]⟩) (b := ⟨#[]⟩) (by decide)
  have e2 := add_ok (a := ⟨#[]⟩) (b := V.text (V.bare x.a x.b (x.c + 1))) (by have : (⟨#[]⟩ : ByteArray).size = 0 := rfl; simp only [V.bare] at ht1 ⊢; omega)
  have e3 := add_ok (a := ⟨#[]⟩ ++ ⟨#[]⟩) (b := V.text (V.bare x.a x.b (x.c + 1))) (by rw [ByteArray.size_append]; have : (⟨#[]⟩ : ByteArray).size = 0 := rfl; simp only [V.bare] at ht1 ⊢; omega)
  have hvp : ∀ w : World, Calls Tryd.prog 37 #[.agg #[.int .u64 x.a, .int .u64 x.b, .int .u64 x.c, .string ⟨#[]⟩, .string ⟨#[]⟩, .string ⟨#[]⟩]] w fun e w' => e = .returned (.string ⟨#[]⟩) ∧ Below w.heap.size w w' := by
    intro w
    have := vPrefix_nil x w
    unfold V.rc at this
    rw [hxe.1, hxe.2] at this
    exact this
  have HVP := Lib.hid hvp
  clear hA hB hC hBW hW ht1 hxe hvp
  go_region_with (first
    | (go_at_call 37; refine (HVP.out _).mono ?_; rintro e w1 ⟨rfl, hb⟩; have HB1 := Lib.hid (Below.up (w := W) (Below.refl _ _).drew hb); obtain ⟨d0, d1, d2, d3, d4, d5⟩ := (HB.out.below HB1.out).cells; clear hb)
    | (go_at_call 38; refine (string_any (V.bare x.a x.b (x.c + 1)) _ _ HU1.out (HT.out.below (Below.up HW.out HB1.out)) (by show (0 : Nat) ≤ _; omega) (by show (0 : Nat) ≤ _; omega)).mono ?_; rintro e w2 ⟨rfl, hb⟩; have HB2 := Lib.hid (Below.up HB1.out hb); obtain ⟨f0, f1, f2, f3, f4, f5⟩ := (HB.out.below HB2.out).cells; have hfz := (HB.out.below HB2.out).loose 5; clear hb)
    | fail)
  all_goals
    have hAt := HC.out.below HB2.out
    obtain ⟨g0, g1, g2, g3, g4, g5⟩ := hAt.cells
    have l0 := hAt.loose 0
    have l1 := hAt.loose 1
    have l2 := hAt.loose 2
    have l3 := hAt.loose 3
    have l4 := hAt.loose 4
    have l5 := hAt.loose 5
    have HAt := Lib.hid hAt
    clear hAt
    go_wp2
  all_goals
    refine post_rec1 rfl (w.heap.size + 1) (V.bare x.a x.b (x.c + 1)) (⟨#[]⟩ ++ ⟨#[]⟩ ++ V.text (V.bare x.a x.b (x.c + 1))) rfl rfl ?_ ?_
    · exact AtV.store6 (AtV.other HAt.out _ _ (by simp)) (V.bare x.a x.b (x.c + 1)) _
    · exact ⟨⟨_, rfl⟩, up_store6 ((Below.up HW.out HB2.out).setCell (Nat.le_succ_of_le (Nat.le_succ _)) _) (Nat.le_succ _) _ _ _ _ _ _⟩
theorem versionIncPatch_any (x : V) (w : World) (he : x.p = ⟨#[]⟩) (hem : x.m = ⟨#[]⟩) (hu : x.u64) (hm : x.c < 18446744073709551615) (ht : Pow10 w) :
    Calls Tryd.prog 8 #[.agg #[.int .u64 x.a, .int .u64 x.b, .int .u64 x.c, .string ⟨#[]⟩, .string ⟨#[]⟩]] w fun e w' => e = .returned (V.v (V.bare x.a x.b (x.c + 1))) ∧ Below w.heap.size w w' := by
  have HT := Lib.hid ht
  have HU := Lib.hid hu
  have HM := Lib.hid hm
  have HE := Lib.hid (And.intro he hem)
  have hv : ∀ w : World, Calls Tryd.prog 20 #[.agg #[.int .u64 x.a, .int .u64 x.b, .int .u64 x.c, .string ⟨#[]⟩, .string ⟨#[]⟩]] w (PtrV w x ⟨#[]⟩) := by
    intro w
    have := version_at x w
    rw [he, hem] at this
    exact this
  have HV := Lib.hid hv
  clear ht hu hm he hem hv
  go_enter Tryd.func8, Tryd.ntmps8
  go_wp2_with (first
    | (go_at_call 20; (with_reducible refine (HV.out _).mono ?_); rintro e w1 ⟨N, rfl, hN, hat, hb⟩; have hz : AtP w1 (w.heap.size + 1) V.zero := AtP.below (alloc_at _ _ _ (by simp)) hb; have hB1 : Below w.heap.size w w1 := Below.up (by (repeat (first | exact Below.refl _ _ | apply Below.drew | (apply below_alloc_on (Nat.le_refl _))))) hb; have hat1 : AtV w1 N x ⟨#[]⟩ := hat; obtain ⟨a0, a1, a2, a3, a4, a5⟩ := hat1.cells; have hxe := HE.out; rw [hxe.1] at a3; rw [hxe.2] at a4; have HZ1 := Lib.hid hz; have HB1 := Lib.hid hB1; clear hz hB1 hb hat hat1 hN hxe)
    | (go_at_call 21; refine (incPatch_any x _ HE.out.1 HE.out.2 HU.out HM.out (HT.out.below HB1.out)).mono ?_; rintro e w2 ⟨⟨o, rfl⟩, hb⟩; simp only [V.rc, V.bare]; have HZ2 := Lib.hid (HZ1.out.below hb); have HB2 := Lib.hid (Below.up HB1.out hb); clear hb)
    | (go_at_call 22; refine (plainVersion_any (V.bare x.a x.b (x.c + 1)) o _ _ (alloc_at _ _ _ (by simp))).mono ?_; rintro e w3 ⟨rfl, hb⟩; simp only [V.v, V.bare]; have hz : AtP w3 (w.heap.size + 1) V.zero := AtP.below (heap_alloc_some HZ2.out) hb; have HB3 := Lib.hid (Below.up (Below.up HB2.out (below_alloc _ _)) hb); obtain ⟨g0, g1, g2, g3, g4⟩ := hz.cells; have l0 := hz.loose 0; have l1 := hz.loose 1; have l2 := hz.loose 2; have l3 := hz.loose 3; have l4 := hz.loose 4; have HZ3 := Lib.hid hz; clear hz hb))
  refine post_ver1 rfl (w.heap.size + 1) (V.bare x.a x.b (x.c + 1)) rfl rfl ?_ ⟨rfl, ?_⟩
  · exact AtP.store5 HZ3.out (V.bare x.a x.b (x.c + 1))
  · exact up_store5 HB3.out (Nat.le_succ _) _ _ _ _ _
set_option maxHeartbeats 2000000 in
theorem incMinor_any (x : V) (w : World) (he : x.p = ⟨#[]⟩) (hem : x.m = ⟨#[]⟩) (hu : x.u64) (hm : x.b < 18446744073709551615) (ht : Pow10 w) :
    Calls Tryd.prog 23 #[.agg #[.int .u64 x.a, .int .u64 x.b, .int .u64 x.c, .string ⟨#[]⟩, .string ⟨#[]⟩, .string ⟨#[]⟩]] w fun e w' => (∃ o, e = .returned (V.rc (V.bare x.a (x.b + 1) 0) o)) ∧ Below w.heap.size w w' := by
  have HT := Lib.hid ht
  have HU := Lib.hid hu
  have HE := Lib.hid (And.intro he hem)
  have HU1 : Hid (V.u64 (V.bare x.a (x.b + 1) 0)) := Lib.hid ⟨by show x.a < _; have := hu.1; have := hu.2.1; have := hu.2.2; omega, by show (x.b + 1) < _; have := hu.1; have := hu.2.1; have := hu.2.2; omega, by show 0 < _; have := hu.1; have := hu.2.1; have := hu.2.2; omega⟩
  have hwrap : IntKind.u64.wrap ((x.b : Int) + 1) = ((x.b + 1 : Nat) : Int) := by rw [wrap_u64 (by omega) (by omega)]; omega
  have HWR := Lib.hid hwrap
  clear hwrap
  have hm1 : ¬ (x.b : Int) = 18446744073709551615 := by omega
  have hm2 : (x.b : Int) + 1 < 18446744073709551616 := by omega
  clear ht hu hm hm2 he hem
  go_enter Tryd.func23, Tryd.ntmps23
  go_wp2_with fail
  generalize hW : (((w.alloc (Obj.cells #[Value.int IntKind.u64 x.a, Value.int IntKind.u64 x.b, Value.int IntKind.u64 x.c, Value.string { data := #[] }, Value.string { data := #[] }, Value.string { data := #[] }] 41)).alloc (Obj.cells #[Value.int IntKind.u64 0, Value.int IntKind.u64 0, Value.int IntKind.u64 0, Value.string { data := #[] }, Value.string { data := #[] }, Value.string { data := #[] }] 41)).alloc (Obj.cells #[Value.int IntKind.u64 x.a, Value.int IntKind.u64 (IntKind.u64.wrap ((x.b : Int) + 1)), Value.int IntKind.u64 0, Value.string { data := #[] }, Value.string { data := #[] }, Value.string { data := #[] }] 41)) = W
  rw [HWR.out] at hW
  have hA : AtV W w.heap.size x ⟨#[]⟩ := by
    have e := HE.out
    have ex : x.cells ⟨#[]⟩ = Obj.cells #[Value.int IntKind.u64 x.a, Value.int IntKind.u64 x.b, Value.int IntKind.u64 x.c, Value.string { data := #[] }, Value.string { data := #[] }, Value.string { data := #[] }] 41 := by unfold V.cells; rw [e.1, e.2]
    subst hW; exact heap_alloc_some (heap_alloc_some ((alloc_at _ _ _ rfl).trans (by rw [ex])))
  have hB : AtV W (w.heap.size + 1 + 1) (V.bare x.a (x.b + 1) 0) ⟨#[]⟩ := by subst hW; exact alloc_at _ _ _ (by simp)
  have hC : AtV W (w.heap.size + 1) ⟨0, 0, 0, ⟨#[]⟩, ⟨#[]⟩⟩ ⟨#[]⟩ := by subst hW; exact heap_alloc_some (alloc_at _ _ _ (by simp))
  have hBW : Below w.heap.size w W := by subst hW; (repeat (first | exact Below.refl _ _ | apply Below.drew | (apply below_alloc_on (Nat.le_refl _))))
  have HA := Lib.hid hA
  have HB := Lib.hid hB
  have HC := Lib.hid hC
  have HW := Lib.hid hBW
  have hxe := HE.out
  obtain ⟨a0, a1, a2, a3, a4, a5⟩ := hA.cells
  rw [hxe.1] at a3
  rw [hxe.2] at a4
  obtain ⟨b0, b1, b2, b3, b4, b5⟩ := hB.cells
  have ht1 := text_size (V.bare x.a (x.b + 1) 0) HU1.out
  have e1 := add_ok (a := ⟨#[]⟩) (b := ⟨#[]⟩) (by decide)
  have e2 := add_ok (a := ⟨#[]⟩) (b := V.text (V.bare x.a (x.b + 1) 0)) (by have : (⟨#[]⟩ : ByteArray).size = 0 := rfl; simp only [V.bare] at ht1 ⊢; omega)
  have e3 := add_ok (a := ⟨#[]⟩ ++ ⟨#[]⟩) (b := V.text (V.bare x.a (x.b + 1) 0)) (by rw [ByteArray.size_append]; have : (⟨#[]⟩ : ByteArray).size = 0 := rfl; simp only [V.bare] at ht1 ⊢; omega)
  have hvp : ∀ w : World, Calls Tryd.prog 37 #[.agg #[.int .u64 x.a, .int .u64 x.b, .int .u64 x.c, .string ⟨#[]⟩, .string ⟨#[]⟩, .string ⟨#[]⟩]] w fun e w' => e = .returned (.string ⟨#[]⟩) ∧ Below w.heap.size w w' := by
    intro w
    have := vPrefix_nil x w
    unfold V.rc at this
    rw [hxe.1, hxe.2] at this
    exact this
  have HVP := Lib.hid hvp
  clear hA hB hC hBW hW ht1 hxe hvp
  go_region_with (first
    | (go_at_call 37; refine (HVP.out _).mono ?_; rintro e w1 ⟨rfl, hb⟩; have HB1 := Lib.hid (Below.up (w := W) (Below.refl _ _).drew hb); obtain ⟨d0, d1, d2, d3, d4, d5⟩ := (HB.out.below HB1.out).cells; clear hb)
    | (go_at_call 38; refine (string_any (V.bare x.a (x.b + 1) 0) _ _ HU1.out (HT.out.below (Below.up HW.out HB1.out)) (by show (0 : Nat) ≤ _; omega) (by show (0 : Nat) ≤ _; omega)).mono ?_; rintro e w2 ⟨rfl, hb⟩; have HB2 := Lib.hid (Below.up HB1.out hb); obtain ⟨f0, f1, f2, f3, f4, f5⟩ := (HB.out.below HB2.out).cells; have hfz := (HB.out.below HB2.out).loose 5; clear hb)
    | fail)
  all_goals
    have hAt := HC.out.below HB2.out
    obtain ⟨g0, g1, g2, g3, g4, g5⟩ := hAt.cells
    have l0 := hAt.loose 0
    have l1 := hAt.loose 1
    have l2 := hAt.loose 2
    have l3 := hAt.loose 3
    have l4 := hAt.loose 4
    have l5 := hAt.loose 5
    have HAt := Lib.hid hAt
    clear hAt
    go_wp2
  all_goals
    refine post_rec1 rfl (w.heap.size + 1) (V.bare x.a (x.b + 1) 0) (⟨#[]⟩ ++ ⟨#[]⟩ ++ V.text (V.bare x.a (x.b + 1) 0)) rfl rfl ?_ ?_
    · exact AtV.store6 (AtV.other HAt.out _ _ (by simp)) (V.bare x.a (x.b + 1) 0) _
    · exact ⟨⟨_, rfl⟩, up_store6 ((Below.up HW.out HB2.out).setCell (Nat.le_succ_of_le (Nat.le_succ _)) _) (Nat.le_succ _) _ _ _ _ _ _⟩
theorem versionIncMinor_any (x : V) (w : World) (he : x.p = ⟨#[]⟩) (hem : x.m = ⟨#[]⟩) (hu : x.u64) (hm : x.b < 18446744073709551615) (ht : Pow10 w) :
    Calls Tryd.prog 9 #[.agg #[.int .u64 x.a, .int .u64 x.b, .int .u64 x.c, .string ⟨#[]⟩, .string ⟨#[]⟩]] w fun e w' => e = .returned (V.v (V.bare x.a (x.b + 1) 0)) ∧ Below w.heap.size w w' := by
  have HT := Lib.hid ht
  have HU := Lib.hid hu
  have HM := Lib.hid hm
  have HE := Lib.hid (And.intro he hem)
  have hv : ∀ w : World, Calls Tryd.prog 20 #[.agg #[.int .u64 x.a, .int .u64 x.b, .int .u64 x.c, .string ⟨#[]⟩, .string ⟨#[]⟩]] w (PtrV w x ⟨#[]⟩) := by
    intro w
    have := version_at x w
    rw [he, hem] at this
    exact this
  have HV := Lib.hid hv
  clear ht hu hm he hem hv
  go_enter Tryd.func9, Tryd.ntmps9
  go_wp2_with (first
    | (go_at_call 20; (with_reducible refine (HV.out _).mono ?_); rintro e w1 ⟨N, rfl, hN, hat, hb⟩; have hz : AtP w1 (w.heap.size + 1) V.zero := AtP.below (alloc_at _ _ _ (by simp)) hb; have hB1 : Below w.heap.size w w1 := Below.up (by (repeat (first | exact Below.refl _ _ | apply Below.drew | (apply below_alloc_on (Nat.le_refl _))))) hb; have hat1 : AtV w1 N x ⟨#[]⟩ := hat; obtain ⟨a0, a1, a2, a3, a4, a5⟩ := hat1.cells; have hxe := HE.out; rw [hxe.1] at a3; rw [hxe.2] at a4; have HZ1 := Lib.hid hz; have HB1 := Lib.hid hB1; clear hz hB1 hb hat hat1 hN hxe)
    | (go_at_call 23; refine (incMinor_any x _ HE.out.1 HE.out.2 HU.out HM.out (HT.out.below HB1.out)).mono ?_; rintro e w2 ⟨⟨o, rfl⟩, hb⟩; simp only [V.rc, V.bare]; have HZ2 := Lib.hid (HZ1.out.below hb); have HB2 := Lib.hid (Below.up HB1.out hb); clear hb)
    | (go_at_call 22; refine (plainVersion_any (V.bare x.a (x.b + 1) 0) o _ _ (alloc_at _ _ _ (by simp))).mono ?_; rintro e w3 ⟨rfl, hb⟩; simp only [V.v, V.bare]; have hz : AtP w3 (w.heap.size + 1) V.zero := AtP.below (heap_alloc_some HZ2.out) hb; have HB3 := Lib.hid (Below.up (Below.up HB2.out (below_alloc _ _)) hb); obtain ⟨g0, g1, g2, g3, g4⟩ := hz.cells; have l0 := hz.loose 0; have l1 := hz.loose 1; have l2 := hz.loose 2; have l3 := hz.loose 3; have l4 := hz.loose 4; have HZ3 := Lib.hid hz; clear hz hb))
  refine post_ver1 rfl (w.heap.size + 1) (V.bare x.a (x.b + 1) 0) rfl rfl ?_ ⟨rfl, ?_⟩
  · exact AtP.store5 HZ3.out (V.bare x.a (x.b + 1) 0)
  · exact up_store5 HB3.out (Nat.le_succ _) _ _ _ _ _
end Go.Proofs.YtnkdpgcfaelpkaaDoor
