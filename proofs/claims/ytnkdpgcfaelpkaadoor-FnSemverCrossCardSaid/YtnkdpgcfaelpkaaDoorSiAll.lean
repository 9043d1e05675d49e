/-
  laws.siAll, laws.siGood.
-/
import Derived.Test.YtnkdpgcfaelpkaaDoorCross
namespace Go.Proofs.YtnkdpgcfaelpkaaDoor
open Go.RowKit
set_option maxRecDepth 100000
set_option linter.unusedVariables false

def allT : T := ⟨4, 3, 0, 0, 0, ⟨#[48]⟩⟩
theorem ReadT.one (w : World) (n : Nat) (t : TypeId) (a : T) (h : w.heap[n]? = some (.cells #[.int .i64 a.op, .int .i64 a.g, .int .u64 a.a, .int .u64 a.b, .int .u64 a.c, .string a.p] t (0, 0))) : ReadT w (.slice (some ⟨n, 0, none⟩) 1 1) [a] := by
  refine ⟨some ⟨n, 0, none⟩, 1, rfl, fun i hi => ⟨n, 0, rfl, (Array.getElem?_eq_some_iff.1 h).1, fun j u hu => ?_⟩⟩
  have hi3 : i < 1 := hi
  rw [cell_of_row _ _ _ _ _ _ h]
  have hj : j < 6 := (List.getElem?_eq_some_iff.1 hu).1
  obtain rfl : i = 0 := by omega
  obtain rfl | rfl | rfl | rfl | rfl | rfl : j = 0 ∨ j = 1 ∨ j = 2 ∨ j = 3 ∨ j = 4 ∨ j = 5 := by omega
  all_goals simpa [t6] using hu
theorem siAll_any (w : World) :
    Calls Tryd.prog 16 #[] w fun e w' => ∃ v, e = .returned v ∧ ReadTT w' v [[allT]] ∧ Below w.heap.size w w' := by
  go_enter Tryd.func16, Tryd.ntmps16
  go_wp2
  go_ret
  refine ⟨_, rfl, ReadTT.one (rv := .slice (some ⟨w.heap.size, 0, none⟩) 1 1) (by simp) ?_ ?_, by (repeat (first | exact Below.refl _ _ | apply Below.drew | (apply below_alloc_on (Nat.le_refl _))))⟩
  · rw [cell_of_row _ _ _ _ _ _ (alloc_at _ _ _ (by simp))]; rfl
  · exact ReadT.below (ReadT.one _ _ 35 allT (alloc_at _ _ _ rfl)) (below_alloc _ _)
noncomputable def siB (LL : List (List T)) : Bool := gtB LL 10 && scB LL
theorem goodTerms_10 (v : Value) (LL : List (List T)) (w : World) (hr : ReadTT w v LL) (hf : fitsLL LL = true) (r : Bool) (hres : Hid (gtB LL 10 = r)) :
    Calls Tryd.prog 27 #[v, .int .i64 10] w fun e w' => e = .returned (.bool r) ∧ Below w.heap.size w w' := goodTerms_any v LL 10 w hr hf (by decide) r hres
def SI (j : Nat) (a b : Bool) : Prop := (1 ≤ j → a = true) ∧ (2 ≤ j → b = true)
set_option maxHeartbeats 4000000 in
theorem siGood_two (g c : Nat) (v0 v1 : Value) (LL KK : List (List T)) (w : World) (hc0 : w.cell? ⟨g, 0, none⟩ = some v0) (hc1 : w.cell? ⟨g, 1, none⟩ = some v1) (h0 : ReadTT w v0 LL) (h1 : ReadTT w v1 KK) (f0 : fitsLL LL = true) (f1 : fitsLL KK = true) (r : Bool) (hres : Hid ((siB LL && siB KK) = r)) :
    Calls Tryd.prog 13 #[.slice (some ⟨g, 0, none⟩) 2 c] w fun e w' => e = .returned (.bool r) ∧ Below w.heap.size w w' := by
  have H0 := Lib.hid h0
  have H1 := Lib.hid h1
  have F0 := Lib.hid f0
  have F1 := Lib.hid f1
  have HC0 := Lib.hid hc0
  have HC1 := Lib.hid hc1
  obtain ⟨A0, c0, rfl, _⟩ := h0.at_
  obtain ⟨A1, c1, rfl, _⟩ := h1.at_
  clear h0 h1 f0 f1 hc0 hc1
  obtain ⟨a0, ha0⟩ : ∃ a, gtB LL 10 = a := ⟨_, rfl⟩
  obtain ⟨b0, hb0⟩ : ∃ a, scB LL = a := ⟨_, rfl⟩
  obtain ⟨a1, ha1⟩ : ∃ a, gtB KK 10 = a := ⟨_, rfl⟩
  obtain ⟨b1, hb1⟩ : ∃ a, scB KK = a := ⟨_, rfl⟩
  have HR : Hid (((a0 && b0) && (a1 && b1)) = r) := Lib.hid (by rw [← hres.out, ← ha0, ← hb0, ← ha1, ← hb1]; rfl)
  have HA0 := Lib.hid ha0
  have HB0 := Lib.hid hb0
  have HA1 := Lib.hid ha1
  have HB1 := Lib.hid hb1
  clear ha0 hb0 ha1 hb1 hres
  have HLT := Lib.hid (Sent.cell_lt HC0.out)
  go_enter Tryd.func13, Tryd.ntmps13
  go_wp2
  go_loopw [7] (fun i wr => ∃ j : Nat, j ≤ 2 ∧ i = .int .i64 j ∧ Hid (SI j (a0 && b0) (a1 && b1)) ∧ Hid (Below w.heap.size w wr)) (fun i _ => 2 - (intOf i).toNat)
  case atStart => exact ⟨0, by omega, rfl, Lib.hid ⟨fun h => by omega, fun h => by omega⟩, Lib.hid (Below.refl _ _)⟩
  case round =>
    obtain ⟨j, hj, rfl, HS, HB⟩ := hrel
    obtain rfl | rfl | rfl : j = 0 ∨ j = 1 ∨ j = 2 := by omega
    · have q0 : wr.cell? ⟨g, 0, none⟩ = some (.slice A0 LL.length c0) := (HB.out.cell (p := ⟨g, 0, none⟩) HLT.out).trans HC0.out
      go_wp2_with (first
        | (go_at_call 27; (with_reducible refine (goodTerms_10 _ LL _ (H0.out.below HB.out) F0.out a0 HA0).mono ?_); rintro e wa ⟨rfl, hb⟩; replace HB := Lib.hid (Below.up HB.out hb); clear hb; rcases a0 with _ | _)
        | (go_at_call 28; (with_reducible refine (scGood_any _ LL _ (H0.out.below HB.out) F0.out b0 HB0).mono ?_); rintro e wb ⟨rfl, hb⟩; replace HB := Lib.hid (Below.up HB.out hb); clear hb; rcases b0 with _ | _))
      · go_ret
        exact ⟨ret_bool (by rw [← HR.out]; simp), HB.out⟩
      · go_ret
        exact ⟨ret_bool (by rw [← HR.out]; simp), HB.out⟩
      · go_roundw
        case rel => exact ⟨1, by omega, rfl, Lib.hid ⟨fun _ => rfl, fun h => by omega⟩, HB⟩
        case measure => decide
    · have q0 : wr.cell? ⟨g, 1, none⟩ = some (.slice A1 KK.length c1) := (HB.out.cell (p := ⟨g, 1, none⟩) HLT.out).trans HC1.out
      go_wp2_with (first
        | (go_at_call 27; (with_reducible refine (goodTerms_10 _ KK _ (H1.out.below HB.out) F1.out a1 HA1).mono ?_); rintro e wa ⟨rfl, hb⟩; replace HB := Lib.hid (Below.up HB.out hb); clear hb; rcases a1 with _ | _)
        | (go_at_call 28; (with_reducible refine (scGood_any _ KK _ (H1.out.below HB.out) F1.out b1 HB1).mono ?_); rintro e wb ⟨rfl, hb⟩; replace HB := Lib.hid (Below.up HB.out hb); clear hb; rcases b1 with _ | _))
      · go_ret
        exact ⟨ret_bool (by rw [← HR.out]; simp), HB.out⟩
      · go_ret
        exact ⟨ret_bool (by rw [← HR.out]; simp), HB.out⟩
      · go_roundw
        case rel => exact ⟨2, by omega, rfl, Lib.hid ⟨fun _ => HS.out.1 (by omega), fun _ => rfl⟩, HB⟩
        case measure => decide
    · go_wp2
      go_ret
      refine ⟨ret_bool ?_, HB.out⟩
      rw [← HR.out, HS.out.1 (by omega), HS.out.2 (by omega)]
      rfl
end Go.Proofs.YtnkdpgcfaelpkaaDoor
