/-
  spec.AllHold and spec.Holds over lists of good terms.
-/
import Derived.Test.YtagmdhinbkponaaDoorCompares
import Derived.Test.YtagmdhinbkponaaDoorAllSp
namespace Go.Proofs.YtagmdhinbkponaaDoor
open Go.RowKit
set_option maxRecDepth 100000
set_option linter.unusedVariables false

def TG (t : T) : Prop := t.Good ∧ t.p.size ≤ 2147483647
theorem compares_t (t : T) (x : V) (r : Bool) (w : World) (hg : Hid (TG t)) (zx : x.p.size ≤ 2147483647) (hr : Hid (t.comp x = r)) :
    Calls Tryd.prog 68 #[.agg #[.int .i64 t.op, .int .i64 t.g, .int .u64 t.a, .int .u64 t.b, .int .u64 t.c, .string t.p], .agg #[.int .u64 x.a, .int .u64 x.b, .int .u64 x.c, .string x.p, .string x.m]] w fun e w' => e = .returned (.bool r) ∧ Below w.heap.size w w' :=
  compares_any t.op t.g t.a t.b t.c t.p x r w hg.out.1.2.1 hg.out.1.1 zx hg.out.2 hr
def rowC (x : V) (L : List T) : Bool := L.all fun t => t.comp x
set_option maxHeartbeats 4000000 in
theorem allHold_any (v : Value) (L : List T) (x : V) (w : World) (hr : ReadT w v L) (hl0 : L.length ≤ 1000) (hl1 : Hid (∀ t ∈ L, TG t)) (zx : x.p.size ≤ 2147483647) (r : Bool) (hres : Hid (rowC x L = r)) :
    Calls Tryd.prog 51 #[v, .agg #[.int .u64 x.a, .int .u64 x.b, .int .u64 x.c, .string x.p, .string x.m]] w fun e w' => e = .returned (.bool r) ∧ Below w.heap.size w w' := by
  obtain ⟨A, cap, rfl, hcell⟩ := hr
  have HC := Lib.hid hcell
  clear hcell
  go_enter Tryd.func51, Tryd.ntmps51
  go_wp2
  go_loopw [9] (fun i wr => ∃ k : Nat, k ≤ L.length ∧ i = .int .i64 k ∧ Hid ((L.take k).all (fun t => t.comp x) = true) ∧ Hid (AtP wr w.heap.size x) ∧ Hid (Below w.heap.size w wr)) (fun i _ => L.length - (intOf i).toNat)
  case atStart => exact ⟨0, Nat.zero_le _, rfl, Lib.hid (by simp), Lib.hid (alloc_at _ _ _ rfl), Lib.hid (below_alloc _ _)⟩
  case round =>
    obtain ⟨k, hk, rfl, HA, HX, HB⟩ := hrel
    by_cases hlt : k < L.length
    · obtain ⟨b2, o2, rfl, hbl2, hc2⟩ := HC.out k hlt
      have q0 : wr.cell? ⟨b2, o2 + k * 6, none⟩ = some (.int .i64 L[k].op) := by rw [HB.out.cell (p := ⟨b2, o2 + k * 6, none⟩) hbl2]; exact hc2 0 _ rfl
      have q1 : wr.cell? ⟨b2, o2 + k * 6 + 1, none⟩ = some (.int .i64 L[k].g) := by rw [HB.out.cell (p := ⟨b2, o2 + k * 6 + 1, none⟩) hbl2]; exact hc2 1 _ rfl
      have q2 : wr.cell? ⟨b2, o2 + k * 6 + 2, none⟩ = some (.int .u64 L[k].a) := by rw [HB.out.cell (p := ⟨b2, o2 + k * 6 + 2, none⟩) hbl2]; exact hc2 2 _ rfl
      have q3 : wr.cell? ⟨b2, o2 + k * 6 + 3, none⟩ = some (.int .u64 L[k].b) := by rw [HB.out.cell (p := ⟨b2, o2 + k * 6 + 3, none⟩) hbl2]; exact hc2 3 _ rfl
      have q4 : wr.cell? ⟨b2, o2 + k * 6 + 4, none⟩ = some (.int .u64 L[k].c) := by rw [HB.out.cell (p := ⟨b2, o2 + k * 6 + 4, none⟩) hbl2]; exact hc2 4 _ rfl
      have q5 : wr.cell? ⟨b2, o2 + k * 6 + 5, none⟩ = some (.string L[k].p) := by rw [HB.out.cell (p := ⟨b2, o2 + k * 6 + 5, none⟩) hbl2]; exact hc2 5 _ rfl
      clear hc2 hbl2
      have hxa : AtP (wr.alloc (.cells #[.int .i64 L[k].op, .int .i64 L[k].g, .int .u64 L[k].a, .int .u64 L[k].b, .int .u64 L[k].c, .string L[k].p] 24)) w.heap.size x := HX.out.below (below_alloc _ _)
      obtain ⟨x0, x1, x2, x3, x4⟩ := hxa.cells
      clear hxa
      have HG := Lib.hid (hl1.out L[k] (List.getElem_mem hlt))
      have HLT := Lib.hid hlt
      obtain ⟨s, hs⟩ : ∃ s, L[k].comp x = s := ⟨_, rfl⟩
      have HS := Lib.hid hs
      clear hs
      go_wp2_with (go_at_call 68; (with_reducible refine (compares_t L[k] x s _ HG zx HS).mono ?_); rintro e w1 ⟨rfl, hb⟩; have HX3 := Lib.hid (HX.out.below (Below.up (w := wr) (by (repeat (first | exact Below.refl _ _ | apply Below.drew | (apply below_alloc_on (Nat.le_refl _))))) hb)); have HB1 := Lib.hid (Below.up HB.out (Below.up (w := wr) (by (repeat (first | exact Below.refl _ _ | apply Below.drew | (apply below_alloc_on (Nat.le_refl _))))) hb)); clear hb x0 x1 x2 x3 x4 q0 q1 q2 q3 q4 q5; rcases s with _ | _)
      · go_ret
        refine ⟨ret_bool ?_, HB1.out⟩
        rw [← hres.out]
        exact (all_false_at HLT.out HS.out).symm
      · go_roundw
        case rel => exact ⟨k + 1, hlt, by go_num, Lib.hid (all_next HLT.out HA.out HS.out), HX3, HB1⟩
        case measure => simp [intOf]; omega
    · have HK := Lib.hid (show k = L.length by omega)
      go_wp2
      go_ret
      refine ⟨ret_bool ?_, HB.out⟩
      have h1 := HA.out
      rw [HK.out, List.take_length] at h1
      rw [← hres.out]
      exact h1.symm
def holdsC (x : V) (LL : List (List T)) : Bool := LL.any (rowC x)
theorem any_next {α : Type} {f : α → Bool} {l : List α} {k : Nat} (h : k < l.length) (ht : (l.take k).any f = false) (hf : f l[k] = false) : (l.take (k + 1)).any f = false := by
  rw [List.take_succ_eq_append_getElem h, List.any_append, ht, Bool.false_or]
  simp [hf]
set_option maxHeartbeats 4000000 in
theorem holds_any (v : Value) (LL : List (List T)) (x : V) (w : World) (hr : ReadTT w v LL) (hl0 : LL.length ≤ 1000) (hl1 : Hid (∀ L ∈ LL, L.length ≤ 1000 ∧ ∀ t ∈ L, TG t)) (zx : x.p.size ≤ 2147483647) (r : Bool) (hres : Hid (holdsC x LL = r)) :
    Calls Tryd.prog 26 #[v, .agg #[.int .u64 x.a, .int .u64 x.b, .int .u64 x.c, .string x.p, .string x.m]] w fun e w' => e = .returned (.bool r) ∧ Below w.heap.size w w' := by
  obtain ⟨A, cap, rfl, hcell⟩ := hr.at_
  have HC := Lib.hid hcell
  clear hcell hr
  go_enter Tryd.func26, Tryd.ntmps26
  go_wp2
  go_loopw [9] (fun i wr => ∃ k : Nat, k ≤ LL.length ∧ i = .int .i64 k ∧ Hid ((LL.take k).any (rowC x) = false) ∧ Hid (AtP wr w.heap.size x) ∧ Hid (Below w.heap.size w wr)) (fun i _ => LL.length - (intOf i).toNat)
  case atStart => exact ⟨0, Nat.zero_le _, rfl, Lib.hid (by simp), Lib.hid (alloc_at _ _ _ rfl), Lib.hid (below_alloc _ _)⟩
  case round =>
    obtain ⟨k, hk, rfl, HA, HX, HB⟩ := hrel
    by_cases hlt : k < LL.length
    · obtain ⟨b, o, rv, rfl, hbl, hc, hrd⟩ := HC.out k hlt
      have q0 : wr.cell? ⟨b, o + k, none⟩ = some rv := by rw [HB.out.cell (p := ⟨b, o + k, none⟩) hbl]; exact hc
      have hl2 := (hl1.out LL[k] (List.getElem_mem hlt)).1
      have HG := Lib.hid ((hl1.out LL[k] (List.getElem_mem hlt)).2)
      have HRD := Lib.hid (hrd.below HB.out)
      clear hc hbl hrd
      obtain ⟨x0, x1, x2, x3, x4⟩ := HX.out.cells
      have HLT := Lib.hid hlt
      obtain ⟨s, hs⟩ : ∃ s, rowC x LL[k] = s := ⟨_, rfl⟩
      have HS := Lib.hid hs
      clear hs
      go_wp2_with (go_at_call 51; (with_reducible refine (allHold_any rv LL[k] x _ HRD.out hl2 HG zx s HS).mono ?_); rintro e w1 ⟨rfl, hb⟩; have HX3 := Lib.hid (HX.out.below hb); have HB1 := Lib.hid (Below.up HB.out hb); clear hb x0 x1 x2 x3 x4 q0; rcases s with _ | _)
      · go_roundw
        case rel => exact ⟨k + 1, hlt, by go_num, Lib.hid (any_next HLT.out HA.out HS.out), HX3, HB1⟩
        case measure => simp [intOf]; omega
      · go_ret
        refine ⟨ret_bool ?_, HB1.out⟩
        rw [← hres.out]
        exact (List.any_eq_true.2 ⟨LL[k], List.getElem_mem HLT.out, HS.out⟩).symm
    · have HK := Lib.hid (show k = LL.length by omega)
      go_wp2
      go_ret
      refine ⟨ret_bool ?_, HB.out⟩
      have h1 := HA.out
      rw [HK.out, List.take_length] at h1
      rw [← hres.out]
      exact h1.symm
end Go.Proofs.YtagmdhinbkponaaDoor
