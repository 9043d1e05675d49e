/-
  spec.AllSpoken answers; the law's version without its prerelease.
-/
import Derived.Test.YtagmdhinbkponaaDoorSpHold
import Derived.Test.YtagmdhinbkponaaDoorApp
namespace Go.Proofs.YtagmdhinbkponaaDoor
open Go.RowKit
set_option maxRecDepth 100000
set_option linter.unusedVariables false

theorem spoken_t (t : T) (x : V) (w : World) :
    Calls Tryd.prog 47 #[.agg #[.int .i64 t.op, .int .i64 t.g, .int .u64 t.a, .int .u64 t.b, .int .u64 t.c, .string t.p], .agg #[.int .u64 x.a, .int .u64 x.b, .int .u64 x.c, .string x.p, .string x.m]] w fun e w' => (∃ s, e = .returned (.bool s)) ∧ Below w.heap.size w w' := spoken_any t.op t.g t.a t.b t.c t.p x w
set_option maxHeartbeats 4000000 in
theorem allSpoken_any (v : Value) (LL : List (List T)) (x : V) (w : World) (hr : ReadTT w v LL) (hl0 : LL.length ≤ 1000) (hl1 : ∀ L ∈ LL, L.length ≤ 1000) :
    Calls Tryd.prog 24 #[v, .agg #[.int .u64 x.a, .int .u64 x.b, .int .u64 x.c, .string x.p, .string x.m]] w fun e w' => (∃ s, e = .returned (.bool s)) ∧ Below w.heap.size w w' := by
  obtain ⟨A, cap, rfl, hcell⟩ := hr.at_
  have HC := Lib.hid hcell
  have HL := Lib.hid hl1
  clear hcell hr hl1
  go_enter Tryd.func24, Tryd.ntmps24
  go_wp2
  go_loopw [11] (fun i wr => ∃ k : Nat, k ≤ LL.length ∧ i = .int .i64 k ∧ Hid (AtP wr w.heap.size x) ∧ Hid (Below w.heap.size w wr)) (fun i _ => LL.length - (intOf i).toNat)
  case atStart => exact ⟨0, Nat.zero_le _, rfl, Lib.hid (alloc_at _ _ _ rfl), Lib.hid (below_alloc _ _)⟩
  case round =>
    obtain ⟨k, hk, rfl, HX, HB⟩ := hrel
    by_cases hlt : k < LL.length
    · obtain ⟨b, o, rv, rfl, hbl, hc, hrd⟩ := HC.out k hlt
      have q0 : wr.cell? ⟨b, o + k, none⟩ = some rv := by rw [HB.out.cell (p := ⟨b, o + k, none⟩) hbl]; exact hc
      have hl2 := HL.out LL[k] (List.getElem_mem hlt)
      have hrd2 := hrd.below HB.out
      obtain ⟨A2, cap2, hrv, hcell2⟩ := hrd2
      subst hrv
      generalize LL[k] = L at *
      have HC2 := Lib.hid hcell2
      clear hc hbl hcell2 hrd
      obtain ⟨wo, rfl⟩ : ∃ wo : World, wo = wr := ⟨_, rfl⟩
      go_wp2
      go_loopw [17] (fun j wi => ∃ m : Nat, m ≤ L.length ∧ j = .int .i64 m ∧ Hid (AtP wi w.heap.size x) ∧ Hid (Below wo.heap.size wo wi)) (fun j _ => L.length - (intOf j).toNat)
      case atStart => exact ⟨0, Nat.zero_le _, rfl, HX, Lib.hid (Below.refl _ _)⟩
      case round =>
        obtain ⟨m, hm2, rfl, HX2, HBI⟩ := hrel
        by_cases hltm : m < L.length
        · obtain ⟨b2, o2, rfl, hbl2, hc2⟩ := HC2.out m hltm
          have q0 : wr.cell? ⟨b2, o2 + m * 6, none⟩ = some (.int .i64 L[m].op) := by rw [HBI.out.cell (p := ⟨b2, o2 + m * 6, none⟩) hbl2]; exact hc2 0 _ rfl
          have q1 : wr.cell? ⟨b2, o2 + m * 6 + 1, none⟩ = some (.int .i64 L[m].g) := by rw [HBI.out.cell (p := ⟨b2, o2 + m * 6 + 1, none⟩) hbl2]; exact hc2 1 _ rfl
          have q2 : wr.cell? ⟨b2, o2 + m * 6 + 2, none⟩ = some (.int .u64 L[m].a) := by rw [HBI.out.cell (p := ⟨b2, o2 + m * 6 + 2, none⟩) hbl2]; exact hc2 2 _ rfl
          have q3 : wr.cell? ⟨b2, o2 + m * 6 + 3, none⟩ = some (.int .u64 L[m].b) := by rw [HBI.out.cell (p := ⟨b2, o2 + m * 6 + 3, none⟩) hbl2]; exact hc2 3 _ rfl
          have q4 : wr.cell? ⟨b2, o2 + m * 6 + 4, none⟩ = some (.int .u64 L[m].c) := by rw [HBI.out.cell (p := ⟨b2, o2 + m * 6 + 4, none⟩) hbl2]; exact hc2 4 _ rfl
          have q5 : wr.cell? ⟨b2, o2 + m * 6 + 5, none⟩ = some (.string L[m].p) := by rw [HBI.out.cell (p := ⟨b2, o2 + m * 6 + 5, none⟩) hbl2]; exact hc2 5 _ rfl
          clear hc2 hbl2
          have hxa : AtP (wr.alloc (.cells #[.int .i64 L[m].op, .int .i64 L[m].g, .int .u64 L[m].a, .int .u64 L[m].b, .int .u64 L[m].c, .string L[m].p] 24)) w.heap.size x := HX2.out.below (below_alloc _ _)
          obtain ⟨x0, x1, x2, x3, x4⟩ := hxa.cells
          clear hxa
          go_wp2_with (go_at_call 47; (with_reducible refine (spoken_t L[m] x _).mono ?_); rintro e w1 ⟨⟨s, rfl⟩, hb⟩; have HX3 := Lib.hid (HX2.out.below (Below.up (w := wr) (by (repeat (first | exact Below.refl _ _ | apply Below.drew | (apply below_alloc_on (Nat.le_refl _))))) hb)); have HB1 := Lib.hid (Below.up HBI.out (Below.up (w := wr) (by (repeat (first | exact Below.refl _ _ | apply Below.drew | (apply below_alloc_on (Nat.le_refl _))))) hb)); clear hb x0 x1 x2 x3 x4 q0 q1 q2 q3 q4 q5; rcases s with _ | _)
          · go_ret
            exact ⟨⟨_, rfl⟩, HB.out.trans (HB1.out.mono HB.out.size)⟩
          · go_roundw
            case rel => exact ⟨m + 1, hltm, by go_num, HX3, HB1⟩
            case measure => simp [intOf]; omega
        · have hme : m = L.length := by omega
          have HBF := Lib.hid (HB.out.trans (HBI.out.mono HB.out.size))
          go_wp2
          go_roundw
          case rel => exact ⟨k + 1, hlt, by go_num, HX2, HBF⟩
          case measure => simp [intOf]; omega
    · have hke : k = LL.length := by omega
      go_wp2
      go_ret
      exact ⟨⟨_, rfl⟩, HB.out⟩
end Go.Proofs.YtagmdhinbkponaaDoor
