/-
  laws.svGood: over a slice of versions.
-/
import Derived.Test.YtopaileliohpdaaDoorGood
namespace Go.Proofs.YtopaileliohpdaaDoor
open Go.RowKit
set_option maxRecDepth 100000

/-- slice v reads as the versions L -/
def ReadV (w : World) (v : Value) (L : List V) : Prop :=
  ∃ A cap, v = .slice A L.length cap ∧ ∀ i (_ : i < L.length), ∃ b o, A = some ⟨b, o, none⟩ ∧ b < w.heap.size ∧
    w.cell? ⟨b, o + i * 5, none⟩ = some (.int .u64 L[i].a) ∧ w.cell? ⟨b, o + i * 5 + 1, none⟩ = some (.int .u64 L[i].b) ∧ w.cell? ⟨b, o + i * 5 + 2, none⟩ = some (.int .u64 L[i].c) ∧
    w.cell? ⟨b, o + i * 5 + 3, none⟩ = some (.string L[i].p) ∧ w.cell? ⟨b, o + i * 5 + 4, none⟩ = some (.string L[i].m)

theorem ReadS.two (w : World) (t : TypeId) (a b : ByteArray) : ReadS (w.alloc (.cells #[.string a, .string b] t)) (.slice (some ⟨w.heap.size, 0, none⟩) 2 2) [a, b] := by
  refine ⟨some ⟨w.heap.size, 0, none⟩, 2, rfl, fun i hi => ⟨w.heap.size, 0, rfl, by simp, ?_⟩⟩
  have hi3 : i < 2 := hi
  obtain rfl | rfl : i = 0 ∨ i = 1 := by omega
  all_goals go_simp
theorem svShort_two (w : World) (t : TypeId) (a b : ByteArray) (ha : a.size ≤ 140737488351232) (hb : b.size ≤ 140737488351232) :
    Calls Tryd.prog 13 #[.slice (some ⟨w.heap.size, 0, none⟩) 2 2] (w.alloc (.cells #[.string a, .string b] t)) fun e w' => e = .returned (.bool (decide (a.size ≤ 65536) && decide (b.size ≤ 65536))) ∧ w' = w.alloc (.cells #[.string a, .string b] t) := by
  have := svShort_any _ [a, b] _ (ReadS.two w t a b) (by simp) (by simp [ha, hb])
  simpa using this

theorem svShort_two_at (n : Nat) (w : World) (t : TypeId) (a b : ByteArray) (hn : n = w.heap.size) (ha : a.size ≤ 140737488351232) (hb : b.size ≤ 140737488351232) :
    Calls Tryd.prog 13 #[.slice (some ⟨n, 0, none⟩) 2 2] (w.alloc (.cells #[.string a, .string b] t)) fun e w' => e = .returned (.bool (decide (a.size ≤ 65536) && decide (b.size ≤ 65536))) ∧ w' = w.alloc (.cells #[.string a, .string b] t) := by
  subst hn
  exact svShort_two w t a b ha hb

theorem Below.up {w X w2 : World} (h1 : Below w.heap.size w X) (h2 : Below X.heap.size X w2) : Below w.heap.size w w2 := h1.trans (h2.mono h1.size)

def V.short (x : V) : Bool := decide (x.p.size ≤ 65536) && decide (x.m.size ≤ 65536)
def V.law (x : V) : Bool := x.short && x.good

set_option maxHeartbeats 1000000 in
theorem svGood_big (v : Value) (L : List V) (w : World) (hr : ReadV w v L) (hl : L.length ≤ 1099511627776) (hz : ∀ x ∈ L, x.p.size ≤ 140737488351232 ∧ x.m.size ≤ 140737488351232) :
    Calls Tryd.prog 12 #[v] w fun e w' => e = .returned (.bool (L.all V.law)) ∧ Below w.heap.size w w' := by
  obtain ⟨A, cap, rfl, hcell⟩ := hr
  have HC := Lib.hid hcell
  have HZ := Lib.hid hz
  clear hcell hz
  go_enter Tryd.func12, Tryd.ntmps12
  go_wp2
  go_loopw [7] (fun i wr => ∃ k : Nat, k ≤ L.length ∧ i = .int .i64 k ∧ Hid ((L.take k).all V.law = true) ∧ Hid (Below w.heap.size w wr)) (fun i _ => L.length - (intOf i).toNat)
  case atStart => exact ⟨0, Nat.zero_le _, rfl, Lib.hid (by simp), Lib.hid (Below.refl _ _)⟩
  case round =>
    obtain ⟨k, hk, rfl, ha, HR⟩ := hrel
    by_cases hlt : k < L.length
    · obtain ⟨b, o, rfl, hbl, q0, q1, q2, q3, q4⟩ := HC.out k hlt
      have c0 : wr.cell? ⟨b, o + k * 5, none⟩ = _ := (HR.out.cell (p := ⟨b, o + k * 5, none⟩) hbl).trans q0
      have c1 : wr.cell? ⟨b, o + k * 5 + 1, none⟩ = _ := (HR.out.cell (p := ⟨b, o + k * 5 + 1, none⟩) hbl).trans q1
      have c2 : wr.cell? ⟨b, o + k * 5 + 2, none⟩ = _ := (HR.out.cell (p := ⟨b, o + k * 5 + 2, none⟩) hbl).trans q2
      have c3 : wr.cell? ⟨b, o + k * 5 + 3, none⟩ = _ := (HR.out.cell (p := ⟨b, o + k * 5 + 3, none⟩) hbl).trans q3
      have c4 : wr.cell? ⟨b, o + k * 5 + 4, none⟩ = _ := (HR.out.cell (p := ⟨b, o + k * 5 + 4, none⟩) hbl).trans q4
      clear q0 q1 q2 q3 q4 hbl
      have hsz := HZ.out L[k] (List.getElem_mem hlt)
      have hz1 : L[k].p.size ≤ 140737488351232 := by omega
      have hz2 : L[k].m.size ≤ 140737488351232 := by omega
      have ZL := Lib.hid hsz
      clear hsz
      go_wp2_with (first
        | (go_at_call 13; refine (svShort_two_at _ _ _ _ _ (by simp) hz1 hz2).mono ?_; rintro e w1 ⟨rfl, rfl⟩)
        | (go_at_call 39; refine (good_any L[k] _ (by have h9 : L[k].p.size ≤ 65536 ∧ L[k].m.size ≤ 65536 := (by assumption); omega) (by have h9 : L[k].p.size ≤ 65536 ∧ L[k].m.size ≤ 65536 := (by assumption); omega)).mono ?_; rintro e w2 ⟨rfl, hb⟩; have HB1 := Lib.hid hb; clear hb))
      all_goals go_ways
      · have h1 : (!L[k].good) = true := by assumption
        rw [Bool.not_eq_true'] at h1
        go_ret
        refine ⟨ret_bool ?_, Below.up HR.out (Below.up ?_ HB1.out)⟩
        · rw [listAll_false _ L k hlt (by rw [V.law, h1, Bool.and_false])]
        · (repeat (first | exact Below.refl _ _ | apply Below.drew | (apply below_alloc_on (Nat.le_refl _))))
      · have h1 : (!L[k].good) = false := by assumption
        have h2 : L[k].p.size ≤ 65536 ∧ L[k].m.size ≤ 65536 := by assumption
        rw [Bool.not_eq_false'] at h1
        have HV := Lib.hid (show V.law L[k] = true by rw [V.law, V.short, h1, decide_eq_true h2.1, decide_eq_true h2.2]; rfl)
        clear h1 h2
        go_roundw
        case rel => exact ⟨k + 1, hlt, by go_num, Lib.hid (listAll_take _ L k hlt ha.out HV.out), Lib.hid (Below.up HR.out (Below.up (by (repeat (first | exact Below.refl _ _ | apply Below.drew | (apply below_alloc_on (Nat.le_refl _))))) HB1.out))⟩
        case measure => simp [intOf]; omega
      · have h1 : ¬(L[k].p.size ≤ 65536 ∧ L[k].m.size ≤ 65536) := by assumption
        go_ret
        refine ⟨ret_bool ?_, Below.up HR.out ?_⟩
        · rw [listAll_false _ L k hlt]
          rw [V.law, V.short]
          rw [Classical.not_and_iff_not_or_not] at h1
          rcases h1 with h | h <;> simp [h]
        · (repeat (first | exact Below.refl _ _ | apply Below.drew | (apply below_alloc_on (Nat.le_refl _))))
    · have HK := Lib.hid (show k = L.length by omega)
      go_wp2
      go_ret
      refine ⟨ret_bool ?_, HR.out⟩
      have h1 := ha.out
      rw [HK.out, List.take_length] at h1
      exact h1.symm
theorem svGood_any (v : Value) (L : List V) (w : World) (hr : ReadV w v L) (hl : L.length ≤ 1099511627776) (hz : ∀ x ∈ L, x.p.size ≤ 2147483647 ∧ x.m.size ≤ 2147483647) :
    Calls Tryd.prog 12 #[v] w fun e w' => e = .returned (.bool (L.all V.law)) ∧ Below w.heap.size w w' :=
  svGood_big v L w hr hl fun x hx => ⟨by have := (hz x hx).1; omega, by have := (hz x hx).2; omega⟩
end Go.Proofs.YtopaileliohpdaaDoor
