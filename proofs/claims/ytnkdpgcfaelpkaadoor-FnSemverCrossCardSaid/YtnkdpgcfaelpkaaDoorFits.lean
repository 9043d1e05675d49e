/-
  laws.zzFits12, laws.zzFits11, spec.GoodTerms, laws.scGood.
-/
import Derived.Test.YtnkdpgcfaelpkaaDoorTermsH
namespace Go.Proofs.YtnkdpgcfaelpkaaDoor
open Go.RowKit
set_option maxRecDepth 100000
set_option linter.unusedVariables false

abbrev fitsT (t : T) : Bool := decide (t.p.size ≤ 2147483647)
def fitsL (L : List T) : Bool := decide (L.length ≤ 2147483647) && L.all fitsT
def fitsLL (LL : List (List T)) : Bool := decide (LL.length ≤ 2147483647) && LL.all fitsL
/-- what can be read -/
def Big (L : List T) : Prop := L.length ≤ 140737488351232 ∧ ∀ t ∈ L, t.p.size ≤ 140737488351232
def BigL (LL : List (List T)) : Prop := LL.length ≤ 140737488351232 ∧ ∀ L ∈ LL, Big L
theorem ReadT.below {w w' : World} {v : Value} {L : List T} (h : ReadT w v L) (b : Below w.heap.size w w') : ReadT w' v L := ReadG.kept h b
theorem all_false_at {α : Type} {f : α → Bool} {l : List α} {k : Nat} (h : k < l.length) (hf : f l[k] = false) : l.all f = false := List.all_eq_false.2 ⟨l[k], List.getElem_mem h, by rw [hf]; simp⟩
theorem all_next {α : Type} {f : α → Bool} {l : List α} {k : Nat} (h : k < l.length) (ht : (l.take k).all f = true) (hf : f l[k] = true) : (l.take (k + 1)).all f = true := all_step (List.getElem?_eq_getElem h) ht hf
set_option maxHeartbeats 2000000 in
theorem zzFits12_any (v : Value) (L : List T) (w : World) (hr : ReadT w v L) (hz : Big L) (r : Bool) (hres : Hid (fitsL L = r)) :
    Calls Tryd.prog 26 #[v] w fun e w' => e = .returned (.bool r) ∧ Below w.heap.size w w' := by
  obtain ⟨A, cap, rfl, hcell⟩ := hr
  have hl := hz.1
  have HC := Lib.hid hcell
  have HZ := Lib.hid hz.2
  clear hcell hz
  by_cases hbig : L.length ≤ 2147483647
  · have HBIG := Lib.hid (show fitsL L = L.all fitsT by unfold fitsL; rw [decide_eq_true hbig]; rfl)
    go_enter Tryd.func26, Tryd.ntmps26
    go_wp2
    go_loopw [10] (fun i wr => ∃ k : Nat, k ≤ L.length ∧ i = .int .i64 k ∧ Hid ((L.take k).all fitsT = true) ∧ Hid (Below w.heap.size w wr)) (fun i _ => L.length - (intOf i).toNat)
    case atStart => exact ⟨0, Nat.zero_le _, rfl, Lib.hid (by simp), Lib.hid (Below.refl _ _)⟩
    case round =>
      obtain ⟨k, hk, rfl, ha, HB⟩ := hrel
      by_cases hlt : k < L.length
      · obtain ⟨b, o, rfl, hbl, hc⟩ := HC.out k hlt
        have q0 : wr.cell? ⟨b, o + k * 6, none⟩ = some (.int .i64 L[k].op) := by rw [HB.out.cell (p := ⟨b, o + k * 6, none⟩) hbl]; exact hc 0 _ rfl
        have q1 : wr.cell? ⟨b, o + k * 6 + 1, none⟩ = some (.int .i64 L[k].g) := by rw [HB.out.cell (p := ⟨b, o + k * 6 + 1, none⟩) hbl]; exact hc 1 _ rfl
        have q2 : wr.cell? ⟨b, o + k * 6 + 2, none⟩ = some (.int .u64 L[k].a) := by rw [HB.out.cell (p := ⟨b, o + k * 6 + 2, none⟩) hbl]; exact hc 2 _ rfl
        have q3 : wr.cell? ⟨b, o + k * 6 + 3, none⟩ = some (.int .u64 L[k].b) := by rw [HB.out.cell (p := ⟨b, o + k * 6 + 3, none⟩) hbl]; exact hc 3 _ rfl
        have q4 : wr.cell? ⟨b, o + k * 6 + 4, none⟩ = some (.int .u64 L[k].c) := by rw [HB.out.cell (p := ⟨b, o + k * 6 + 4, none⟩) hbl]; exact hc 4 _ rfl
        have q5 : wr.cell? ⟨b, o + k * 6 + 5, none⟩ = some (.string L[k].p) := by rw [HB.out.cell (p := ⟨b, o + k * 6 + 5, none⟩) hbl]; exact hc 5 _ rfl
        clear hc hbl
        have hsz := HZ.out L[k] (List.getElem_mem hlt)
        have HLT := Lib.hid hlt
        rcases hfk : fitsT L[k] with _ | _
        · have HFK := Lib.hid hfk
          clear hfk
          go_wp2_with (go_at_call 46; (with_reducible refine (zzFits13_is L[k] false _ hsz HFK).mono ?_); rintro e w1 ⟨rfl, hb⟩; have HB1 := Lib.hid (Below.up HB.out (Below.up (w := wr) (by (repeat (first | exact Below.refl _ _ | apply Below.drew | (apply below_alloc_on (Nat.le_refl _))))) hb)); clear hb)
          go_ret
          refine ⟨ret_bool ?_, HB1.out⟩
          rw [← hres.out, HBIG.out]
          exact (all_false_at HLT.out HFK.out).symm
        · have HFK := Lib.hid hfk
          clear hfk
          go_wp2_with (go_at_call 46; (with_reducible refine (zzFits13_is L[k] true _ hsz HFK).mono ?_); rintro e w1 ⟨rfl, hb⟩; have HB1 := Lib.hid (Below.up HB.out (Below.up (w := wr) (by (repeat (first | exact Below.refl _ _ | apply Below.drew | (apply below_alloc_on (Nat.le_refl _))))) hb)); clear hb)
          go_roundw
          case rel => exact ⟨k + 1, hlt, by go_num, Lib.hid (all_next HLT.out ha.out HFK.out), HB1⟩
          case measure => simp [intOf]; omega
      · have HK := Lib.hid (show k = L.length by omega)
        go_wp2
        go_ret
        refine ⟨ret_bool ?_, HB.out⟩
        have h1 := ha.out
        rw [HK.out, List.take_length] at h1
        rw [← hres.out, HBIG.out]
        exact h1.symm
  · have HR := Lib.hid (show r = false by rw [← hres.out]; unfold fitsL; rw [decide_eq_false hbig]; rfl)
    go_enter Tryd.func26, Tryd.ntmps26
    go_wp2
    go_ret
    exact ⟨ret_bool HR.out.symm, Below.refl _ _⟩
/-- one row of the rows, as it reads later -/
theorem ReadTT.at_ {w : World} {v : Value} {LL : List (List T)} (h : ReadTT w v LL) : ∃ A cap, v = .slice A LL.length cap ∧ ∀ k (_ : k < LL.length), ∃ b o rv, A = some ⟨b, o, none⟩ ∧ b < w.heap.size ∧ w.cell? ⟨b, o + k, none⟩ = some rv ∧ ReadT w rv LL[k] := by
  obtain ⟨R, rfl, ⟨A, cap, rfl, hc⟩, hrow⟩ := h
  refine ⟨A, cap, by simp, fun k hk => ?_⟩
  have hk2 : k < R.length := by simpa using hk
  obtain ⟨b, o, h1, h2, h3⟩ := hc k hk2
  exact ⟨b, o, R[k].1, h1, h2, by simpa using h3 0 _ rfl, by simpa using hrow R[k] (List.getElem_mem hk2)⟩
set_option maxHeartbeats 2000000 in
theorem zzFits11_any (v : Value) (LL : List (List T)) (w : World) (hr : ReadTT w v LL) (hz : BigL LL) (r : Bool) (hres : Hid (fitsLL LL = r)) :
    Calls Tryd.prog 12 #[v] w fun e w' => e = .returned (.bool r) ∧ Below w.heap.size w w' := by
  obtain ⟨A, cap, rfl, hcell⟩ := hr.at_
  have hl := hz.1
  have HC := Lib.hid hcell
  have HZ := Lib.hid hz.2
  clear hcell hz hr
  by_cases hbig : LL.length ≤ 2147483647
  · have HBIG := Lib.hid (show fitsLL LL = LL.all fitsL by unfold fitsLL; rw [decide_eq_true hbig]; rfl)
    go_enter Tryd.func12, Tryd.ntmps12
    go_wp2
    go_loopw [10] (fun i wr => ∃ k : Nat, k ≤ LL.length ∧ i = .int .i64 k ∧ Hid ((LL.take k).all fitsL = true) ∧ Hid (Below w.heap.size w wr)) (fun i _ => LL.length - (intOf i).toNat)
    case atStart => exact ⟨0, Nat.zero_le _, rfl, Lib.hid (by simp), Lib.hid (Below.refl _ _)⟩
    case round =>
      obtain ⟨k, hk, rfl, ha, HB⟩ := hrel
      by_cases hlt : k < LL.length
      · obtain ⟨b, o, rv, rfl, hbl, hc, hrd⟩ := HC.out k hlt
        have q0 : wr.cell? ⟨b, o + k, none⟩ = some rv := by rw [HB.out.cell (p := ⟨b, o + k, none⟩) hbl]; exact hc
        have HRD := Lib.hid (hrd.below HB.out)
        have HSZ := Lib.hid (HZ.out LL[k] (List.getElem_mem hlt))
        obtain ⟨Ar, cr, hrv, _⟩ := hrd
        subst hrv
        clear hc hbl
        have HLT := Lib.hid hlt
        rcases hfk : fitsL LL[k] with _ | _
        · have HFK := Lib.hid hfk
          clear hfk
          go_wp2_with (go_at_call 26; (with_reducible refine (zzFits12_any _ LL[k] _ HRD.out HSZ.out false HFK).mono ?_); rintro e w1 ⟨rfl, hb⟩; have HB1 := Lib.hid (Below.up HB.out hb); clear hb)
          go_ret
          refine ⟨ret_bool ?_, HB1.out⟩
          rw [← hres.out, HBIG.out]
          exact (all_false_at HLT.out HFK.out).symm
        · have HFK := Lib.hid hfk
          clear hfk
          go_wp2_with (go_at_call 26; (with_reducible refine (zzFits12_any _ LL[k] _ HRD.out HSZ.out true HFK).mono ?_); rintro e w1 ⟨rfl, hb⟩; have HB1 := Lib.hid (Below.up HB.out hb); clear hb)
          go_roundw
          case rel => exact ⟨k + 1, hlt, by go_num, Lib.hid (all_next HLT.out ha.out HFK.out), HB1⟩
          case measure => simp [intOf]; omega
      · have HK := Lib.hid (show k = LL.length by omega)
        go_wp2
        go_ret
        refine ⟨ret_bool ?_, HB.out⟩
        have h1 := ha.out
        rw [HK.out, List.take_length] at h1
        rw [← hres.out, HBIG.out]
        exact h1.symm
  · have HR := Lib.hid (show r = false by rw [← hres.out]; unfold fitsLL; rw [decide_eq_false hbig]; rfl)
    go_enter Tryd.func12, Tryd.ntmps12
    go_wp2
    go_ret
    exact ⟨ret_bool HR.out.symm, Below.refl _ _⟩
end Go.Proofs.YtnkdpgcfaelpkaaDoor
