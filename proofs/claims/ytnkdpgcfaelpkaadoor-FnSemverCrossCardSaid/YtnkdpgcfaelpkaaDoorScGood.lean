/-
  spec.GoodTerms and laws.scGood.
-/
import Derived.Test.YtnkdpgcfaelpkaaDoorFits
import Derived.Deep.CutBlock
namespace Go.Proofs.YtnkdpgcfaelpkaaDoor
open Go.RowKit
set_option maxRecDepth 100000
set_option linter.unusedVariables false

noncomputable def rowG (L : List T) : Bool := !L.isEmpty && L.all T.goodB
def total (LL : List (List T)) : Nat := LL.flatten.length
noncomputable def gtB (LL : List (List T)) (most : Nat) : Bool := !LL.isEmpty && LL.all rowG && decide (total LL ≤ most)
theorem total_take (LL : List (List T)) (k : Nat) (h : k < LL.length) : total (LL.take (k + 1)) = total (LL.take k) + LL[k].length := by
  unfold total
  rw [List.take_succ_eq_append_getElem h, List.flatten_append, List.length_append]
  simp
theorem total_le (LL : List (List T)) (k : Nat) : total (LL.take k) ≤ total LL := by
  unfold total
  have h : (LL.take k).flatten ++ (LL.drop k).flatten = LL.flatten := by rw [← List.flatten_append, List.take_append_drop]
  rw [← h, List.length_append]
  omega
def short64 (t : T) : Bool := decide (t.p.size ≤ 64)
noncomputable def scB (LL : List (List T)) : Bool := gtB LL 24 && LL.all (fun L => L.all short64)
set_option maxHeartbeats 4000000 in
theorem goodTerms_any (v : Value) (LL : List (List T)) (most : Nat) (w : World) (hr : ReadTT w v LL) (hf : fitsLL LL = true) (hm : most ≤ 1000) (r : Bool) (hres : Hid (gtB LL most = r)) :
    Calls Tryd.prog 27 #[v, .int .i64 most] w fun e w' => e = .returned (.bool r) ∧ Below w.heap.size w w' := by
  obtain ⟨A, cap, rfl, hcell⟩ := hr.at_
  unfold fitsLL at hf
  rw [Bool.and_eq_true, decide_eq_true_eq] at hf
  have hl := hf.1
  have HC := Lib.hid hcell
  have HF := Lib.hid (List.all_eq_true.1 hf.2)
  clear hcell hf hr
  go_enter Tryd.func27, Tryd.ntmps27
  go_wp2
  go_loopw [5, 12] (fun v5 i wr => ∃ (k n : Nat), k ≤ LL.length ∧ i = .int .i64 k ∧ v5 = .int .i64 n ∧ n ≤ most ∧ Hid (n = total (LL.take k)) ∧ Hid ((LL.take k).all rowG = true) ∧ Hid (Below w.heap.size w wr)) (fun _ i _ => LL.length - (intOf i).toNat)
  case atStart => exact ⟨0, 0, Nat.zero_le _, rfl, rfl, Nat.zero_le _, Lib.hid rfl, Lib.hid rfl, Lib.hid (Below.refl _ _)⟩
  case round =>
    obtain ⟨k, n, hk, rfl, rfl, hnm, HNT, HA, HB⟩ := hrel
    by_cases hlt : k < LL.length
    · obtain ⟨b, o, rv, rfl, hbl, hc, hrd⟩ := HC.out k hlt
      have q0 : wr.cell? ⟨b, o + k, none⟩ = some rv := by rw [HB.out.cell (p := ⟨b, o + k, none⟩) hbl]; exact hc
      have hfk := HF.out LL[k] (List.getElem_mem hlt)
      have HTT := Lib.hid (total_take LL k hlt)
      have HLK := Lib.hid (List.getElem?_eq_getElem hlt)
      have hrd2 := hrd.below HB.out
      obtain ⟨A2, cap2, hrv, hcell2⟩ := hrd2
      subst hrv
      generalize LL[k] = L at *
      unfold fitsL at hfk
      rw [Bool.and_eq_true, decide_eq_true_eq] at hfk
      have hl2 := hfk.1
      have HFT := Lib.hid (List.all_eq_true.1 hfk.2)
      have HC2 := Lib.hid hcell2
      clear hc hbl hfk hcell2 hrd
      obtain ⟨wo, rfl⟩ : ∃ wo : World, wo = wr := ⟨_, rfl⟩
      go_wp2
      go_loopw [18] (fun j wi => ∃ m : Nat, m ≤ L.length ∧ j = .int .i64 m ∧ Hid ((L.take m).all T.goodB = true) ∧ Hid (Below wo.heap.size wo wi)) (fun j _ => L.length - (intOf j).toNat)
      case atStart => exact ⟨0, Nat.zero_le _, rfl, Lib.hid rfl, Lib.hid (Below.refl _ _)⟩
      case round =>
        obtain ⟨m, hm2, rfl, HAM, HBI⟩ := hrel
        by_cases hltm : m < L.length
        · obtain ⟨b2, o2, rfl, hbl2, hc2⟩ := HC2.out m hltm
          have q0 : wr.cell? ⟨b2, o2 + m * 6, none⟩ = some (.int .i64 L[m].op) := by rw [HBI.out.cell (p := ⟨b2, o2 + m * 6, none⟩) hbl2]; exact hc2 0 _ rfl
          have q1 : wr.cell? ⟨b2, o2 + m * 6 + 1, none⟩ = some (.int .i64 L[m].g) := by rw [HBI.out.cell (p := ⟨b2, o2 + m * 6 + 1, none⟩) hbl2]; exact hc2 1 _ rfl
          have q2 : wr.cell? ⟨b2, o2 + m * 6 + 2, none⟩ = some (.int .u64 L[m].a) := by rw [HBI.out.cell (p := ⟨b2, o2 + m * 6 + 2, none⟩) hbl2]; exact hc2 2 _ rfl
          have q3 : wr.cell? ⟨b2, o2 + m * 6 + 3, none⟩ = some (.int .u64 L[m].b) := by rw [HBI.out.cell (p := ⟨b2, o2 + m * 6 + 3, none⟩) hbl2]; exact hc2 3 _ rfl
          have q4 : wr.cell? ⟨b2, o2 + m * 6 + 4, none⟩ = some (.int .u64 L[m].c) := by rw [HBI.out.cell (p := ⟨b2, o2 + m * 6 + 4, none⟩) hbl2]; exact hc2 4 _ rfl
          have q5 : wr.cell? ⟨b2, o2 + m * 6 + 5, none⟩ = some (.string L[m].p) := by rw [HBI.out.cell (p := ⟨b2, o2 + m * 6 + 5, none⟩) hbl2]; exact hc2 5 _ rfl
          clear hc2 hbl2
          have hsz : L[m].p.size ≤ 2147483647 := of_decide_eq_true (HFT.out L[m] (List.getElem_mem hltm))
          have HLT := Lib.hid hltm
          rcases hgm : T.goodB L[m] with _ | _
          · have HGM := Lib.hid hgm
            clear hgm
            go_wp2_with (go_at_call 47; (with_reducible refine (goodTerm_is L[m] false _ hsz HGM).mono ?_); rintro e w1 ⟨rfl, hb⟩; have HB1 := Lib.hid (Below.up HBI.out (Below.up (w := wr) (by (repeat (first | exact Below.refl _ _ | apply Below.drew | (apply below_alloc_on (Nat.le_refl _))))) hb)); clear hb)
            go_ret
            refine ⟨ret_bool ?_, HB.out.trans (HB1.out.mono HB.out.size)⟩
            rw [← hres.out]
            have h1 : rowG L = false := by unfold rowG; rw [all_false_at HLT.out HGM.out, Bool.and_false]
            have h2 : LL.all rowG = false := List.all_eq_false.2 ⟨L, List.mem_of_getElem? HLK.out, by rw [h1]; simp⟩
            unfold gtB
            rw [h2]
            simp
          · have HGM := Lib.hid hgm
            clear hgm
            go_wp2_with (go_at_call 47; (with_reducible refine (goodTerm_is L[m] true _ hsz HGM).mono ?_); rintro e w1 ⟨rfl, hb⟩; have HB1 := Lib.hid (Below.up HBI.out (Below.up (w := wr) (by (repeat (first | exact Below.refl _ _ | apply Below.drew | (apply below_alloc_on (Nat.le_refl _))))) hb)); clear hb)
            go_roundw
            case rel => exact ⟨m + 1, hltm, by go_num, Lib.hid (all_next HLT.out HAM.out HGM.out), HB1⟩
            case measure => simp [intOf]; omega
        · have hme : m = L.length := by omega
          have HAL := Lib.hid (show L.all T.goodB = true by have h := HAM.out; rw [hme, List.take_length] at h; exact h)
          have HBF := Lib.hid (HB.out.trans (HBI.out.mono HB.out.size))
          by_cases h0 : L.length = 0
          · have g0 : ((L.length : Int) == 0) = true := by rw [h0]; rfl
            have HR := Lib.hid (show r = false by
              rw [← hres.out]
              have h1 : rowG L = false := by unfold rowG; rw [List.length_eq_zero_iff.1 h0]; rfl
              have h2 : LL.all rowG = false := List.all_eq_false.2 ⟨L, List.mem_of_getElem? HLK.out, by rw [h1]; simp⟩
              unfold gtB
              rw [h2]
              simp)
            clear h0 hme
            go_wp2
            go_ret
            exact ⟨ret_bool HR.out.symm, HBF.out⟩
          · have g0 : ((L.length : Int) == 0) = false := by simpa using h0
            by_cases hgt : most < n + L.length
            · have hgt2 : (most : Int) < (n : Int) + (L.length : Int) := by omega
              have HR := Lib.hid (show r = false by
                rw [← hres.out]
                have h3 : ¬ total LL ≤ most := by have := total_le LL (k + 1); have h5 := HTT.out; have h6 := HNT.out; omega
                unfold gtB
                rw [decide_eq_false h3, Bool.and_false])
              clear h0 hme hgt
              go_wp2
              go_ret
              exact ⟨ret_bool HR.out.symm, HBF.out⟩
            · have hgt2 : (n : Int) + (L.length : Int) ≤ (most : Int) := by omega
              have HG := Lib.hid (show rowG L = true by unfold rowG; rw [HAL.out]; cases L with | nil => exact absurd rfl h0 | cons _ _ => rfl)
              have hnl : n + L.length ≤ most := by omega
              clear h0 hme hgt
              go_wp2
              go_roundw
              case rel => exact ⟨k + 1, n + L.length, hlt, by go_num, by go_num, hnl, Lib.hid (by rw [HTT.out, ← HNT.out]), Lib.hid (all_step HLK.out HA.out HG.out), HBF⟩
              case measure => simp [intOf]; omega
    · have hke : k = LL.length := by omega
      have h1 : total LL = n := by rw [HNT.out, hke, List.take_length]
      have h2 : LL.all rowG = true := by have h := HA.out; rw [hke, List.take_length] at h; exact h
      have HR := Lib.hid (show r = decide (0 < n) by
        rw [← hres.out]
        unfold gtB
        rw [h1, h2, decide_eq_true hnm, Bool.and_true, Bool.and_true]
        cases LL with
        | nil => have : n = 0 := h1.symm.trans rfl
                 subst this; rfl
        | cons L r =>
          have hp : 0 < n := by
            rw [← h1]
            simp only [List.all_cons, Bool.and_eq_true] at h2
            have h3 := h2.1
            unfold rowG at h3
            cases L with
            | nil => cases h3
            | cons _ _ => first | (unfold total; simp; done) | (unfold total; simp; omega)
          rw [decide_eq_true hp]; rfl)
      clear hke h1 h2
      go_wp2
      go_ret
      exact ⟨ret_bool (by rw [HR.out]; first | done | simp), HB.out⟩
set_option maxHeartbeats 4000000 in
theorem scGood_any (v : Value) (LL : List (List T)) (w : World) (hr : ReadTT w v LL) (hf : fitsLL LL = true) (r : Bool) (hres : Hid (scB LL = r)) :
    Calls Tryd.prog 28 #[v] w fun e w' => e = .returned (.bool r) ∧ Below w.heap.size w w' := by
  have HRR := Lib.hid hr
  have HFF := Lib.hid hf
  obtain ⟨A, cap, rfl, hcell⟩ := hr.at_
  unfold fitsLL at hf
  rw [Bool.and_eq_true, decide_eq_true_eq] at hf
  have hl := hf.1
  have HC := Lib.hid hcell
  have HF := Lib.hid (List.all_eq_true.1 hf.2)
  clear hcell hf hr
  have hgt24 : ∀ (q : Bool) (w' : World), gtB LL 24 = q → ReadTT w' (.slice A LL.length cap) LL → Calls Tryd.prog 27 #[.slice A LL.length cap, .int .i64 24] w' fun e w2 => e = .returned (.bool q) ∧ Below w'.heap.size w' w2 := fun q w' hq hr' => goodTerms_any _ LL 24 w' hr' HFF.out (by decide) q (Lib.hid hq)
  have HGT := Lib.hid hgt24
  clear hgt24
  rcases hg : gtB LL 24 with _ | _
  · have HG := Lib.hid hg
    have HR := Lib.hid (show r = false by rw [← hres.out]; unfold scB; rw [hg]; rfl)
    clear hg
    go_enter Tryd.func28, Tryd.ntmps28
    go_wp2_with (go_at_call 27; (with_reducible refine (HGT.out false _ HG.out HRR.out).mono ?_); rintro e w1 ⟨rfl, hb⟩; have HB1 := Lib.hid hb; clear hb)
    go_ret
    exact ⟨ret_bool HR.out.symm, HB1.out⟩
  · have HG := Lib.hid hg
    have HR := Lib.hid (show r = LL.all (fun L => L.all short64) by rw [← hres.out]; unfold scB; rw [hg]; rfl)
    clear hg
    go_enter Tryd.func28, Tryd.ntmps28
    go_wp2_with (go_at_call 27; (with_reducible refine (HGT.out true _ HG.out HRR.out).mono ?_); rintro e w1 ⟨rfl, hb⟩; have HB1 := Lib.hid hb; clear hb)
    go_loopw [12] (fun i wr => ∃ k : Nat, k ≤ LL.length ∧ i = .int .i64 k ∧ Hid ((LL.take k).all (fun L => L.all short64) = true) ∧ Hid (Below w.heap.size w wr)) (fun i _ => LL.length - (intOf i).toNat)
    case atStart => exact ⟨0, Nat.zero_le _, rfl, Lib.hid rfl, HB1⟩
    case round =>
      obtain ⟨k, hk, rfl, HA, HB⟩ := hrel
      by_cases hlt : k < LL.length
      · obtain ⟨b, o, rv, rfl, hbl, hc, hrd⟩ := HC.out k hlt
        have q0 : wr.cell? ⟨b, o + k, none⟩ = some rv := by rw [HB.out.cell (p := ⟨b, o + k, none⟩) hbl]; exact hc
        have hfk := HF.out LL[k] (List.getElem_mem hlt)
        have HLK := Lib.hid (List.getElem?_eq_getElem hlt)
        have hrd2 := hrd.below HB.out
        obtain ⟨A2, cap2, hrv, hcell2⟩ := hrd2
        subst hrv
        generalize LL[k] = L at *
        unfold fitsL at hfk
        rw [Bool.and_eq_true, decide_eq_true_eq] at hfk
        have hl2 := hfk.1
        have HFT := Lib.hid (List.all_eq_true.1 hfk.2)
        have HC2 := Lib.hid hcell2
        clear hc hbl hfk hcell2 hrd
        obtain ⟨wo, rfl⟩ : ∃ wo : World, wo = wr := ⟨_, rfl⟩
        go_wp2
        go_loopw [18] (fun j wi => ∃ m : Nat, m ≤ L.length ∧ j = .int .i64 m ∧ Hid ((L.take m).all short64 = true) ∧ Hid (Below wo.heap.size wo wi)) (fun j _ => L.length - (intOf j).toNat)
        case atStart => exact ⟨0, Nat.zero_le _, rfl, Lib.hid rfl, Lib.hid (Below.refl _ _)⟩
        case round =>
          obtain ⟨m, hm2, rfl, HAM, HBI⟩ := hrel
          by_cases hltm : m < L.length
          · obtain ⟨b2, o2, rfl, hbl2, hc2⟩ := HC2.out m hltm
            have q0 : wr.cell? ⟨b2, o2 + m * 6, none⟩ = some (.int .i64 L[m].op) := by rw [HBI.out.cell (p := ⟨b2, o2 + m * 6, none⟩) hbl2]; exact hc2 0 _ rfl
            have q1 : wr.cell? ⟨b2, o2 + m * 6 + 1, none⟩ = some (.int .i64 L[m].g) := by rw [HBI.out.cell (p := ⟨b2, o2 + m * 6 + 1, none⟩) hbl2]; exact hc2 1 _ rfl
            have q2 : wr.cell? ⟨b2, o2 + m * 6 + 2, none⟩ = some (.int .u64 L[m].a) := by rw [HBI.out.cell (p := ⟨b2, o2 + m * 6 + 2, none⟩) hbl2]; exact hc2 2 _ rfl
            have q3 : wr.cell? ⟨b2, o2 + m * 6 + 3, none⟩ = some (.int .u64 L[m].b) := by rw [HBI.out.cell (p := ⟨b2, o2 + m * 6 + 3, none⟩) hbl2]; exact hc2 3 _ rfl
            have q4 : wr.cell? ⟨b2, o2 + m * 6 + 4, none⟩ = some (.int .u64 L[m].c) := by rw [HBI.out.cell (p := ⟨b2, o2 + m * 6 + 4, none⟩) hbl2]; exact hc2 4 _ rfl
            have q5 : wr.cell? ⟨b2, o2 + m * 6 + 5, none⟩ = some (.string L[m].p) := by rw [HBI.out.cell (p := ⟨b2, o2 + m * 6 + 5, none⟩) hbl2]; exact hc2 5 _ rfl
            clear hc2 hbl2
            have hsz : L[m].p.size ≤ 2147483647 := of_decide_eq_true (HFT.out L[m] (List.getElem_mem hltm))
            have HLT := Lib.hid hltm
            by_cases h64 : L[m].p.size ≤ 64
            · have HS := Lib.hid (show short64 L[m] = true from decide_eq_true h64)
              go_wp2
              go_roundw
              case rel => exact ⟨m + 1, hltm, by go_num, Lib.hid (all_next HLT.out HAM.out HS.out), Lib.hid (Below.up HBI.out (by (repeat (first | exact Below.refl _ _ | apply Below.drew | (apply below_alloc_on (Nat.le_refl _))))))⟩
              case measure => simp [intOf]; omega
            · have HS := Lib.hid (show short64 L[m] = false from decide_eq_false h64)
              go_wp2
              go_ret
              refine ⟨ret_bool ?_, HB.out.trans ((Below.up HBI.out (by (repeat (first | exact Below.refl _ _ | apply Below.drew | (apply below_alloc_on (Nat.le_refl _)))))).mono HB.out.size)⟩
              rw [HR.out]
              exact (List.all_eq_false.2 ⟨L, List.mem_of_getElem? HLK.out, by rw [all_false_at HLT.out HS.out]; simp⟩).symm
          · have hme : m = L.length := by omega
            have HS := Lib.hid (show L.all short64 = true by have h := HAM.out; rw [hme, List.take_length] at h; exact h)
            clear hme
            go_wp2
            go_roundw
            case rel => exact ⟨k + 1, hlt, by go_num, Lib.hid (all_step HLK.out HA.out HS.out), Lib.hid (HB.out.trans (HBI.out.mono HB.out.size))⟩
            case measure => simp [intOf]; omega
      · have HK := Lib.hid (show k = LL.length by omega)
        go_wp2
        go_ret
        refine ⟨ret_bool ?_, HB.out⟩
        have h1 := HA.out
        rw [HK.out, List.take_length] at h1
        rw [HR.out]
        exact h1.symm
end Go.Proofs.YtnkdpgcfaelpkaaDoor
