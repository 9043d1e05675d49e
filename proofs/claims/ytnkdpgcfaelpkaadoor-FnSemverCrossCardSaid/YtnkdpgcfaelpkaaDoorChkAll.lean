/-
  (Constraints).Check and impl.TermsHold over lists of terms.
-/
import Derived.Test.YtnkdpgcfaelpkaaDoorCons2
import Derived.Test.YtnkdpgcfaelpkaaDoorSays
import Derived.Deep.CutBlock
namespace Go.Proofs.YtnkdpgcfaelpkaaDoor
open Go.RowKit
set_option maxRecDepth 100000
set_option linter.unusedVariables false

theorem check_rec (q : TMK) (x : V) (N : Nat) (p r : Bool) (w : World) (hx : AtV w N x ⟨#[]⟩) (hq : RecAt w q) (hn : NumErrs w) (hg : q.1.Good) (gx : x.pGood) (zx : x.p.size ≤ 2147483647) (zt : q.1.p.size ≤ 2147483647) (hr : Hid ((x.inl p && q.1.hold x) = r)) :
    Calls Tryd.prog 49 #[.pointer (some ⟨q.2.2, 0, none⟩), .pointer (some ⟨N, 0, none⟩), .bool p] w fun e w' => (∃ ev, e = .returned (.tuple #[.bool r, ev])) ∧ Below w.heap.size w w' :=
  says_any q.1 x hg.2.1 (fun h => (hg.2.2.2.2.1 (by have : q.1.g = 2 := by simpa [T.patch] using h
                                                    omega)).2) N q.2.1 p r (Lib.hid gx) (Lib.hid hg.2.2.2.2.2.2.2) zx zt hr q.2.2 w (Lib.hid ⟨hx, hq.1, hq.2, hn, Below.refl _ _⟩)
/-- what one list says of a version; what the lists say -/
def rowHolds (x : V) (inc : Bool) (L : List T) : Bool := L.all fun t => x.inl (inc || preOf L) && t.hold x
def termsHold (x : V) (inc : Bool) (LL : List (List T)) : Bool := LL.any (rowHolds x inc)
theorem any_take {α : Type} (f : α → Bool) (l : List α) (k : Nat) (h : k < l.length) (ht : (l.take k).any f = false) (hf : f l[k] = false) : (l.take (k + 1)).any f = false := by
  rw [List.take_succ_eq_append_getElem h, List.any_append, ht]
  simp [hf]
theorem all_step {α : Type} {f : α → Bool} {l : List α} {k : Nat} {a : α} (h : l[k]? = some a) (ht : (l.take k).all f = true) (hf : f a = true) : (l.take (k + 1)).all f = true := by
  rw [List.take_add_one, h, List.all_append, ht]
  simp [hf]
theorem any_true {α : Type} (f : α → Bool) (l : List α) (k : Nat) (h : k < l.length) (hf : f l[k] = true) : l.any f = true := List.any_eq_true.2 ⟨l[k], List.getElem_mem h, hf⟩
set_option maxHeartbeats 8000000 in
theorem checkAll_any (v1 v2 : Value) (R : List (Value × List TMK)) (inc : Bool) (x : V) (N base : Nat) (w : World) (hR : RowsC w base v1 R) (hP : Pres w base v2 ((R.map fun r => r.2.map (·.1)).map preOf)) (hx : AtV w N x ⟨#[]⟩) (hn : NumErrs w)
    (hg : ∀ r ∈ R, ∀ q ∈ r.2, q.1.Good ∧ q.1.p.size ≤ 2147483647) (gx : x.pGood) (zx : x.p.size ≤ 2147483647) (hl : R.length ≤ 1000) (hl2 : ∀ r ∈ R, r.2.length ≤ 1000) (res : Bool) (hres : Hid (termsHold x inc (R.map fun r => r.2.map (·.1)) = res)) :
    Calls Tryd.prog 32 #[.agg #[v1, v2, .bool inc], .pointer (some ⟨N, 0, none⟩)] w fun e w' => e = .returned (.bool res) ∧ Below w.heap.size w w' := by
  obtain ⟨A1, cap1, rfl, hc1⟩ := hR.1.read rc1_len
  obtain ⟨A2, cap2, rfl, hc2⟩ := OwnG.read bc_len hP
  have HC1 := Lib.hid hc1
  have HC2 := Lib.hid hc2
  have HROW := Lib.hid hR.2
  have HX := Lib.hid hx
  have HN := Lib.hid hn
  have HG := Lib.hid hg
  have GX := Lib.hid gx
  have HL2 := Lib.hid hl2
  have hbl : ((R.map fun r => r.2.map (·.1)).map preOf).length = R.length := by simp
  generalize hB : (R.map fun r => r.2.map (·.1)).map preOf = B at *
  have HBB := Lib.hid hB
  have hbl2 : B.length ≤ 1000 := by omega
  have HBL := Lib.hid hbl
  clear hc1 hc2 hR hP hx hn hg gx hl2 hB hbl
  go_enter Tryd.func32, Tryd.ntmps32
  go_wp2_with fail
  have hbox : CsAt (w.alloc (.cells #[.slice A1 R.length cap1, .slice A2 B.length cap2, .bool inc] 55)) w.heap.size (.slice A1 R.length cap1) (.slice A2 B.length cap2) inc := alloc_at _ _ _ rfl
  have hBW : Below w.heap.size w (w.alloc (.cells #[.slice A1 R.length cap1, .slice A2 B.length cap2, .bool inc] 55)) := below_alloc _ _
  generalize (w.alloc (.cells #[.slice A1 R.length cap1, .slice A2 B.length cap2, .bool inc] 55)) = W at *
  have HBOX := Lib.hid hbox
  have HBW := Lib.hid hBW
  clear hbox hBW
  go_loopw [15] (fun i wr => ∃ k : Nat, k ≤ R.length ∧ i = .int .i64 k ∧ Hid (((R.map fun r => r.2.map (·.1)).take k).any (rowHolds x inc) = false) ∧ Hid (Below W.heap.size W wr)) (fun i _ => R.length - (intOf i).toNat)
  case atStart => exact ⟨0, Nat.zero_le _, rfl, Lib.hid rfl, Lib.hid (Below.refl _ _)⟩
  case round =>
    obtain ⟨k, hk, rfl, HF, HB⟩ := hrel
    by_cases hlt : k < R.length
    · obtain ⟨b, o, rfl, hbl, hc⟩ := HC1.out k hlt
      have hwr := HBW.out.trans (HB.out.mono HBW.out.size)
      have HWR := Lib.hid hwr
      have hrow := (HROW.out R[k] (List.getElem_mem hlt)).below hwr
      have hgk := HG.out R[k] (List.getElem_mem hlt)
      have hlk := HL2.out R[k] (List.getElem_mem hlt)
      have c0 : wr.cell? ⟨b, o + k, none⟩ = some R[k].1 := by rw [hwr.cell (p := ⟨b, o + k, none⟩) hbl]; simpa using hc 0 _ rfl
      have hkb : k < B.length := by have := HBL.out; omega
      obtain ⟨b3, o3, rfl, hbl3, hc3⟩ := HC2.out k hkb
      have hfk : B[k] = preOf (R[k].2.map (·.1)) := by
        have := HBB.out
        subst this
        simp
      have d0 : wr.cell? ⟨b3, o3 + k, none⟩ = some (.bool B[k]) := by rw [hwr.cell (p := ⟨b3, o3 + k, none⟩) hbl3]; simpa using hc3 0 _ rfl
      obtain ⟨f0, f1, f2⟩ := (HBOX.out.below HB.out).cells
      have hrk : (R.map fun r => r.2.map (·.1))[k]? = some (R[k].2.map (·.1)) := by rw [List.getElem?_map, List.getElem?_eq_getElem hlt]; rfl
      have HRK := Lib.hid hrk
      have hkm : k < (R.map fun r => r.2.map (·.1)).length := by simpa using hlt
      have HFK := Lib.hid hfk
      have HKM := Lib.hid hkm
      have HKB := Lib.hid hkb
      clear hc hbl hc3 hbl3 hwr hrk hfk hkm
      generalize B[k] = fl at *
      generalize R[k].2 = Q at *
      generalize R[k].1 = rv at *
      obtain ⟨A4, cap4, rfl, hc4⟩ := hrow.1.read kc_len
      have HC4 := Lib.hid hc4
      have HREC := Lib.hid hrow.2
      have HGK := Lib.hid hgk
      clear hc4 hrow hgk
      obtain ⟨wo, rfl⟩ : ∃ wo : World, wo = wr := ⟨_, rfl⟩
      go_upto_block 2 with fail
      go_cut [7] (fun s7 wx => ∃ z, s7 = .bool z ∧ Hid (z = rowHolds x inc (Q.map (·.1))) ∧ Hid (Below wo.heap.size wo wx))
      case first =>
        go_wp2
        go_loopw [7, 22] (fun v7 j wi => ∃ m : Nat, m ≤ Q.length ∧ j = .int .i64 m ∧ v7 = .bool true ∧ Hid (((Q.map (·.1)).take m).all (fun t => x.inl (inc || preOf (Q.map (·.1))) && t.hold x) = true) ∧ Hid (Below wo.heap.size wo wi)) (fun _ j _ => Q.length - (intOf j).toNat)
        case atStart => exact ⟨0, Nat.zero_le _, rfl, rfl, Lib.hid rfl, Lib.hid (Below.refl _ _)⟩
        case round =>
          obtain ⟨m, hm, rfl, rfl, HA, HBI⟩ := hrel
          by_cases hltm : m < Q.length
          · obtain ⟨b2, o2, rfl, hbl2, hc2⟩ := HC4.out m hltm
            have q0 : wr.cell? ⟨b2, o2 + m, none⟩ = some (.pointer (some ⟨Q[m].2.2, 0, none⟩)) := by rw [HBI.out.cell (p := ⟨b2, o2 + m, none⟩) hbl2]; simpa [kc] using hc2 0 _ rfl
            have e0 : wr.cell? ⟨b3, o3 + k, none⟩ = some (.bool fl) := cell_below HBI.out d0
            obtain ⟨g0, g1, g2⟩ := ((HBOX.out.below HB.out).below HBI.out).cells
            have HQM := Lib.hid ((HREC.out Q[m] (List.getElem_mem hltm)).below HBI.out)
            have HGM := Lib.hid (HGK.out Q[m] (List.getElem_mem hltm))
            have hqk : (Q.map (·.1))[m]? = some Q[m].1 := by rw [List.getElem?_map, List.getElem?_eq_getElem hltm]; rfl
            have HQK := Lib.hid hqk
            have HXM := Lib.hid ((HX.out.below HWR.out).below HBI.out)
            have HNM := Lib.hid ((HN.out.below HWR.out).below HBI.out)
            clear hc2 hbl2 hqk
            generalize Q[m] = q at *
            obtain ⟨r, hr⟩ : ∃ r, (x.inl (inc || preOf (Q.map (·.1))) && q.1.hold x) = r := ⟨_, rfl⟩
            have hr2 : (x.inl (inc || fl) && q.1.hold x) = r := by rw [HFK.out]; exact hr
            have HR2 := Lib.hid hr2
            have HR := Lib.hid hr
            clear hr hr2 d0 f0 f1 f2 c0
            rcases r with _ | _
            · rcases inc with _ | _
              · have HR3 : Hid ((x.inl fl && q.1.hold x) = false) := Lib.hid HR2.out
                go_wp2_with (go_at_call 49; (with_reducible refine (check_rec q x N _ false _ HXM.out HQM.out HNM.out HGM.out.1 GX.out zx HGM.out.2 HR3).mono ?_); rintro e w' ⟨⟨ev, rfl⟩, hb⟩; have HB3 := Lib.hid (HBI.out.trans (hb.mono HBI.out.size)); clear hb)
                go_meet
                refine ⟨_, rfl, Lib.hid ?_, HB3⟩
                have h : rowHolds x _ (Q.map (·.1)) = false := List.all_eq_false.2 ⟨q.1, List.mem_of_getElem? HQK.out, by rw [HR.out]; simp⟩
                rw [h]
              · have HR3 : Hid ((x.inl true && q.1.hold x) = false) := Lib.hid HR2.out
                go_wp2_with (go_at_call 49; (with_reducible refine (check_rec q x N _ false _ HXM.out HQM.out HNM.out HGM.out.1 GX.out zx HGM.out.2 HR3).mono ?_); rintro e w' ⟨⟨ev, rfl⟩, hb⟩; have HB3 := Lib.hid (HBI.out.trans (hb.mono HBI.out.size)); clear hb)
                go_meet
                refine ⟨_, rfl, Lib.hid ?_, HB3⟩
                have h : rowHolds x _ (Q.map (·.1)) = false := List.all_eq_false.2 ⟨q.1, List.mem_of_getElem? HQK.out, by rw [HR.out]; simp⟩
                rw [h]
            · rcases inc with _ | _
              · have HR3 : Hid ((x.inl fl && q.1.hold x) = true) := Lib.hid HR2.out
                go_wp2_with (go_at_call 49; (with_reducible refine (check_rec q x N _ true _ HXM.out HQM.out HNM.out HGM.out.1 GX.out zx HGM.out.2 HR3).mono ?_); rintro e w' ⟨⟨ev, rfl⟩, hb⟩; have HB3 := Lib.hid (HBI.out.trans (hb.mono HBI.out.size)); clear hb)
                go_roundw
                case rel => exact ⟨m + 1, hltm, by go_num, rfl, Lib.hid (all_step HQK.out HA.out HR.out), HB3⟩
                case measure => simp [intOf]; omega
              · have HR3 : Hid ((x.inl true && q.1.hold x) = true) := Lib.hid HR2.out
                go_wp2_with (go_at_call 49; (with_reducible refine (check_rec q x N _ true _ HXM.out HQM.out HNM.out HGM.out.1 GX.out zx HGM.out.2 HR3).mono ?_); rintro e w' ⟨⟨ev, rfl⟩, hb⟩; have HB3 := Lib.hid (HBI.out.trans (hb.mono HBI.out.size)); clear hb)
                go_roundw
                case rel => exact ⟨m + 1, hltm, by go_num, rfl, Lib.hid (all_step HQK.out HA.out HR.out), HB3⟩
                case measure => simp [intOf]; omega
          · have hme : m = Q.length := by omega
            have HME := Lib.hid hme
            clear hme
            go_wp2
            go_meet
            refine ⟨_, rfl, Lib.hid ?_, HBI⟩
            have h := HA.out
            rw [HME.out, List.take_of_length_le (by simp)] at h
            have h2 : rowHolds x inc (Q.map (·.1)) = true := h
            rw [h2]
      case rest =>
        obtain ⟨z, rfl, HRZ, HBJ⟩ := hcut
        clear d0 f0 f1 f2 c0
        have hgetk : (R.map fun r => r.2.map (·.1))[k]'HKM.out = Q.map (·.1) := by
          have h := HRK.out
          rw [List.getElem?_eq_getElem HKM.out] at h
          exact Option.some.inj h
        have HGETK := Lib.hid hgetk
        clear hgetk
        rcases z with _ | _
        · have HRH := Lib.hid HRZ.out.symm
          go_wp2
          go_roundw
          case rel => exact ⟨k + 1, hlt, by go_num, Lib.hid (any_take _ _ k HKM.out HF.out (by rw [HGETK.out, HRH.out])), Lib.hid (HB.out.trans (HBJ.out.mono HB.out.size))⟩
          case measure => simp [intOf]; omega
        · have HRH := Lib.hid HRZ.out.symm
          go_wp2
          go_ret
          refine ⟨ret_bool ?_, HBW.out.trans ((HB.out.trans (HBJ.out.mono HB.out.size)).mono HBW.out.size)⟩
          rw [← hres.out]
          exact (any_true _ _ k HKM.out (by rw [HGETK.out, HRH.out])).symm
    · have hke : k = R.length := by omega
      have HKE := Lib.hid hke
      clear hke
      go_wp2
      go_ret
      refine ⟨ret_bool ?_, HBW.out.trans (HB.out.mono HBW.out.size)⟩
      have h := HF.out
      rw [HKE.out, List.take_of_length_le (by simp)] at h
      rw [← hres.out]
      exact h.symm
end Go.Proofs.YtnkdpgcfaelpkaaDoor
