import Derived.Test.YtfcgelohpnphjaaDoorCmp
import Derived.Test.YtfcgelohpnphjaaDoorMetaKind
namespace Go.Proofs.YtfcgelohpnphjaaDoor
open Go.RowKit
set_option maxRecDepth 100000

/-- a prerelease that the laws speak of: not empty, short, and good -/
def M.lawPre (s : ByteArray) : Bool := !(M.bs s).isEmpty && decide (s.size ≤ 65536) && M.goodPre (M.bs s)
theorem M.lawPre_good {s : ByteArray} (h : M.lawPre s = true) : Hid (M.goodPre (M.bs s) = true) := by
  simp only [M.lawPre, Bool.and_eq_true] at h
  exact Lib.hid h.2

set_option maxHeartbeats 1000000 in
theorem spPres_any (v : Value) (L : List ByteArray) (w : World) (hr : ReadS w v L) (hl : L.length ≤ 1099511627776) (hz : ∀ b ∈ L, b.size ≤ 2147483647) :
    Calls Tryd.prog 30 #[v] w fun e w' => e = .returned (.bool (L.all M.lawPre)) ∧ Below w.heap.size w w' := by
  obtain ⟨A, cap, rfl, hcell⟩ := hr
  have HC := Lib.hid hcell
  have HZ := Lib.hid hz
  clear hcell hz
  go_enter Tryd.func30, Tryd.ntmps30
  go_wp2
  go_loopw [7] (fun i wr => ∃ k : Nat, k ≤ L.length ∧ i = .int .i64 k ∧ Hid ((L.take k).all M.lawPre = true) ∧ Hid (Below w.heap.size w wr)) (fun i _ => L.length - (intOf i).toNat)
  case atStart => exact ⟨0, Nat.zero_le _, rfl, Lib.hid (by simp), Lib.hid (Below.refl _ _)⟩
  case round =>
    obtain ⟨k, hk, rfl, ha, HR⟩ := hrel
    by_cases hlt : k < L.length
    · obtain ⟨b, o, rfl, hbl, hcell⟩ := HC.out k hlt
      have hcell2 : wr.cell? ⟨b, o + k, none⟩ = some (.string L[k]) := by rw [HR.out.cell (p := ⟨b, o + k, none⟩) hbl]; exact hcell
      clear hcell hbl
      have hsz := HZ.out L[k] (List.getElem_mem hlt)
      go_wp2_with (first
        | (go_at_call 19; (with_reducible refine (svShort_one _ _ _ (by omega)).mono ?_); rintro e w1 ⟨rfl, hw1⟩; have HB0 := Lib.hid (show Below wr.heap.size wr w1 from hw1 ▸ (Below.refl _ _).alloc (Nat.le_refl _) _); clear hw1)
        | (go_at_call 81; (with_reducible refine (validPre_any _ _ hsz).mono ?_); rintro e w2 ⟨rfl, hb⟩; have HB1 := Lib.hid (HB0.out.trans (hb.mono HB0.out.size)); clear hb)
        | (go_at_call 82; (with_reducible refine (smallPre_any _ _ hsz).mono ?_); rintro e w3 ⟨rfl, hb⟩; have HB2 := Lib.hid (HB1.out.trans (hb.mono HB1.out.size)); clear hb))
      all_goals go_ways
      · have h1 : L[k].toList = [] := by assumption
        go_ret
        refine ⟨ret_bool ?_, HR.out⟩
        rw [listAll_false _ L k hlt (by rw [toList_bs] at h1; simp [M.lawPre, h1])]
      · have h1 : L[k].toList.isEmpty = true ∨ (!M.smallPre (M.bs L[k])) = true := by assumption
        have h0 : ¬ L[k].toList = [] := by assumption
        go_ret
        refine ⟨ret_bool ?_, HR.out.trans (HB2.out.mono HR.out.size)⟩
        rw [listAll_false _ L k hlt]
        rcases h1 with h1 | h1
        · exact absurd (List.isEmpty_iff.1 h1) h0
        · rw [Bool.not_eq_true'] at h1
          simp [M.lawPre, M.goodPre, h1]
      · have h1 : L[k].toList.isEmpty = false ∧ (!M.smallPre (M.bs L[k])) = false := by assumption
        have h2 : L[k].size ≤ 65536 := by assumption
        have h3 : M.validPre (M.bs L[k]) = true := by assumption
        have HV := Lib.hid (show M.lawPre L[k] = true by
          obtain ⟨h4, h5⟩ := h1
          rw [Bool.not_eq_false'] at h5
          rw [toList_bs] at h4
          rw [M.lawPre, M.goodPre, h3, h4, h5, decide_eq_true h2]; rfl)
        clear h1 h2 h3
        go_roundw
        case rel => exact ⟨k + 1, hlt, by go_num, Lib.hid (listAll_take _ L k hlt ha.out HV.out), Lib.hid (HR.out.trans (HB2.out.mono HR.out.size))⟩
        case measure => simp [intOf]; omega
      · have h1 : ¬ M.validPre (M.bs L[k]) = true := by assumption
        go_ret
        refine ⟨ret_bool ?_, HR.out.trans (HB1.out.mono HR.out.size)⟩
        rw [listAll_false _ L k hlt (by simp [M.lawPre, M.goodPre, h1])]
      · have h1 : ¬ L[k].size ≤ 65536 := by assumption
        go_ret
        refine ⟨ret_bool ?_, HR.out.trans (HB0.out.mono HR.out.size)⟩
        rw [listAll_false _ L k hlt (by simp [M.lawPre, h1])]
    · have HK := Lib.hid (show k = L.length by omega)
      go_wp2
      go_ret
      refine ⟨ret_bool ?_, HR.out⟩
      have h1 := ha.out
      rw [HK.out, List.take_length] at h1
      exact h1.symm
theorem ReadS.three (w : World) (t : TypeId) (a b c : ByteArray) : ReadS (w.alloc (.cells #[.string a, .string b, .string c] t)) (.slice (some ⟨w.heap.size, 0, none⟩) 3 3) [a, b, c] := by
  refine ⟨some ⟨w.heap.size, 0, none⟩, 3, rfl, fun i hi => ⟨w.heap.size, 0, rfl, by simp, ?_⟩⟩
  have hi3 : i < 3 := hi
  obtain rfl | rfl | rfl : i = 0 ∨ i = 1 ∨ i = 2 := by omega
  all_goals go_simp
theorem spPres_three (w : World) (t : TypeId) (a b c : ByteArray) (r : Bool) (ha : a.size ≤ 2147483647) (hb : b.size ≤ 2147483647) (hc : c.size ≤ 2147483647) (hr : Hid ([a, b, c].all M.lawPre = r)) :
    Calls Tryd.prog 30 #[.slice (some ⟨w.heap.size, 0, none⟩) 3 3] (w.alloc (.cells #[.string a, .string b, .string c] t)) fun e w' => e = .returned (.bool r) ∧ Below w.heap.size w w' := by
  have := spPres_any _ [a, b, c] _ (ReadS.three w t a b c) (by simp) (by simp [ha, hb, hc])
  rw [hr.out] at this
  exact this.mono fun e w' h => ⟨h.1, ((Below.refl _ _).alloc (Nat.le_refl _) _).trans (h.2.mono (by simp))⟩
theorem implComparePre_is (s o : ByteArray) (r : Int) (w : World) (hs : s.size ≤ 2147483647) (ho : o.size ≤ 2147483647) (hn : NumErrs w)
    (gs : Hid (M.goodPre (M.bs s) = true)) (go : Hid (M.goodPre (M.bs o) = true)) (hr : Hid (M.cmpPre (M.bs s) (M.bs o) = r)) :
    Calls Tryd.prog 31 #[.string s, .string o] w fun e w' => e = .returned (.int .i64 r) ∧ Below w.heap.size w w' := by
  have := implComparePre_any s o w hs ho hn gs go
  rw [hr.out] at this
  exact this
theorem eq_list (a b : ByteArray) : (a.toList == b.toList) = decide (M.bs a = M.bs b) := by
  rw [toList_bs, toList_bs]
  by_cases h : M.bs a = M.bs b
  · simp [h]
  · rw [decide_eq_false h]; simpa using h
theorem cmpPre_eq {a b : ByteArray} {x : Int} (h : M.cmpPre (M.bs a) (M.bs b) = x) : (a.toList == b.toList) = decide (x = 0) := by
  rw [eq_list]
  exact decide_eq_decide.2 ((M.cmpPre_cmp.iff _ _).symm.trans (by rw [h]))

def numG : List Nat := [9, 10]
theorem numErrs_of {w : World} {sa : Nat → Addr} (h : Sent.Errs numG w sa) : NumErrs w := ⟨⟨_, _, h.var 0 (by decide)⟩, ⟨_, _, h.var 1 (by decide)⟩⟩
/-- an entry that is an interface's value -/
def isE : String × DataW Unit → Bool
  | (_, .iface _ _) => true
  | _ => false

set_option maxHeartbeats 2000000 in
theorem preOrder_law (a b c : ByteArray) (w : World) (h : NumErrs w) (ha0 : a.size ≤ 140737488351232) (hb0 : b.size ≤ 140737488351232) (hc0 : c.size ≤ 140737488351232) :
    Calls Tryd.prog 6 #[.string a, .string b, .string c] w fun e w' => e = .returned (.bool true) ∧ Below w.heap.size w w' := by
  by_cases hbig : 2147483647 < a.size ∨ 2147483647 < b.size ∨ 2147483647 < c.size
  · go_enter Tryd.func6, Tryd.ntmps6
    rcases Nat.lt_or_ge 2147483647 a.size with h1 | h1 <;> rcases Nat.lt_or_ge 2147483647 b.size with h2 | h2 <;> rcases Nat.lt_or_ge 2147483647 c.size with h3 | h3
    all_goals first
      | omega
      | (go_wp2; go_ret; exact ⟨rfl, Below.refl _ _⟩)
  · have ha : a.size ≤ 2147483647 := by omega
    have hb : b.size ≤ 2147483647 := by omega
    have hc : c.size ≤ 2147483647 := by omega
    have HN := Lib.hid h
    clear h hbig ha0 hb0 hc0
    cases hg : [a, b, c].all M.lawPre with
    | false =>
      have HG := Lib.hid hg
      clear hg
      go_enter Tryd.func6, Tryd.ntmps6
      go_wp2_with (go_at_call 30; (with_reducible refine (spPres_three _ _ _ _ _ false ha hb hc HG).mono ?_); rintro e w1 ⟨rfl, hb0⟩; have HB0 := Lib.hid hb0; clear hb0)
      go_ret
      exact ⟨rfl, HB0.out⟩
    | true =>
      have HG := Lib.hid hg
      simp only [List.all_cons, List.all_nil, Bool.and_true, Bool.and_eq_true] at hg
      have GA := M.lawPre_good hg.1
      have GB := M.lawPre_good hg.2.1
      have GC := M.lawPre_good hg.2.2
      clear hg
      have xr := M.cmpPre_cmp.range (M.bs a) (M.bs b)
      have yr := M.cmpPre_cmp.range (M.bs b) (M.bs c)
      have zr := M.cmpPre_cmp.range (M.bs a) (M.bs c)
      have HW0 := Lib.hid (M.cmpPre_cmp.neg (M.bs a) (M.bs b))
      have HE := Lib.hid (M.cmpPre_cmp.iff (M.bs a) (M.bs b))
      have HF := Lib.hid (M.cmpPre_cmp.iff (M.bs a) (M.bs c))
      have HT := Lib.hid (fun h1 h2 => M.cmpPre_cmp.le (a := M.bs a) (b := M.bs b) (c := M.bs c) h1 h2)
      rcases xr with hx | hx | hx <;> rcases yr with hy | hy | hy <;> rcases zr with hz | hz | hz
      all_goals
        have HX := Lib.hid hx
        have HY := Lib.hid hy
        have HZ := Lib.hid hz
        have HV := Lib.hid (HW0.out.trans (congrArg Neg.neg hx))
      all_goals first
        | (exfalso; have h1 := (HT.out (by omega) (by omega)).1; omega)
        | skip
      all_goals
        have hab := cmpPre_eq hx
        have hac := cmpPre_eq hz
        simp (config := {decide := true}) only at hab hac
        clear hx hy hz HW0 HE HF HT
        try simp only [Int.neg_neg, Int.neg_zero] at HV
      all_goals
        go_enter Tryd.func6, Tryd.ntmps6
        go_wp2_with (first
          | (go_at_call 30; (with_reducible refine (spPres_three _ _ _ _ _ true ha hb hc HG).mono ?_); rintro e w1 ⟨rfl, hb0⟩; have HB0 := Lib.hid hb0; clear hb0)
          | (go_at_call 31; (with_reducible refine (implComparePre_is _ _ _ _ ha hb (HN.out.below HB0.out) GA GB HX).mono ?_); rintro e w2 ⟨rfl, hb0⟩; have HB1 := Lib.hid (HB0.out.trans (hb0.mono HB0.out.size)); clear hb0)
          | (go_at_call 31; (with_reducible refine (implComparePre_is _ _ _ _ hb hc (HN.out.below HB1.out) GB GC HY).mono ?_); rintro e w3 ⟨rfl, hb0⟩; have HB2 := Lib.hid (HB1.out.trans (hb0.mono HB1.out.size)); clear hb0)
          | (go_at_call 31; (with_reducible refine (implComparePre_is _ _ _ _ ha hc (HN.out.below HB2.out) GA GC HZ).mono ?_); rintro e w4 ⟨rfl, hb0⟩; have HB3 := Lib.hid (HB2.out.trans (hb0.mono HB2.out.size)); clear hb0)
          | (go_at_call 31; (with_reducible refine (implComparePre_is _ _ _ _ hb ha (HN.out.below HB3.out) GB GA HV).mono ?_); rintro e w5 ⟨rfl, hb0⟩; have HB4 := Lib.hid (HB3.out.trans (hb0.mono HB3.out.size)); clear hb0))
        go_ret
        exact ⟨rfl, HB4.out⟩
end Go.Proofs.YtfcgelohpnphjaaDoor
