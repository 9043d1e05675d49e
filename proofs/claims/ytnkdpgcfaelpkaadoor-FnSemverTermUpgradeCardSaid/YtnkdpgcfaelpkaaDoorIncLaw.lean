/-
  laws.FnSemverIncMajorLeast returns true for all versions.
-/
import Derived.Test.YtnkdpgcfaelpkaaDoorBaseB
import Derived.Test.YtnkdpgcfaelpkaaDoorBaseC
namespace Go.Proofs.YtnkdpgcfaelpkaaDoor
open Go.RowKit
set_option maxRecDepth 100000
set_option linter.unusedVariables false
set_option linter.unusedSimpArgs false

def V.plain (x : V) : Bool := x.good && decide (x.a < 18446744073709551615) && decide (x.b < 18446744073709551615) && decide (x.c < 18446744073709551615) && ((M.bs x.m).isEmpty || !(M.bs x.p).isEmpty)
theorem good_is (x : V) (r : Bool) (w : World) (h1 : x.p.size ≤ 2147483647) (h2 : x.m.size ≤ 2147483647) (hr : Hid (x.good = r)) :
    Calls Tryd.prog 19 #[.agg #[.int .u64 x.a, .int .u64 x.b, .int .u64 x.c, .string x.p, .string x.m]] w fun e w' => e = .returned (.bool r) ∧ Below w.heap.size w w' := by
  have := good_any x w h1 h2
  rw [hr.out] at this
  exact this
theorem isEmpty_true {s : ByteArray} (h : (M.bs s).isEmpty = true) : s.toList = [] := empty_toList (by simpa using h)
theorem isEmpty_false {s : ByteArray} (h : (M.bs s).isEmpty = false) : s.toList.isEmpty = false := by rw [toList_bs]; exact h

set_option maxHeartbeats 1000000 in
theorem plain_any (x : V) (w : World) (h1 : x.p.size ≤ 2147483647) (h2 : x.m.size ≤ 2147483647) :
    Calls Tryd.prog 7 #[.agg #[.int .u64 x.a, .int .u64 x.b, .int .u64 x.c, .string x.p, .string x.m]] w fun e w' => e = .returned (.bool x.plain) ∧ Below w.heap.size w w' := by
  generalize hq : x.plain = q
  have HQ := Lib.hid hq
  clear hq
  cases hg : x.good with
  | false =>
    have HG := Lib.hid hg
    have HR := Lib.hid (show q = false by rw [← HQ.out, V.plain, hg]; rfl)
    clear hg
    go_enter Tryd.func7, Tryd.ntmps7
    go_wp2_with (go_at_call 19; (with_reducible refine (good_is x false _ h1 h2 HG).mono ?_); rintro e w1 ⟨rfl, hb⟩; have HB1 := Lib.hid (Below.up (below_alloc _ _) hb); have hp : AtP w1 w.heap.size x := AtP.below (alloc_at _ _ _ rfl) hb; obtain ⟨a0, a1, a2, a3, a4⟩ := hp.cells; clear hp hb)
    go_ret
    exact ⟨ret_bool HR.out.symm, HB1.out⟩
  | true =>
    have HG := Lib.hid hg
    by_cases ha : x.a < 18446744073709551615
    · by_cases hb : x.b < 18446744073709551615
      · by_cases hc : x.c < 18446744073709551615
        · cases hm : (M.bs x.m).isEmpty with
          | true =>
            have iha : (x.a : Int) < 18446744073709551615 := by omega
            have ihb : (x.b : Int) < 18446744073709551615 := by omega
            have ihc : (x.c : Int) < 18446744073709551615 := by omega
            have shm := isEmpty_true hm
            have HR := Lib.hid HQ.out.symm
            rw [V.plain, hg, hm] at HR
            simp only [ha, hb, hc, decide_true, decide_false, Bool.and_true, Bool.true_and, Bool.and_false, Bool.false_and, Bool.or_true, Bool.or_false, Bool.not_true, Bool.not_false] at HR
            clear hg ha hb hc hm
            go_enter Tryd.func7, Tryd.ntmps7
            go_wp2_with (go_at_call 19; (with_reducible refine (good_is x true _ h1 h2 HG).mono ?_); rintro e w1 ⟨rfl, hb⟩; have HB1 := Lib.hid (Below.up (below_alloc _ _) hb); have hp : AtP w1 w.heap.size x := AtP.below (alloc_at _ _ _ rfl) hb; obtain ⟨a0, a1, a2, a3, a4⟩ := hp.cells; clear hp hb)
            go_ret
            exact ⟨ret_bool HR.out.symm, HB1.out⟩
          | false =>
            cases hp : (M.bs x.p).isEmpty with
            | true =>
              have iha : (x.a : Int) < 18446744073709551615 := by omega
              have ihb : (x.b : Int) < 18446744073709551615 := by omega
              have ihc : (x.c : Int) < 18446744073709551615 := by omega
              have shm := isEmpty_false hm
              have shp := isEmpty_true hp
              have HR := Lib.hid HQ.out.symm
              rw [V.plain, hg, hm, hp] at HR
              simp only [ha, hb, hc, decide_true, decide_false, Bool.and_true, Bool.true_and, Bool.and_false, Bool.false_and, Bool.or_true, Bool.or_false, Bool.not_true, Bool.not_false] at HR
              clear hg ha hb hc hm hp
              go_enter Tryd.func7, Tryd.ntmps7
              go_wp2_with (go_at_call 19; (with_reducible refine (good_is x true _ h1 h2 HG).mono ?_); rintro e w1 ⟨rfl, hb⟩; have HB1 := Lib.hid (Below.up (below_alloc _ _) hb); have hp : AtP w1 w.heap.size x := AtP.below (alloc_at _ _ _ rfl) hb; obtain ⟨a0, a1, a2, a3, a4⟩ := hp.cells; clear hp hb)
              go_ret
              exact ⟨ret_bool HR.out.symm, HB1.out⟩
            | false =>
              have iha : (x.a : Int) < 18446744073709551615 := by omega
              have ihb : (x.b : Int) < 18446744073709551615 := by omega
              have ihc : (x.c : Int) < 18446744073709551615 := by omega
              have shm := isEmpty_false hm
              have shp := isEmpty_false hp
              have HR := Lib.hid HQ.out.symm
              rw [V.plain, hg, hm, hp] at HR
              simp only [ha, hb, hc, decide_true, decide_false, Bool.and_true, Bool.true_and, Bool.and_false, Bool.false_and, Bool.or_true, Bool.or_false, Bool.not_true, Bool.not_false] at HR
              clear hg ha hb hc hm hp
              go_enter Tryd.func7, Tryd.ntmps7
              go_wp2_with (go_at_call 19; (with_reducible refine (good_is x true _ h1 h2 HG).mono ?_); rintro e w1 ⟨rfl, hb⟩; have HB1 := Lib.hid (Below.up (below_alloc _ _) hb); have hp : AtP w1 w.heap.size x := AtP.below (alloc_at _ _ _ rfl) hb; obtain ⟨a0, a1, a2, a3, a4⟩ := hp.cells; clear hp hb)
              go_ret
              exact ⟨ret_bool HR.out.symm, HB1.out⟩
        · have iha : (x.a : Int) < 18446744073709551615 := by omega
          have ihb : (x.b : Int) < 18446744073709551615 := by omega
          have ihc : decide ((x.c : Int) < 18446744073709551615) = false := decide_eq_false (by omega)
          have HR := Lib.hid HQ.out.symm
          rw [V.plain, hg] at HR
          simp only [ha, hb, hc, decide_true, decide_false, Bool.and_true, Bool.true_and, Bool.and_false, Bool.false_and, Bool.or_true, Bool.or_false, Bool.not_true, Bool.not_false] at HR
          clear hg ha hb hc
          go_enter Tryd.func7, Tryd.ntmps7
          go_wp2_with (go_at_call 19; (with_reducible refine (good_is x true _ h1 h2 HG).mono ?_); rintro e w1 ⟨rfl, hb⟩; have HB1 := Lib.hid (Below.up (below_alloc _ _) hb); have hp : AtP w1 w.heap.size x := AtP.below (alloc_at _ _ _ rfl) hb; obtain ⟨a0, a1, a2, a3, a4⟩ := hp.cells; clear hp hb)
          go_ret
          exact ⟨ret_bool HR.out.symm, HB1.out⟩
      · have iha : (x.a : Int) < 18446744073709551615 := by omega
        have ihb : decide ((x.b : Int) < 18446744073709551615) = false := decide_eq_false (by omega)
        have HR := Lib.hid HQ.out.symm
        rw [V.plain, hg] at HR
        simp only [ha, hb, decide_true, decide_false, Bool.and_true, Bool.true_and, Bool.and_false, Bool.false_and, Bool.or_true, Bool.or_false, Bool.not_true, Bool.not_false] at HR
        clear hg ha hb
        go_enter Tryd.func7, Tryd.ntmps7
        go_wp2_with (go_at_call 19; (with_reducible refine (good_is x true _ h1 h2 HG).mono ?_); rintro e w1 ⟨rfl, hb⟩; have HB1 := Lib.hid (Below.up (below_alloc _ _) hb); have hp : AtP w1 w.heap.size x := AtP.below (alloc_at _ _ _ rfl) hb; obtain ⟨a0, a1, a2, a3, a4⟩ := hp.cells; clear hp hb)
        go_ret
        exact ⟨ret_bool HR.out.symm, HB1.out⟩
    · have iha : decide ((x.a : Int) < 18446744073709551615) = false := decide_eq_false (by omega)
      have HR := Lib.hid HQ.out.symm
      rw [V.plain, hg] at HR
      simp only [ha, decide_true, decide_false, Bool.and_true, Bool.true_and, Bool.and_false, Bool.false_and, Bool.or_true, Bool.or_false, Bool.not_true, Bool.not_false] at HR
      clear hg ha
      go_enter Tryd.func7, Tryd.ntmps7
      go_wp2_with (go_at_call 19; (with_reducible refine (good_is x true _ h1 h2 HG).mono ?_); rintro e w1 ⟨rfl, hb⟩; have HB1 := Lib.hid (Below.up (below_alloc _ _) hb); have hp : AtP w1 w.heap.size x := AtP.below (alloc_at _ _ _ rfl) hb; obtain ⟨a0, a1, a2, a3, a4⟩ := hp.cells; clear hp hb)
      go_ret
      exact ⟨ret_bool HR.out.symm, HB1.out⟩

theorem V.law_pGood {x : V} (h : x.law = true) : x.pGood := by
  simp only [V.law, V.good, V.pOk, Bool.and_eq_true, Bool.or_eq_true, List.isEmpty_iff] at h
  exact h.2.1
theorem V.bare_pGood (a b c : Nat) : (V.bare a b c).pGood := .inl rfl
theorem inc_above (x : V) : x.cmp (V.bare (x.a + 1) 0 0) < 0 := by
  have h1 : M.seg x.a (x.a + 1) = -1 := by unfold M.seg; rw [if_pos (by omega)]
  have h2 : x.nums3 (V.bare (x.a + 1) 0 0) = -1 := by unfold V.nums3 V.bare; simp only; rw [h1]; rfl
  unfold V.cmp
  rw [h2]
  simp
theorem inc_least (x : V) (k : Nat) (h : ¬ (¬ M.bs x.p = [] ∧ x.b = 0 ∧ x.c = 0)) : (decide (x.cmp (V.bare k 0 0) < 0)) = decide ((V.bare (x.a + 1) 0 0).cmp (V.bare k 0 0) ≤ 0) := by
  have e0 : M.bs (⟨#[]⟩ : ByteArray) = [] := rfl
  have s0 : M.seg 0 0 = 0 := rfl
  unfold V.cmp V.nums3 V.bare
  simp only [s0, ne_eq, not_true_eq_false, if_false, e0, M.preCmp, if_true]
  rcases Nat.lt_trichotomy x.a k with h1 | h1 | h1
  · have a1 : M.seg x.a k = -1 := by unfold M.seg; rw [if_pos h1]
    rw [a1]
    by_cases h2 : x.a + 1 = k
    · have a2 : M.seg (x.a + 1) k = 0 := by unfold M.seg; rw [if_neg (by omega), if_neg (by omega)]
      rw [a2]; simp
    · have a2 : M.seg (x.a + 1) k = -1 := by unfold M.seg; rw [if_pos (by omega)]
      rw [a2]; simp
  · have a1 : M.seg x.a k = 0 := by unfold M.seg; rw [if_neg (by omega), if_neg (by omega)]
    have a2 : M.seg (x.a + 1) k = 1 := by unfold M.seg; rw [if_neg (by omega), if_pos (by omega)]
    rw [a1, a2]
    by_cases hb : x.b = 0
    · have b1 : M.seg x.b 0 = 0 := by rw [hb]; rfl
      rw [b1]
      by_cases hc : x.c = 0
      · have c1 : M.seg x.c 0 = 0 := by rw [hc]; rfl
        rw [c1]
        have hp : M.bs x.p = [] := Classical.byContradiction fun hp => h ⟨hp, hb, hc⟩
        rw [hp]; simp
      · have c1 : M.seg x.c 0 = 1 := by unfold M.seg; rw [if_neg (by omega), if_pos (by omega)]
        rw [c1]; simp
    · have b1 : M.seg x.b 0 = 1 := by unfold M.seg; rw [if_neg (by omega), if_pos (by omega)]
      rw [b1]; simp
  · have a1 : M.seg x.a k = 1 := by unfold M.seg; rw [if_neg (by omega), if_pos h1]
    have a2 : M.seg (x.a + 1) k = 1 := by unfold M.seg; rw [if_neg (by omega), if_pos (by omega)]
    rw [a1, a2]; simp

theorem plain_is (x : V) (r : Bool) (w : World) (h1 : x.p.size ≤ 2147483647) (h2 : x.m.size ≤ 2147483647) (hr : Hid (x.plain = r)) :
    Calls Tryd.prog 7 #[.agg #[.int .u64 x.a, .int .u64 x.b, .int .u64 x.c, .string x.p, .string x.m]] w fun e w' => e = .returned (.bool r) ∧ Below w.heap.size w w' := by
  have := plain_any x w h1 h2
  rw [hr.out] at this
  exact this
theorem zz_x (x : V) (r : Bool) (w : World) (h1 : x.p.size ≤ 140737488351232) (h2 : x.m.size ≤ 140737488351232) (hr : Hid (x.fits = r)) :
    Calls Tryd.prog 5 #[.agg #[.int .u64 x.a, .int .u64 x.b, .int .u64 x.c, .string x.p, .string x.m]] w fun e w' => e = .returned (.bool r) ∧ Below w.heap.size w w' := zzFits14_is x r w h1 h2 hr
theorem AtP.other5 {w : World} {N M : Nat} {x : V} (h : AtP w N x) (hn : N ≠ M) (v0 v1 v2 v3 v4 : Value) :
    AtP (((((w.setCell ⟨M, 0, none⟩ v0).setCell ⟨M, 1, none⟩ v1).setCell ⟨M, 2, none⟩ v2).setCell ⟨M, 3, none⟩ v3).setCell ⟨M, 4, none⟩ v4) N x := by
  unfold AtP at *
  rw [heap_setCell_other _ _ N _ hn, heap_setCell_other _ _ N _ hn, heap_setCell_other _ _ N _ hn, heap_setCell_other _ _ N _ hn, heap_setCell_other _ _ N _ hn]
  exact h
theorem AtP.bare5 {w : World} {N : Nat} {x : V} (h : AtP w N x) (k : Nat) :
    AtP (((((w.setCell ⟨N, 0, none⟩ (.int .u64 k)).setCell ⟨N, 1, none⟩ (.int .u64 0)).setCell ⟨N, 2, none⟩ (.int .u64 0)).setCell ⟨N, 3, none⟩ (.string ⟨#[]⟩)).setCell ⟨N, 4, none⟩ (.string ⟨#[]⟩)) N (V.bare k 0 0) := AtP.store5 h (V.bare k 0 0)
theorem V.plain_lt {x : V} (h : x.plain = true) : x.a < 18446744073709551615 := by
  simp only [V.plain, Bool.and_eq_true, decide_eq_true_eq] at h
  exact h.1.1.1.2

end Go.Proofs.YtnkdpgcfaelpkaaDoor
