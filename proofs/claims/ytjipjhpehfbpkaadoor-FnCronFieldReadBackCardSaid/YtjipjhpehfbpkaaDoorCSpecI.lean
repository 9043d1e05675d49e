/-
  spec.CronItem: what it reads as fine is an item.
-/
import Derived.Test.YtjipjhpehfbpkaaDoorCSpecE
import Derived.Test.YtjipjhpehfbpkaaDoorCSet
import Derived.Test.YtjipjhpehfbpkaaDoorCTurn
namespace Go.Proofs.YtjipjhpehfbpkaaDoor
open Go.RowKit
set_option maxRecDepth 100000
set_option linter.unusedVariables false

namespace M
theorem item_bare {b : Bd} {l h : Bs} (hl : splitOn 47 l = [h]) {lo hi : Nat} {st : Bool} (he : ends b (splitOn 45 h) = some (lo, hi, st)) : item b l = fin b lo hi 1 st := by
  unfold item
  rw [hl]
  simp only [he]
theorem item_by {b : Bd} {l h t : Bs} (hl : splitOn 47 l = [h, t]) {lo hi n : Nat} {st : Bool} (he : ends b (splitOn 45 h) = some (lo, hi, st)) (hn : num t = some n) :
    item b l = fin b lo (if (splitOn 45 h).length = 1 then b.mx else hi) n (st && decide (n ≤ 1)) := by
  unfold item
  rw [hl]
  simp only [he, hn]
theorem ends_open {b : Bd} {L : List Bs} {lo hi : Nat} (he : ends b L = some (lo, hi, true)) : hi = b.mx := by
  unfold ends at he
  split at he
  · cases he
  · split at he
    · simp at he; exact he.2.symm
    · split at he
      · cases he
      · split at he
        · simp at he
        · split at he
          · cases he
          · simp at he
        · cases he
end M
/-- a set's cells are the bits of n -/
def SetIs (f : Nat → Bool) (n : Nat) : Prop := f 0 = n.testBit 63 ∧ ∀ i, i < 63 → f (i + 1) = n.testBit i
/-- the set of an item -/
def itemF (lo hi st : Nat) (star : Bool) : Nat → Bool
  | 0 => star && decide (st = 1)
  | i + 1 => decide (lo ≤ i ∧ i ≤ hi ∧ (i - lo) % st = 0)
theorem itemF_is {b : M.Bd} (hb : b.mx ≤ 62) {lo hi st : Nat} {star sg : Bool} (h1 : ¬ lo < b.mn) (h2 : ¬ b.mx < hi) (h3 : ¬ hi < lo) (h4 : st ≠ 0) (hs : sg = (star && decide (st ≤ 1))) :
    ∃ n, M.fin b lo hi st sg = some n ∧ SetIs (itemF lo hi st star) n := by
  refine ⟨_, by unfold M.fin; rw [if_neg (by omega)], ?_, fun i hi => ?_⟩
  · rw [Nat.testBit_or, M.gbits_test, hs]
    have e : decide (st = 1) = decide (st ≤ 1) := by rw [decide_eq_decide]; omega
    have g : decide (63 < 64 ∧ lo ≤ 63 ∧ 63 ≤ hi ∧ (63 - lo) % st = 0) = false := by rw [decide_eq_false_iff_not]; omega
    show (star && decide (st = 1)) = _
    rw [g, Bool.false_or, e]
    cases (star && decide (st ≤ 1)) <;> rfl
  · rw [Nat.testBit_or, M.gbits_test]
    have z : Nat.testBit (if sg = true then 9223372036854775808 else 0) i = false := by
      split
      · rw [show (9223372036854775808 : Nat) = 2 ^ 63 by rfl, Nat.testBit_two_pow, decide_eq_false_iff_not]; omega
      · simp
    rw [z, Bool.or_false]
    show decide _ = decide _
    rw [decide_eq_decide]
    constructor
    · rintro ⟨a, c, d⟩; exact ⟨by omega, a, c, d⟩
    · rintro ⟨_, a, c, d⟩; exact ⟨a, c, d⟩
/-- what spec.CronItem tells is right where it tells it as fine -/
def ItemOk (k : Nat) (s : ByteArray) (f : Nat → Bool) (v : Nat) : Prop := v ≤ 2 ∧ (v = 1 → ∃ n, M.item (M.bdOf k) (M.bs s) = some n ∧ SetIs f n)
theorem itemOk_not {k : Nat} {s : ByteArray} {f : Nat → Bool} {v : Nat} (h : v ≤ 2) (h1 : v ≠ 1) : ItemOk k s f v := ⟨h, fun e => absurd e h1⟩
def ItemRes (k : Nat) (s : ByteArray) (w : World) (e : Ending) (w' : World) : Prop :=
  (∃ (f : Nat → Bool) (v : Nat), e = .returned (.tuple #[setV f, .int .i64 (v : Int)]) ∧ ItemOk k s f v) ∧ Below w.heap.size w w'
/-- behind the step is read: what stands ahead of the tests of the bounds -/
def MidOk (k : Nat) (s : ByteArray) (lo hi st v : Nat) (star : Bool) : Prop :=
  v ≤ 2 ∧ (v = 1 → lo < 1099511627776 → hi < 1099511627776 → 0 < st ∧ st < 1099511627776 ∧ ∃ sg, sg = (star && decide (st ≤ 1)) ∧ M.item (M.bdOf k) (M.bs s) = M.fin (M.bdOf k) lo hi st sg)
theorem midOk_bare {k : Nat} {s h : ByteArray} (hl : M.splitOn 47 (M.bs s) = [M.bs h]) {lo hi v : Nat} {star sg : Bool} (he : EndOk k h lo hi v star sg) : MidOk k s lo hi 1 v star := by
  refine ⟨he.1.1, fun h1 h2 h3 => ⟨by omega, by omega, star, by simp, ?_⟩⟩
  exact M.item_bare hl (he.2 h1 h2 h3).1
theorem midOk_by {k : Nat} {s h t : ByteArray} (hl : M.splitOn 47 (M.bs s) = [M.bs h, M.bs t]) {lo hi v : Nat} {star sg : Bool} (he : EndOk k h lo hi v star sg) {n u : Nat} (hn : (M.sstep (M.bs t)).1 = n) (hu : (M.sstep (M.bs t)).2 = u)
    (hu2 : u ≤ 2) (hi' : Nat) (hh : hi' = if (sg && !star) = true then (M.bdOf k).mx else hi) : MidOk k s lo hi' n (worseN v u) star := by
  refine ⟨worseN_le he.1.1 hu2, fun h1 h2 h3 => ?_⟩
  obtain ⟨b1, b2, b3, b4⟩ := worseN_one h1
  have hu1 : (M.sstep (M.bs t)).2 = 1 := by omega
  obtain ⟨_, s1, s2, s3⟩ := M.sstep_fine hu1
  rw [hn] at s1 s2 s3
  refine ⟨s2, s3, _, rfl, ?_⟩
  by_cases hg : (sg && !star) = true
  · rw [if_pos hg] at hh
    simp only [Bool.and_eq_true, Bool.not_eq_true'] at hg
    obtain ⟨rfl, rfl⟩ := hg
    have hhl := he.1.2 rfl rfl
    subst hhl
    obtain ⟨e1, e2⟩ := he.2 (by omega) h2 h2
    rw [M.item_by hl e1 s1, if_pos (of_decide_eq_true e2.symm), hh]
  · rw [if_neg hg] at hh
    subst hh
    obtain ⟨e1, e2⟩ := he.2 (by omega) h2 h3
    rw [M.item_by hl e1 s1]
    congr 1
    by_cases hlen : (M.splitOn 45 (M.bs h)).length = 1
    · rw [if_pos hlen]
      rw [decide_eq_true hlen] at e2
      subst e2
      cases star with
      | false => simp at hg
      | true => exact (M.ends_open e1).symm
    · rw [if_neg hlen]
theorem sstep_le (l : M.Bs) : (M.sstep l).2 ≤ 2 := by
  unfold M.sstep
  split
  · simp
  · split
    · simp
    · unfold M.snum
      dsimp only
      repeat' split
      all_goals first | exact Nat.le_refl _ | exact Nat.zero_le _ | (show (_ : Nat) ≤ 2; omega) | decide
/-- the set behind the rounds up to j -/
def runF (lo st j : Nat) : Nat → Bool
  | 0 => false
  | i + 1 => decide (lo ≤ i ∧ i < j ∧ (i - lo) % st = 0)
theorem runF_0 (lo st : Nat) : runF lo st lo = noneF := by
  funext i
  cases i with
  | zero => rfl
  | succ i => show decide _ = false; rw [decide_eq_false_iff_not]; omega
theorem runF_ge (lo st j i : Nat) (h : j < i) : runF lo st j i = false := by
  cases i with
  | zero => rfl
  | succ i => show decide _ = false; rw [decide_eq_false_iff_not]; omega
theorem mod_zero {j lo st : Nat} (h : lo ≤ j) : ((((j : Int) - (lo : Int)) % (st : Int)) == 0) = decide ((j - lo) % st = 0) := by
  have e : (j : Int) - (lo : Int) = ((j - lo : Nat) : Int) := by omega
  rw [e, ← Int.natCast_emod, Bool.eq_iff_iff, beq_iff_eq, decide_eq_true_eq]
  omega
structure ItSt (M2 N1 lo st j : Nat) (w wr : World) : Prop where
  at0 : SetAt wr M2 (runF lo st j)
  at1 : SetAt wr N1 noneF
  bel : Below w.heap.size w wr
theorem ItSt.step {M2 N1 lo st j : Nat} {w wr : World} (h : ItSt M2 N1 lo st j w wr) (hM : w.heap.size ≤ M2) (h1 : lo ≤ j) (h2 : j ≤ 62) (b : Bool) (hb : b = decide ((j - lo) % st = 0)) (hne : N1 < M2) :
    ItSt M2 N1 lo st (j + 1) w (wr.setCell ⟨M2, 1 + j, none⟩ (.bool b)) := by
  refine ⟨?_, h.at1.other (by omega) _ _, h.bel.setCell hM _⟩
  have := h.at0.set (1 + j) (by omega) b
  have e : (fun i => if i = 1 + j then b else runF lo st j i) = runF lo st (j + 1) := by
    funext i
    cases i with
    | zero => rw [if_neg (by omega)]; rfl
    | succ i =>
      show (if i + 1 = 1 + j then b else decide (lo ≤ i ∧ i < j ∧ (i - lo) % st = 0)) = decide (lo ≤ i ∧ i < j + 1 ∧ (i - lo) % st = 0)
      by_cases q : i = j
      · subst q
        rw [if_pos (by omega), hb, decide_eq_decide]
        exact ⟨fun h => ⟨h1, by omega, h⟩, fun h => h.2.2⟩
      · rw [if_neg (by omega), decide_eq_decide]
        exact ⟨fun ⟨a, c, d⟩ => ⟨a, by omega, d⟩, fun ⟨a, c, d⟩ => ⟨a, by omega, d⟩⟩
  rw [e] at this
  exact this
theorem ItemRes.mk0 {k : Nat} {s : ByteArray} {w w' : World} {f : Nat → Bool} {v : Nat} (h : ItemOk k s f v) (hb : Below w.heap.size w w') : ItemRes k s w (.returned (.tuple #[setV f, .int .i64 (v : Int)])) w' := ⟨⟨f, v, rfl, h⟩, hb⟩
theorem ItemRes.mk1 {k : Nat} {s : ByteArray} {w w' : World} {f : Nat → Bool} {v : Nat} {x : Value} (hx : x = .int .i64 (v : Int)) (h : ItemOk k s f v) (hb : Below w.heap.size w w') : ItemRes k s w (.returned (.tuple #[setV f, x])) w' := ⟨⟨f, v, by rw [hx], h⟩, hb⟩
set_option maxHeartbeats 40000000 in
theorem specItem_any (k : Nat) (s : ByteArray) (w : World) (hk : k ≤ 5) (hs : s.size ≤ 2147483647) :
    Calls Tryd.prog 19 #[.agg #[.int .i64 ((M.bdOf k).mn : Int), .int .i64 ((M.bdOf k).mx : Int), .int .i64 (k : Int)], .string s] w (ItemRes k s w) := by
  have HS := Lib.hid hs
  have HK := Lib.hid hk
  have HX62 := Lib.hid (bd_le k).1
  obtain ⟨mn, hmn⟩ : ∃ n, (M.bdOf k).mn = n := ⟨_, rfl⟩
  obtain ⟨mx, hmx⟩ : ∃ n, (M.bdOf k).mx = n := ⟨_, rfl⟩
  rw [hmn, hmx]
  have HMN := Lib.hid hmn
  have HMX := Lib.hid hmx
  clear hk hs hmn hmx
  go_enter Tryd.func19, Tryd.ntmps19
  go_upto_region 1 with fail
  have I0 : Hid (BxAt ((w.alloc (.cells #[.int .i64 (mn : Int), .int .i64 (mx : Int), .int .i64 (k : Int)] 31)).alloc (.cells (setL noneF).toArray 27)) w.heap.size mn mx k) := Lib.hid ((BxAt.mk0 w mn mx k _).below (below_alloc _ _))
  have S0 : Hid (SetAt ((w.alloc (.cells #[.int .i64 (mn : Int), .int .i64 (mx : Int), .int .i64 (k : Int)] 31)).alloc (.cells (setL noneF).toArray 27)) (w.heap.size + 1) noneF) := Lib.hid (by have := SetAt.new (w.alloc (.cells #[.int .i64 (mn : Int), .int .i64 (mx : Int), .int .i64 (k : Int)] 31)) noneF 27 rfl; rw [heap_size_alloc] at this; exact this)
  have B0 : Hid (Below w.heap.size w ((w.alloc (.cells #[.int .i64 (mn : Int), .int .i64 (mx : Int), .int .i64 (k : Int)] 31)).alloc (.cells (setL noneF).toArray 27))) := Lib.hid ((below_alloc _ _).alloc (by rw [heap_size_alloc]; omega) _)
  generalize hw3 : ((w.alloc (.cells #[.int .i64 (mn : Int), .int .i64 (mx : Int), .int .i64 (k : Int)] 31)).alloc (.cells (setL noneF).toArray 27)) = w0 at *
  simp only [zero_set] at *
  rw [hw3]
  clear hw3
  obtain ⟨N0, h0⟩ : ∃ n, w.heap.size = n := ⟨_, rfl⟩
  rw [h0] at I0 S0 ⊢
  have H0 := Lib.hid h0
  clear h0
  go_upto_region 2 with (go_at_call 17; (with_reducible refine (pieces_at 47 47 rfl s _ HS.out).mono ?_); rintro e w1 ⟨g, c, p, L, rfl, HL, hsl, hb⟩; have I1 := Lib.hid (I0.out.below hb); have S1 := Lib.hid (S0.out.below hb); have B1 := Lib.hid (Below.up B0.out hb); have HSL := Lib.hid hsl; clear hsl hb)
  clear I0 B0 S0
  obtain ⟨n, hn⟩ : ∃ n, L.length + 1 = n := ⟨_, rfl⟩
  have HN := Lib.hid hn
  rw [hn]
  have m3 : 0 < n := by omega
  clear hn
  by_cases h2 : 2 < n
  · have z2 : (2 : Int) < (n : Int) := by omega
    clear h2
    go_wp2_with (refine wpList_set_store rfl _ _ rfl (N0 + 1) noneF noneF (by kernel_rfl) (by kernel_rfl) S1.out ?_; intro W hW; have HW := Lib.hid (And.intro hW.it (hW.bel (by rw [H0.out]; omega) B1.out)); clear hW)
    exact bodyPost_ret (results_set2 rfl _ _ (N0 + 1) noneF rfl HW.out.1) rfl (ItemRes.mk1 (v := 0) rfl (itemOk_not (by omega) (by omega)) HW.out.2)
  have z2 : ¬ (2 : Int) < (n : Int) := by omega
  have HN2 := Lib.hid h2
  have HPS := Lib.hid (show p.size ≤ 2147483647 by
    have h1 : M.bs p ∈ M.splitOn 47 (M.bs s) := by rw [← HL.out]; exact List.mem_cons_self
    have := M.piece_le 47 _ _ h1
    rw [M.bs_length, M.bs_length] at this
    have := HS.out
    omega)
  clear h2
  have hp : w1.cell? ⟨g, 0, none⟩ = some (.string p) := HSL.out.2 0 (Nat.zero_lt_succ _)
  obtain ⟨c0, c1, c2, hlt⟩ := I1.out
  go_upto_region 4 with fail
  go_cut [7, 8, 9, 10, 11] (fun s7 s8 s9 s10 s11 wx => ∃ (lo hi v : Nat) (st sg : Bool), s7 = .int .i64 (lo : Int) ∧ s8 = .int .i64 (hi : Int) ∧ s9 = .bool st ∧ s10 = .bool sg ∧ s11 = .int .i64 (v : Int) ∧ Hid (EndOk k p lo hi v st sg) ∧ Hid (BxAt wx N0 mn mx k) ∧ Hid (SetAt wx (N0 + 1) noneF) ∧ Hid (Below w.heap.size w wx) ∧ Hid (SlAt wx g (p :: L)))
  case first =>
    have HEC : Hid (∀ w : World, Calls Tryd.prog 27 #[.agg #[.int .i64 (mn : Int), .int .i64 (mx : Int), .int .i64 (k : Int)], .string p] w fun e w' => (∃ (lo hi vd : Nat) (st sg : Bool), e = .returned (.tuple #[.int .i64 (lo : Int), .int .i64 (hi : Int), .bool st, .bool sg, .int .i64 (vd : Int)]) ∧ EndOk k p lo hi vd st sg) ∧ Below w.heap.size w w') := Lib.hid (fun w => by have := cronEnds_any k p w HK.out HPS.out; rw [HMN.out, HMX.out] at this; exact this)
    go_region_with (first
      | (go_at_call 27; (with_reducible refine (HEC.out _).mono ?_); rintro e w2 ⟨⟨lo, hi, v, st, sg, rfl, hv⟩, hb0⟩; have hb : Below w1.heap.size w1 w2 := Below.up (Below.refl _ _).drew hb0; have HV1 := Lib.hid hv; clear hb0; have HKP := Lib.hid (And.intro (I1.out.below hb) (And.intro (S1.out.below hb) (And.intro (Below.up B1.out hb) (HSL.out.below hb)))); clear hv hb)
      | fail)
    all_goals
      go_simp
      go_step
      go_meet
      exact ⟨lo, hi, v, st, sg, rfl, rfl, rfl, rfl, rfl, HV1, Lib.hid HKP.out.1, Lib.hid HKP.out.2.1, Lib.hid HKP.out.2.2.1, Lib.hid HKP.out.2.2.2⟩
  case rest =>
    obtain ⟨lo, hi, v, st, sg, rfl, rfl, rfl, rfl, rfl, HE, I2, S2, B2, HSL2⟩ := hcut
    clear HSL I1 S1 B1 hp c0 c1 c2 hlt
    obtain ⟨c0, c1, c2, -⟩ := I2.out
    go_upto_if 36 with fail
    clear z2
    go_cut [8, 11, 12] (fun s8 s11 s12 wx => ∃ (hi2 v2 st2 : Nat), s8 = .int .i64 (hi2 : Int) ∧ s11 = .int .i64 (v2 : Int) ∧ s12 = .int .i64 (st2 : Int) ∧ Hid (MidOk k s lo hi2 st2 v2 st) ∧ wc = wx)
    case first =>
      rcases L with _ | ⟨q, L⟩
      · have hz : ((n : Int) == 2) = false := by rw [← HN.out]; rfl
        have HM := Lib.hid (midOk_bare HL.out.symm HE.out)
        go_wp2
        go_meet
        exact ⟨hi, v, 1, rfl, rfl, rfl, HM, rfl⟩
      · have hL : L = [] := by
          have h1 := HN.out
          have h2 := HN2.out
          rw [List.length_cons] at h1
          exact List.length_eq_zero_iff.1 (by omega)
        subst hL
        have hz : ((n : Int) == 2) = true := by rw [← HN.out]; rfl
        have hq : wc.cell? ⟨g, 1, none⟩ = some (.string q) := HSL2.out.2 1 (by simp)
        have m4 : 1 < n := by rw [← HN.out]; simp
        obtain ⟨sn, hsn⟩ : ∃ x, (M.sstep (M.bs q)).1 = x := ⟨_, rfl⟩
        obtain ⟨sv, hsv⟩ : ∃ x, (M.sstep (M.bs q)).2 = x := ⟨_, rfl⟩
        have hqs : q.size ≤ 140737488351232 := by
          have h1 : M.bs q ∈ M.splitOn 47 (M.bs s) := by rw [← HL.out]; simp
          have := M.piece_le 47 _ _ h1
          rw [M.bs_length, M.bs_length] at this
          have := HS.out
          omega
        have HSN : Hid (((M.sstep (M.bs q)).1 : Int) = (sn : Int)) := Lib.hid (by rw [hsn])
        have HSV : Hid (((M.sstep (M.bs q)).2 : Int) = (sv : Int)) := Lib.hid (by rw [hsv])
        have y2 : sv ≤ 2 := by rw [← hsv]; exact sstep_le _
        have y1 : v ≤ 2 := HE.out.1.1
        have HM := Lib.hid (fun hi' hh => midOk_by HL.out.symm HE.out hsn hsv y2 hi' hh)
        have HQS := Lib.hid hqs
        clear hsn hsv hqs
        rcases sg with _ | _
        · have HM2 := Lib.hid (HM.out hi rfl)
          clear HM
          go_wp2_with (first
            | (go_at_call 28; (with_reducible refine (step_any q _ HQS.out (sv : Int) HSV (sn : Int) HSN).mono ?_); rintro e w4 ⟨rfl, rfl⟩)
            | (go_at_call 18; (with_reducible refine (worse_any v sv y1 y2 _).mono ?_); rintro e w4 ⟨rfl, rfl⟩))
          go_meet
          exact ⟨hi, worseN v sv, sn, rfl, rfl, rfl, HM2, rfl⟩
        · rcases st with _ | _
          · have HM2 := Lib.hid (HM.out mx HMX.out.symm)
            clear HM
            go_wp2_with (first
              | (go_at_call 28; (with_reducible refine (step_any q _ HQS.out (sv : Int) HSV (sn : Int) HSN).mono ?_); rintro e w4 ⟨rfl, rfl⟩)
              | (go_at_call 18; (with_reducible refine (worse_any v sv y1 y2 _).mono ?_); rintro e w4 ⟨rfl, rfl⟩))
            go_meet
            exact ⟨mx, worseN v sv, sn, rfl, rfl, rfl, HM2, rfl⟩
          · have HM2 := Lib.hid (HM.out hi rfl)
            clear HM
            go_wp2_with (first
              | (go_at_call 28; (with_reducible refine (step_any q _ HQS.out (sv : Int) HSV (sn : Int) HSN).mono ?_); rintro e w4 ⟨rfl, rfl⟩)
              | (go_at_call 18; (with_reducible refine (worse_any v sv y1 y2 _).mono ?_); rintro e w4 ⟨rfl, rfl⟩))
            go_meet
            exact ⟨hi, worseN v sv, sn, rfl, rfl, rfl, HM2, rfl⟩
    case rest =>
      obtain ⟨hi2, v2, st2, rfl, rfl, rfl, HM, rfl⟩ := hcut
      clear HE HSL2
      by_cases hv : v2 = 1
      · subst hv
        by_cases hbad : lo < mn ∨ mx < hi2 ∨ hi2 < lo
        · clear HM HX62 HMN HMX
          have HNE := Lib.hid (show w.heap.size ≤ N0 + 1 by rw [H0.out]; omega)
          by_cases q1 : lo < mn
          · clear hbad
            go_wp2_with (refine wpList_set_store rfl _ _ rfl (N0 + 1) noneF noneF (by kernel_rfl) (by kernel_rfl) S2.out ?_; intro W hW; have HW := Lib.hid (And.intro hW.it (hW.bel HNE.out B2.out)); clear hW)
            exact bodyPost_ret (results_set2 rfl _ _ (N0 + 1) noneF rfl HW.out.1) rfl (ItemRes.mk1 (v := 0) rfl (itemOk_not (by omega) (by omega)) HW.out.2)
          · by_cases q2 : mx < hi2
            · clear hbad
              go_wp2_with (refine wpList_set_store rfl _ _ rfl (N0 + 1) noneF noneF (by kernel_rfl) (by kernel_rfl) S2.out ?_; intro W hW; have HW := Lib.hid (And.intro hW.it (hW.bel HNE.out B2.out)); clear hW)
              exact bodyPost_ret (results_set2 rfl _ _ (N0 + 1) noneF rfl HW.out.1) rfl (ItemRes.mk1 (v := 0) rfl (itemOk_not (by omega) (by omega)) HW.out.2)
            · have q3 : hi2 < lo := by omega
              clear hbad
              go_wp2_with (refine wpList_set_store rfl _ _ rfl (N0 + 1) noneF noneF (by kernel_rfl) (by kernel_rfl) S2.out ?_; intro W hW; have HW := Lib.hid (And.intro hW.it (hW.bel HNE.out B2.out)); clear hW)
              exact bodyPost_ret (results_set2 rfl _ _ (N0 + 1) noneF rfl HW.out.1) rfl (ItemRes.mk1 (v := 0) rfl (itemOk_not (by omega) (by omega)) HW.out.2)
        · have q1 : ¬ lo < mn := by omega
          have q2 : ¬ mx < hi2 := by omega
          have q3 : ¬ hi2 < lo := by omega
          have x62 : mx ≤ 62 := by rw [← HMX.out]; exact HX62.out
          obtain ⟨p1, p2, sg2, hsg, hit⟩ := HM.out.2 rfl (by omega) (by omega)
          have HR : Hid (ItemOk k s (itemF lo hi2 st2 st) 1) := Lib.hid ⟨by omega, fun _ => by
            obtain ⟨nn, h1, h2⟩ := itemF_is (b := M.bdOf k) HX62.out (lo := lo) (hi := hi2) (st := st2) (star := st) (sg := sg2) (by rw [HMN.out]; exact q1) (by rw [HMX.out]; exact q2) q3 (by omega) hsg
            exact ⟨nn, hit.trans h1, h2⟩⟩
          have b62 : hi2 ≤ 62 := by omega
          have HB := Lib.hid (And.intro b62 (And.intro p1 p2))
          have HLE := Lib.hid (show lo ≤ hi2 by omega)
          clear hbad hsg hit HM HX62 HMN HMX x62
          go_upto_region 16 with fail
          clear q1 q2 q3 c0 c1 c2
          have S3 : Hid (SetAt (wc.alloc (.cells (setL noneF).toArray 27)) wc.heap.size noneF) := Lib.hid (SetAt.new wc noneF _ rfl)
          have S2b : Hid (SetAt (wc.alloc (.cells (setL noneF).toArray 27)) (N0 + 1) noneF) := Lib.hid (S2.out.alloc _)
          have B3 : Hid (Below w.heap.size w (wc.alloc (.cells (setL noneF).toArray 27))) := Lib.hid (B2.out.alloc B2.out.size _)
          have HM2 : Hid (w.heap.size ≤ wc.heap.size ∧ N0 + 1 < wc.heap.size) := Lib.hid ⟨B2.out.size, S2.out.lt⟩
          clear S2 B2 I2
          generalize hw3 : (wc.alloc (.cells (setL noneF).toArray 27)) = w3 at *
          simp only [zero_set] at *
          rw [hw3]
          clear hw3
          obtain ⟨M2, h0⟩ : ∃ n, wc.heap.size = n := ⟨_, rfl⟩
          rw [h0] at S3 HM2 ⊢
          clear h0 wc
          go_wp2
          go_loopw [16] (fun i wr => ∃ j : Nat, lo ≤ j ∧ j ≤ hi2 + 1 ∧ i = .int .i64 (j : Int) ∧ Hid (ItSt M2 (N0 + 1) lo st2 j w wr)) (fun i _ => 64 - (intOf i).toNat)
          case atStart => exact ⟨lo, Nat.le_refl _, by have := HLE.out; omega, rfl, Lib.hid ⟨by rw [runF_0]; exact S3.out, S2b.out, B3.out⟩⟩
          case round =>
            obtain ⟨j, hj1, hj2, rfl, HL⟩ := hrel
            clear S3 S2b B3
            by_cases hlt : j ≤ hi2
            · have j62 : j ≤ 62 := by omega
              have e1 : (0 : Int) ≤ (j : Int) - (lo : Int) := by omega
              have e3 : (j : Int) - (lo : Int) ≤ 62 := by omega
              have e4 : (st2 : Int) ≠ 0 := by omega
              have e5 : (0 : Int) < (st2 : Int) := by omega
              obtain ⟨b, hb⟩ : ∃ b, ((((j : Int) - (lo : Int)) % (st2 : Int)) == 0) = b := ⟨_, rfl⟩
              have HBB : Hid (b = decide ((j - lo) % st2 = 0)) := Lib.hid (by rw [← hb]; exact mod_zero hj1)
              have cc : wr.cell? ⟨M2, 1 + j, none⟩ = some (.bool false) := by
                have := HL.out.at0.cell (1 + j) (by omega)
                rw [runF_ge _ _ _ _ (by omega)] at this
                exact this
              have l0 : wr.frozen? ⟨M2, 1 + j, none⟩ = false := HL.out.at0.loose _
              go_wp2
              refine ⟨⟨j + 1, by omega, by omega, by go_num, Lib.hid (HL.out.step HM2.out.1 hj1 j62 _ HBB.out HM2.out.2)⟩, by simp [intOf]; omega⟩
            · have hj3 : j = hi2 + 1 := by omega
              subst hj3
              clear hlt hj1 hj2
              obtain ⟨q, hq⟩ : ∃ q, ((st2 : Int) == 1) = q := ⟨_, rfl⟩
              have HQ : Hid (decide (st2 = 1) = q) := Lib.hid (by rw [← hq, Bool.eq_iff_iff, beq_iff_eq, decide_eq_true_eq]; omega)
              have cc : wr.cell? ⟨M2, 0, none⟩ = some (.bool false) := HL.out.at0.cell 0 (by omega)
              have l0 : wr.frozen? ⟨M2, 0, none⟩ = false := HL.out.at0.loose _
              have b63 : hi2 + 1 ≤ 63 := by omega
              have H1 : ∀ c, c = (st && q) → Hid (SetAt (wr.setCell ⟨M2, 0, none⟩ (.bool c)) M2 (itemF lo hi2 st2 st)) := fun c hc => Lib.hid (by
                have h := HL.out.at0.set 0 (by omega) c
                refine ⟨h.lt, ?_, h.loose⟩
                have e : setL (fun i => if i = 0 then c else runF lo st2 (hi2 + 1) i) = setL (itemF lo hi2 st2 st) := setL_congr (fun i hi => by
                  cases i with
                  | zero => rw [if_pos rfl, hc]; show _ = (st && decide (st2 = 1)); rw [HQ.out]
                  | succ i =>
                    rw [if_neg (by omega)]
                    show decide _ = decide _
                    rw [decide_eq_decide]
                    exact ⟨fun ⟨a, c, d⟩ => ⟨a, by omega, d⟩, fun ⟨a, c, d⟩ => ⟨a, by omega, d⟩⟩)
                rw [← e]
                exact h.has)
              have H2 : Hid (∀ c, SetAt (wr.setCell ⟨M2, 0, none⟩ (.bool c)) (N0 + 1) noneF) := Lib.hid (fun c => HL.out.at1.other (by have := HM2.out.2; omega) _ _)
              have H4 : Hid (∀ c, Below w.heap.size w (wr.setCell ⟨M2, 0, none⟩ (.bool c))) := Lib.hid (fun c => HL.out.bel.setCell HM2.out.1 _)
              have H5 : Hid (w.heap.size ≤ N0 + 1) := Lib.hid (by rw [H0.out]; omega)
              obtain ⟨u, hu⟩ : ∃ u, itemF lo hi2 st2 st = u := ⟨_, rfl⟩
              rw [hu] at HR H1
              have x1 : ¬ ((hi2 : Int) + 1 ≤ (hi2 : Int)) := by omega
              clear hu b62 p1 p2 m3
              rcases st with _ | _
              · replace H1 := H1 false rfl
                go_wp2_with (first
                  | (with_reducible refine wpList_set_load rfl _ rfl M2 u rfl H1.out ?_)
                  | (refine wpList_set_store rfl _ _ rfl (N0 + 1) noneF u (by kernel_rfl) (by kernel_rfl) (H2.out _) ?_; intro W hW; have HW := Lib.hid (And.intro hW.it (hW.bel H5.out (H4.out _))); clear hW))
                exact bodyPost_ret (results_set2 rfl _ _ (N0 + 1) u rfl HW.out.1) rfl (ItemRes.mk1 (v := 1) rfl HR.out HW.out.2)
              · replace H1 := H1 q rfl
                go_wp2_with (first
                  | (with_reducible refine wpList_set_load rfl _ rfl M2 u rfl H1.out ?_)
                  | (refine wpList_set_store rfl _ _ rfl (N0 + 1) noneF u (by kernel_rfl) (by kernel_rfl) (H2.out _) ?_; intro W hW; have HW := Lib.hid (And.intro hW.it (hW.bel H5.out (H4.out _))); clear hW))
                exact bodyPost_ret (results_set2 rfl _ _ (N0 + 1) u rfl HW.out.1) rfl (ItemRes.mk1 (v := 1) rfl HR.out HW.out.2)
      · have hv2 : ((v2 : Int) != 1) = true := by simp; omega
        have HV2 := Lib.hid (And.intro HM.out.1 hv)
        clear hv
        go_wp2_with (refine wpList_set_store rfl _ _ rfl (N0 + 1) noneF noneF (by kernel_rfl) (by kernel_rfl) S2.out ?_; intro W hW; have HW := Lib.hid (And.intro hW.it (hW.bel (by rw [H0.out]; omega) B2.out)); clear hW)
        exact bodyPost_ret (results_set2 rfl _ _ (N0 + 1) noneF rfl HW.out.1) rfl (ItemRes.mk1 (v := v2) rfl (itemOk_not HV2.out.1 HV2.out.2) HW.out.2)
end Go.Proofs.YtjipjhpehfbpkaaDoor
