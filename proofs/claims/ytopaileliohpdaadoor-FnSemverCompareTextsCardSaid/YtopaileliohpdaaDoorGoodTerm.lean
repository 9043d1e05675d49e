/-
  spec.GoodTerm: what it is true of.
-/
import Derived.Test.YtopaileliohpdaaDoorSpecNumK
import Derived.Test.YtopaileliohpdaaDoorTermAgg
import Derived.Deep.DeepCutAuto
namespace Go.Proofs.YtopaileliohpdaaDoor
open Go.RowKit
set_option maxRecDepth 100000
set_option linter.unusedVariables false

/-- a term is as its type says -/
def T.Good (t : T) : Prop := (t.g = 0 ∨ t.g = 1 ∨ t.g = 2 ∨ t.g = 3) ∧ (0 ≤ t.op ∧ t.op < 8) ∧ (t.g = 0 → t.op = 0 ∨ t.op = 4 ∨ t.op = 6) ∧ ¬ (t.g = 3 ∧ t.op = 6 ∧ t.a = 0 ∧ t.b = 0 ∧ t.c = 0) ∧ (t.g < 3 → t.c = 0 ∧ M.bs t.p = []) ∧ (t.g < 2 → t.b = 0) ∧ (t.g < 1 → t.a = 0) ∧ t.ver.pGood
theorem T.good_dec (t : T) : ∃ r : Bool, (r = true ↔ t.Good) := by
  by_cases h : t.Good
  · exact ⟨true, by simp [h]⟩
  · exact ⟨false, by simp [h]⟩
noncomputable def T.goodB (t : T) : Bool := (T.good_dec t).choose
theorem T.goodB_iff (t : T) : t.goodB = true ↔ t.Good := (T.good_dec t).choose_spec
theorem T.goodB_false {t : T} (h : ¬ t.Good) : t.goodB = false := by
  cases k : t.goodB with
  | false => rfl
  | true => exact absurd ((T.goodB_iff t).1 k) h
def T.RB (q z : Bool) (g op : Int) : Prop := q = false ↔ (g = 0 → op = 0 ∨ op = 4 ∨ op = 6) ∧ (g = 3 → op = 6 → z = false)
def T.RC (q : Bool) (g op : Int) : Prop := q = false ↔ (0 ≤ op ∧ op < 8) ∧ 0 ≤ g ∧ g ≤ 3
def T.RD (q : Bool) (g : Int) (a b c : Nat) (p : ByteArray) : Prop := q = false ↔ (g < 3 → c = 0 ∧ M.bs p = []) ∧ (g < 2 → b = 0) ∧ (g < 1 → a = 0)
theorem rd_c {g : Int} {a b c : Nat} {p : ByteArray} (h : ¬ (c : Int) = 0) (hg : g < 3) : T.RD true g a b c p := ⟨(fun h => by cases h), fun k => absurd (k.1 hg).1 (by omega)⟩
theorem rd_p {g : Int} {a b c : Nat} {p : ByteArray} (h : (M.bs p).isEmpty = false) (hg : g < 3) : T.RD true g a b c p := ⟨(fun h => by cases h), fun k => by rw [(k.1 hg).2] at h; cases h⟩
theorem rd_b {g : Int} {a b c : Nat} {p : ByteArray} (h : ¬ (b : Int) = 0) (hg : g < 2) : T.RD true g a b c p := ⟨(fun h => by cases h), fun k => absurd (k.2.1 hg) (by omega)⟩
theorem rd_a {g : Int} {a b c : Nat} {p : ByteArray} (h : ¬ (a : Int) = 0) (hg : g < 1) : T.RD true g a b c p := ⟨(fun h => by cases h), fun k => absurd (k.2.2 hg) (by omega)⟩
theorem rd_3 {a b c : Nat} {p : ByteArray} : T.RD false 3 a b c p := ⟨fun _ => ⟨fun h => by omega, fun h => by omega, fun h => by omega⟩, fun _ => rfl⟩
theorem rd_2 {a b c : Nat} {p : ByteArray} (h : (c : Int) = 0) (hp : (M.bs p).isEmpty = true) : T.RD false 2 a b c p := ⟨fun _ => ⟨fun _ => ⟨by omega, by simpa using hp⟩, fun h => by omega, fun h => by omega⟩, fun _ => rfl⟩
theorem rd_1 {a b c : Nat} {p : ByteArray} (h : (c : Int) = 0) (hp : (M.bs p).isEmpty = true) (hb : (b : Int) = 0) : T.RD false 1 a b c p := ⟨fun _ => ⟨fun _ => ⟨by omega, by simpa using hp⟩, fun _ => by omega, fun h => by omega⟩, fun _ => rfl⟩
theorem rd_0 {a b c : Nat} {p : ByteArray} (h : (c : Int) = 0) (hp : (M.bs p).isEmpty = true) (hb : (b : Int) = 0) (ha : (a : Int) = 0) : T.RD false 0 a b c p := ⟨fun _ => ⟨fun _ => ⟨by omega, by simpa using hp⟩, fun _ => by omega, fun _ => by omega⟩, fun _ => rfl⟩
theorem not_goodP {p : ByteArray} (he : (M.bs p).isEmpty = false) (hg : M.goodPre (M.bs p) = false) : ¬ (M.bs p = [] ∨ M.goodPre (M.bs p) = true) := by
  rintro (h | h)
  · rw [h] at he; cases he
  · rw [h] at hg; cases hg
theorem AtT.cells {w : World} {N : Nat} {t : T} (h : AtT w N t) :
    w.cell? ⟨N, 0, none⟩ = some (.int .i64 t.op) ∧ w.cell? ⟨N, 1, none⟩ = some (.int .i64 t.g) ∧ w.cell? ⟨N, 2, none⟩ = some (.int .u64 t.a) ∧ w.cell? ⟨N, 3, none⟩ = some (.int .u64 t.b) ∧ w.cell? ⟨N, 4, none⟩ = some (.int .u64 t.c) ∧ w.cell? ⟨N, 5, none⟩ = some (.string t.p) := by
  unfold AtT at h
  refine ⟨?_, ?_, ?_, ?_, ?_, ?_⟩ <;> (rw [cell_of_row w _ _ _ _ _ h]; rfl)

set_option maxHeartbeats 4000000 in
theorem goodTerm_any (t : T) (w : World) (hz : t.p.size ≤ 2147483647) :
    Calls Tryd.prog 56 #[.agg #[.int .i64 t.op, .int .i64 t.g, .int .u64 t.a, .int .u64 t.b, .int .u64 t.c, .string t.p]] w fun e w' => e = .returned (.bool t.goodB) ∧ Below w.heap.size w w' := by
  obtain ⟨r, hr⟩ : ∃ r, t.goodB = r := ⟨_, rfl⟩
  rw [hr]
  have HRR := Lib.hid hr
  clear hr
  obtain ⟨op, g, a, b, c, p⟩ := t
  simp only at hz ⊢
  go_enter Tryd.func56, Tryd.ntmps56
  go_upto_region 1 with fail
  have hT : AtT (w.alloc (.cells #[.int .i64 op, .int .i64 g, .int .u64 a, .int .u64 b, .int .u64 c, .string p] 39)) w.heap.size ⟨op, g, a, b, c, p⟩ := alloc_at _ _ _ rfl
  have HW := Lib.hid (below_alloc w (.cells #[.int .i64 op, .int .i64 g, .int .u64 a, .int .u64 b, .int .u64 c, .string p] 39))
  generalize (w.alloc (.cells #[.int .i64 op, .int .i64 g, .int .u64 a, .int .u64 b, .int .u64 c, .string p] 39)) = W at *
  obtain ⟨c0, c1, c2, c3, c4, c5⟩ := hT.cells
  simp only at c0 c1 c2 c3 c4 c5
  clear hT
  go_cut [3] (fun s3 wx => ∃ z, s3 = .bool z ∧ Hid (z = decide (a = 0 ∧ b = 0 ∧ c = 0)) ∧ W = wx)
  case first =>
    by_cases ha : (a : Int) = 0
    · have ea : ((a : Int) == 0) = true := by simpa using ha
      by_cases hb : (b : Int) = 0
      · have eb : ((b : Int) == 0) = true := by simpa using hb
        by_cases hc : (c : Int) = 0
        · have ec : ((c : Int) == 0) = true := by simpa using hc
          have K := Lib.hid (show true = decide (a = 0 ∧ b = 0 ∧ c = 0) from (decide_eq_true (by omega)).symm)
          clear ha hb hc
          go_wp2
          go_meet
          exact ⟨_, rfl, K, rfl⟩
        · have ec : ((c : Int) == 0) = false := by simpa using hc
          have K := Lib.hid (show false = decide (a = 0 ∧ b = 0 ∧ c = 0) from (decide_eq_false (by omega)).symm)
          clear ha hb hc
          go_wp2
          go_meet
          exact ⟨_, rfl, K, rfl⟩
      · have eb : ((b : Int) == 0) = false := by simpa using hb
        have K := Lib.hid (show false = decide (a = 0 ∧ b = 0 ∧ c = 0) from (decide_eq_false (by omega)).symm)
        clear ha hb
        go_wp2
        go_meet
        exact ⟨_, rfl, K, rfl⟩
    · have ea : ((a : Int) == 0) = false := by simpa using ha
      have K := Lib.hid (show false = decide (a = 0 ∧ b = 0 ∧ c = 0) from (decide_eq_false (by omega)).symm)
      clear ha
      go_wp2
      go_meet
      exact ⟨_, rfl, K, rfl⟩
  case rest =>
  obtain ⟨z, rfl, HZ, rfl⟩ := hcut
  go_upto_region 2 with fail
  go_cut [17] (fun s17 wx => ∃ q, s17 = .bool q ∧ T.RB q z g op ∧ W = wx)
  case first =>
    by_cases h0 : g = 0
    · subst h0
      by_cases k0 : op = 0
      · subst k0
        go_wp2
        go_meet
        exact ⟨_, rfl, (by unfold T.RB; simp), rfl⟩
      by_cases k4 : op = 4
      · subst k4
        go_wp2
        go_meet
        exact ⟨_, rfl, (by unfold T.RB; simp), rfl⟩
      by_cases k6 : op = 6
      · subst k6
        go_wp2
        go_meet
        exact ⟨_, rfl, (by unfold T.RB; simp), rfl⟩
      have e0 : (op == 0) = false := by simpa using k0
      have e4 : (op == 4) = false := by simpa using k4
      have e6 : (op == 6) = false := by simpa using k6
      have f0 : (op != 0) = true := by simpa using k0
      have f4 : (op != 4) = true := by simpa using k4
      have f6 : (op != 6) = true := by simpa using k6
      have K := Lib.hid (show ¬ (op = 0 ∨ op = 4 ∨ op = 6) by omega)
      clear k0 k4 k6
      go_wp2
      go_meet
      exact ⟨_, rfl, (by unfold T.RB; have := K.out; simp; omega), rfl⟩
    · have e0 : (g == 0) = false := by simpa using h0
      by_cases h3 : g = 3
      · subst h3
        by_cases k6 : op = 6
        · subst k6
          go_wp2
          go_meet
          exact ⟨_, rfl, (by unfold T.RB; simp), rfl⟩
        · have e6 : (op == 6) = false := by simpa using k6
          have K := Lib.hid k6
          clear k6
          go_wp2
          go_meet
          exact ⟨_, rfl, (by unfold T.RB; simp [K.out]), rfl⟩
      · have e3 : (g == 3) = false := by simpa using h3
        have K := Lib.hid h0
        have K3 := Lib.hid h3
        clear h0 h3
        go_wp2
        go_meet
        exact ⟨_, rfl, (by unfold T.RB; simp [K.out, K3.out]), rfl⟩
  case rest =>
  obtain ⟨q, rfl, hq, rfl⟩ := hcut
  have HQ := Lib.hid hq
  clear hq
  rcases q with _ | _
  case true =>
    go_wp2
    go_ret
    exact ⟨ret_bool (HRR.out ▸ (T.goodB_false fun h => by have := HQ.out; unfold T.RB at this; have hz := HZ.out; have := this.2 ⟨h.2.2.1, fun h3 h6 => by rw [hz]; exact decide_eq_false fun k => h.2.2.2.1 ⟨h3, h6, k⟩⟩; cases this).symm), HW.out⟩
  go_upto_region 4 with fail
  go_cut [49] (fun s49 wx => ∃ q, s49 = .bool q ∧ T.RC q g op ∧ W = wx)
  case first =>
    by_cases k1 : op < 0
    · go_wp2
      go_meet
      exact ⟨_, rfl, (by unfold T.RC; simp; omega), rfl⟩
    by_cases k2 : 8 ≤ op
    · go_wp2
      go_meet
      exact ⟨_, rfl, (by unfold T.RC; simp; omega), rfl⟩
    by_cases k3 : g < 0
    · go_wp2
      go_meet
      exact ⟨_, rfl, (by unfold T.RC; simp; omega), rfl⟩
    by_cases k4 : 3 < g
    · go_wp2
      go_meet
      exact ⟨_, rfl, (by unfold T.RC; simp; omega), rfl⟩
    have K := Lib.hid (show (0 ≤ op ∧ op < 8) ∧ 0 ≤ g ∧ g ≤ 3 by omega)
    go_wp2
    go_meet
    exact ⟨_, rfl, (by unfold T.RC; have := K.out; simp; omega), rfl⟩
  case rest =>
  obtain ⟨q, rfl, hq, rfl⟩ := hcut
  have HR := Lib.hid hq
  clear hq
  rcases q with _ | _
  case true =>
    go_wp2
    go_ret
    exact ⟨ret_bool (HRR.out ▸ (T.goodB_false fun h => by have := HR.out; unfold T.RC at this; have := this.2 ⟨h.2.1, by have := h.1; simp only at this; omega⟩; cases this).symm), HW.out⟩
  have hgg : g = 0 ∨ g = 1 ∨ g = 2 ∨ g = 3 := by
    have := HR.out.1 rfl
    omega
  have HG := Lib.hid hgg
  go_upto_region 6 with fail
  go_cut [68] (fun s68 wx => ∃ q, s68 = .bool q ∧ T.RD q g a b c p ∧ W = wx)
  case first =>
    clear HG
    rcases hgg with rfl | rfl | rfl | rfl
    · by_cases nc : (c : Int) = 0
      case neg =>
        have ec : ((c : Int) == 0) = false := by simpa using nc
        have fc : ((c : Int) != 0) = true := by simpa using nc
        have Nc := Lib.hid nc
        clear nc
        go_wp2
        go_meet
        exact ⟨_, rfl, rd_c Nc.out (by decide), rfl⟩
      have ec : ((c : Int) == 0) = true := by simpa using nc
      have fc : ((c : Int) != 0) = false := by simpa using nc
      have Nc := Lib.hid nc
      clear nc
      rcases empty_cases p with ⟨hp, hq⟩ | ⟨hp, hq⟩
      case inr =>
        have HP := Lib.hid hq
        clear hq
        go_wp2
        go_meet
        exact ⟨_, rfl, rd_p HP.out (by decide), rfl⟩
      have HP := Lib.hid hq
      clear hq
      by_cases nb : (b : Int) = 0
      case neg =>
        have eb : ((b : Int) == 0) = false := by simpa using nb
        have fb : ((b : Int) != 0) = true := by simpa using nb
        have Nb := Lib.hid nb
        clear nb
        go_wp2
        go_meet
        exact ⟨_, rfl, rd_b Nb.out (by decide), rfl⟩
      have eb : ((b : Int) == 0) = true := by simpa using nb
      have fb : ((b : Int) != 0) = false := by simpa using nb
      have Nb := Lib.hid nb
      clear nb
      by_cases na : (a : Int) = 0
      case neg =>
        have ea : ((a : Int) == 0) = false := by simpa using na
        have fa : ((a : Int) != 0) = true := by simpa using na
        have Na := Lib.hid na
        clear na
        go_wp2
        go_meet
        exact ⟨_, rfl, rd_a Na.out (by decide), rfl⟩
      have ea : ((a : Int) == 0) = true := by simpa using na
      have fa : ((a : Int) != 0) = false := by simpa using na
      have Na := Lib.hid na
      clear na
      go_wp2
      go_meet
      exact ⟨_, rfl, rd_0 Nc.out HP.out Nb.out Na.out, rfl⟩
    · by_cases nc : (c : Int) = 0
      case neg =>
        have ec : ((c : Int) == 0) = false := by simpa using nc
        have fc : ((c : Int) != 0) = true := by simpa using nc
        have Nc := Lib.hid nc
        clear nc
        go_wp2
        go_meet
        exact ⟨_, rfl, rd_c Nc.out (by decide), rfl⟩
      have ec : ((c : Int) == 0) = true := by simpa using nc
      have fc : ((c : Int) != 0) = false := by simpa using nc
      have Nc := Lib.hid nc
      clear nc
      rcases empty_cases p with ⟨hp, hq⟩ | ⟨hp, hq⟩
      case inr =>
        have HP := Lib.hid hq
        clear hq
        go_wp2
        go_meet
        exact ⟨_, rfl, rd_p HP.out (by decide), rfl⟩
      have HP := Lib.hid hq
      clear hq
      by_cases nb : (b : Int) = 0
      case neg =>
        have eb : ((b : Int) == 0) = false := by simpa using nb
        have fb : ((b : Int) != 0) = true := by simpa using nb
        have Nb := Lib.hid nb
        clear nb
        go_wp2
        go_meet
        exact ⟨_, rfl, rd_b Nb.out (by decide), rfl⟩
      have eb : ((b : Int) == 0) = true := by simpa using nb
      have fb : ((b : Int) != 0) = false := by simpa using nb
      have Nb := Lib.hid nb
      clear nb
      go_wp2
      go_meet
      exact ⟨_, rfl, rd_1 Nc.out HP.out Nb.out, rfl⟩
    · by_cases nc : (c : Int) = 0
      case neg =>
        have ec : ((c : Int) == 0) = false := by simpa using nc
        have fc : ((c : Int) != 0) = true := by simpa using nc
        have Nc := Lib.hid nc
        clear nc
        go_wp2
        go_meet
        exact ⟨_, rfl, rd_c Nc.out (by decide), rfl⟩
      have ec : ((c : Int) == 0) = true := by simpa using nc
      have fc : ((c : Int) != 0) = false := by simpa using nc
      have Nc := Lib.hid nc
      clear nc
      rcases empty_cases p with ⟨hp, hq⟩ | ⟨hp, hq⟩
      case inr =>
        have HP := Lib.hid hq
        clear hq
        go_wp2
        go_meet
        exact ⟨_, rfl, rd_p HP.out (by decide), rfl⟩
      have HP := Lib.hid hq
      clear hq
      go_wp2
      go_meet
      exact ⟨_, rfl, rd_2 Nc.out HP.out, rfl⟩
    · go_wp2
      go_meet
      exact ⟨_, rfl, rd_3, rfl⟩
  case rest =>
  obtain ⟨q, rfl, hq, rfl⟩ := hcut
  have HD := Lib.hid hq
  clear hq
  rcases q with _ | _
  case true =>
    go_wp2
    go_ret
    exact ⟨ret_bool (HRR.out ▸ (T.goodB_false fun h => by have := HD.out.2 ⟨h.2.2.2.2.1, h.2.2.2.2.2.1, h.2.2.2.2.2.2.1⟩; cases this).symm), HW.out⟩
  have HGood : Hid ((M.bs p = [] ∨ M.goodPre (M.bs p) = true) → r = true) := Lib.hid fun hp => by
    rw [← HRR.out]
    refine (T.goodB_iff _).2 ?_
    have h1 := HQ.out.1 rfl
    have h2 := HR.out.1 rfl
    have h3 := HD.out.1 rfl
    refine ⟨HG.out, h2.1, h1.1, fun h => ?_, h3.1, h3.2.1, h3.2.2, hp⟩
    have h4 := h1.2 h.1 h.2.1
    rw [HZ.out] at h4
    exact absurd h.2.2 (of_decide_eq_false h4)
  have HBad : Hid (¬ (M.bs p = [] ∨ M.goodPre (M.bs p) = true) → r = false) := Lib.hid fun hp => by
    rw [← HRR.out]
    exact T.goodB_false fun h => hp h.2.2.2.2.2.2.2
  clear hgg
  rcases empty_cases p with ⟨hp, hq⟩ | ⟨hp, hq⟩
  · have HP := Lib.hid hq
    clear hq
    go_wp2
    go_ret
    exact ⟨ret_bool (HGood.out (.inl (by simpa using HP.out))).symm, HW.out⟩
  · have HP := Lib.hid hq
    clear hq
    go_wp2_with (first
      | (go_at_call 46; (with_reducible refine (validPre_is p (M.validPre (M.bs p)) _ hz (Lib.hid rfl)).mono ?_); rintro e w2 ⟨rfl, hb⟩; have HB2 := Lib.hid (Below.up HW.out hb); have d5 := cell_below hb c5; clear hb; rcases h1 : M.validPre (M.bs p) with _ | _; all_goals (have HV := Lib.hid h1; clear h1))
      | (go_at_call 47; (with_reducible refine (smallPre_is p (M.smallPre (M.bs p)) _ hz (Lib.hid rfl)).mono ?_); rintro e w3 ⟨rfl, hb⟩; have HB3 := Lib.hid (Below.up HB2.out hb); clear hb; rcases h1 : M.smallPre (M.bs p) with _ | _; all_goals (have HS := Lib.hid h1; clear h1)))
    all_goals go_ret
    all_goals first
      | exact ⟨ret_bool (HGood.out (.inr (by unfold M.goodPre; rw [HV.out, HS.out]; rfl))).symm, HB3.out⟩
      | exact ⟨ret_bool (HBad.out (not_goodP HP.out (by unfold M.goodPre; rw [HV.out, HS.out]; rfl))).symm, HB3.out⟩
      | exact ⟨ret_bool (HBad.out (not_goodP HP.out (by unfold M.goodPre; rw [HV.out]; rfl))).symm, HB2.out⟩
theorem goodTerm_is (t : T) (r : Bool) (w : World) (hz : t.p.size ≤ 2147483647) (hr : Hid (t.goodB = r)) :
    Calls Tryd.prog 56 #[.agg #[.int .i64 t.op, .int .i64 t.g, .int .u64 t.a, .int .u64 t.b, .int .u64 t.c, .string t.p]] w fun e w' => e = .returned (.bool r) ∧ Below w.heap.size w w' := by
  have := goodTerm_any t w hz
  rw [hr.out] at this
  exact this
end Go.Proofs.YtopaileliohpdaaDoor
