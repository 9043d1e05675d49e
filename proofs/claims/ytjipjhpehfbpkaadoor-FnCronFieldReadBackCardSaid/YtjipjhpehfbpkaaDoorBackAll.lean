/-
  CSetF, CSetG, CBack, Bytes.
-/
import Derived.Test.YtjipjhpehfbpkaaDoorCTexts
import Derived.Stop.BytesEq
import Derived.Deep.RegionHeld3
import Derived.Deep.Grids
import Derived.Carry
import Derived.WalkKit
import Derived.OpenShut
/-
  spec.CronSetOf, CronWhole, CronEmpty, CronBits, NewCronStyle.
-/
namespace Go.Proofs.YtjipjhpehfbpkaaDoor
open Go.RowKit
set_option maxRecDepth 100000
set_option linter.unusedVariables false

theorem bool_sizeOf (w : World) : (sizeOf 4).run Tryd.prog w = .ok 1 w := by
  cases hq : Tryd.prog.info? 4 with
  | none => have := bool_size; rw [hq] at this; cases this
  | some i =>
    have hs : i.size = 1 := by have := bool_size; rw [hq] at this; simpa using this
    simp [sizeOf, typeInfo, hq, hs, go_sem]
theorem tail_part (f : Nat → Bool) (i : Nat) (h : i < 63) (w : World) : (part 4 (tailA f) (i * 1)).run Tryd.prog w = .ok (.bool (f (i + 1))) w := by
  have hg : (tailA f)[i]? = some (.bool (f (i + 1))) := by
    unfold tailA
    simp only [List.getElem?_toArray, List.getElem?_drop]
    rw [Nat.add_comm]
    exact setL_get f (i + 1) (by omega)
  simp [part, isAgg, run_underlying Tryd.underlying4, hg, go_sem]
theorem tail_equalIn (d : Nat) (f g : Nat → Bool) (w : World) : (Op.equalIn (d + 2) 25 (.agg (tailA f)) (.agg (tailA g))).run Tryd.prog w = .ok ((List.range 63).all fun i => f (i + 1) == g (i + 1)) w := by
  rw [List.range_eq_range', Op.equalIn]
  simp only [Sem.run_bind, run_underlying Tryd.underlying25, Result.andThen_ok, bool_sizeOf, Std.Legacy.Range.forIn_eq_forIn_range', Std.Legacy.Range.size, Nat.sub_zero, Nat.add_sub_cancel, Nat.div_one]
  have hl : ∀ i ∈ List.range' 0 63 1, i < 63 := fun i hi => by simpa using (List.mem_range'_1.1 hi).2
  generalize List.range' 0 63 1 = l at hl ⊢
  induction l with
  | nil => simp
  | cons i l ih =>
    have hi : i < 63 := hl i (by simp)
    have px := tail_part f i hi w
    have py := tail_part g i hi w
    have pe : (Op.equalIn (d + 1) 4 (.bool (f (i + 1))) (.bool (g (i + 1)))).run Tryd.prog w = .ok (f (i + 1) == g (i + 1)) w := run_equalIn_bool' w d _ _ _ Tryd.underlying4
    simp only [List.forIn_cons, Sem.run_bind, px, py, pe, Result.andThen_ok, List.all_cons]
    cases hb : (f (i + 1) == g (i + 1))
    · simp
    · simp only [Bool.not_true, Bool.false_eq_true, if_false, Sem.run_pure, Result.andThen_ok, Bool.true_and]
      exact ih fun j hj => hl j (by simp [hj])
theorem tail_eql (f g : Nat → Bool) (w : World) : (binOp .eql 25 (.agg (tailA f)) (.agg (tailA g))).run Tryd.prog w = .ok (.bool ((List.range 63).all fun i => f (i + 1) == g (i + 1))) w := by
  rw [run_eql_struct, tail_equalIn 9998 f g w]
  rfl
/-- no value is in the set -/
def isNone (f : Nat → Bool) : Bool := (List.range 63).all fun i => f (i + 1) == noneF (i + 1)
theorem isNone_false {f : Nat → Bool} (h : isNone f = false) : ∃ u, f (1 + u) = true := by
  by_cases e : ∃ u, f (1 + u) = true
  · exact e
  · exfalso
    have : isNone f = true := by
      unfold isNone
      rw [List.all_eq_true]
      intro i _
      cases hq : f (i + 1)
      · rfl
      · exact absurd ⟨i, by rw [Nat.add_comm]; exact hq⟩ e
    rw [h] at this
    cases this
theorem field_zero (w : World) : (Instr.field 27 (.agg #[.bool false, .bool false, .bool false, .bool false, .bool false, .bool false, .bool false, .bool false, .bool false, .bool false, .bool false, .bool false, .bool false, .bool false, .bool false, .bool false, .bool false, .bool false, .bool false, .bool false, .bool false, .bool false, .bool false, .bool false, .bool false, .bool false, .bool false, .bool false, .bool false, .bool false, .bool false, .bool false, .bool false, .bool false, .bool false, .bool false, .bool false, .bool false, .bool false, .bool false, .bool false, .bool false, .bool false, .bool false, .bool false, .bool false, .bool false, .bool false, .bool false, .bool false, .bool false, .bool false, .bool false, .bool false, .bool false, .bool false, .bool false, .bool false, .bool false, .bool false, .bool false, .bool false, .bool false, .bool false]) 1).run Tryd.prog w = .ok (.agg (tailA noneF)) w := by kernel_rfl
set_option maxHeartbeats 4000000 in
theorem cronEmpty_any (f : Nat → Bool) (w : World) : Calls Tryd.prog 11 #[.agg (setL f).toArray] w fun e w' => e = .returned (.bool (isNone f)) ∧ Below w.heap.size w w' := by
  have he : ∀ w, (binOp .eql 25 (.agg (tailA f)) (.agg (tailA noneF))).run Tryd.prog w = .ok (.bool (isNone f)) w := tail_eql f noneF
  have hfz := field_zero
  go_enter Tryd.func11, Tryd.ntmps11
  go_upto_region 1 with fail
  have S0 : Hid (SetAt (w.alloc (.cells (setL f).toArray 27)) w.heap.size f) := Lib.hid (SetAt.new w f _ rfl)
  have B0 : Hid (Below w.heap.size w (w.alloc (.cells (setL f).toArray 27))) := Lib.hid (below_alloc _ _)
  generalize w.alloc (.cells (setL f).toArray 27) = w3 at *
  obtain ⟨N0, h0⟩ : ∃ n, w.heap.size = n := ⟨_, rfl⟩
  rw [h0] at S0 ⊢
  clear h0
  go_wp2_with (with_reducible refine wpList_tail_load rfl _ rfl N0 f rfl S0.out ?_)
  go_ret
  exact ⟨rfl, B0.out⟩
/-- the bits of a set's values below V -/
def BitsTo (f : Nat → Bool) (V B : Nat) : Prop := B < 18446744073709551616 ∧ ∀ i, B.testBit i = (decide (i < V) && f (i + 1))
theorem BitsTo.zero (f : Nat → Bool) : BitsTo f 0 0 := ⟨by decide, fun i => by simp⟩
theorem BitsTo.out {f : Nat → Bool} {V B : Nat} (h : BitsTo f V B) (hf : f (V + 1) = false) : BitsTo f (V + 1) B := ⟨h.1, fun i => by
  rw [h.2 i]
  by_cases e : i = V
  · subst e; rw [hf]; simp
  · congr 1; rw [decide_eq_decide]; omega⟩
theorem BitsTo.put {f : Nat → Bool} {V B : Nat} (h : BitsTo f V B) (hf : f (V + 1) = true) (hV : V < 63) : BitsTo f (V + 1) (B ||| 2 ^ V) := by
  have h2 : 2 ^ V < 2 ^ 64 := Nat.pow_lt_pow_right (by omega) (by omega)
  refine ⟨Nat.or_lt_two_pow (show B < 2 ^ 64 from h.1) h2, fun i => ?_⟩
  rw [Nat.testBit_or, Nat.testBit_two_pow, h.2 i]
  by_cases e : V = i
  · subst e; rw [hf]; simp
  · rw [decide_eq_false e, Bool.or_false]
    congr 1
    rw [decide_eq_decide]; omega
theorem BitsTo.star {f : Nat → Bool} {B : Nat} (h : BitsTo f 63 B) (h0 : f 0 = true) : SetIs f (B ||| 9223372036854775808) ∧ B ||| 9223372036854775808 < 18446744073709551616 := by
  refine ⟨⟨?_, fun i hi => ?_⟩, Nat.or_lt_two_pow (n := 64) h.1 (by decide)⟩
  · rw [Nat.testBit_or, two63, h0]; simp
  · rw [Nat.testBit_or, two63, h.2 i, decide_eq_true hi, decide_eq_false (show ¬ i = 63 by omega)]; simp
theorem BitsTo.plain {f : Nat → Bool} {B : Nat} (h : BitsTo f 63 B) (h0 : f 0 = false) : SetIs f B := by
  refine ⟨?_, fun i hi => ?_⟩
  · rw [h.2 63, h0]; simp
  · rw [h.2 i, decide_eq_true hi]; simp
set_option maxHeartbeats 4000000 in
theorem cronBits_any (f : Nat → Bool) (w : World) : Calls Tryd.prog 14 #[setV f] w fun e w' => (∃ B : Nat, e = .returned (.int .u64 (B : Int)) ∧ SetIs f B ∧ B < 18446744073709551616) ∧ Below w.heap.size w w' := by
  show Calls Tryd.prog 14 #[.agg (setL f).toArray] w _
  go_enter Tryd.func14, Tryd.ntmps14
  go_upto_region 1 with fail
  have S0 : Hid (SetAt (w.alloc (.cells (setL f).toArray 27)) w.heap.size f) := Lib.hid (SetAt.new w f _ rfl)
  have B0 : Hid (Below w.heap.size w (w.alloc (.cells (setL f).toArray 27))) := Lib.hid (below_alloc _ _)
  generalize w.alloc (.cells (setL f).toArray 27) = w3 at *
  obtain ⟨N0, h0⟩ : ∃ n, w.heap.size = n := ⟨_, rfl⟩
  rw [h0] at S0 ⊢
  clear h0
  go_wp2_with (with_reducible refine wpList_tail_load rfl _ rfl N0 f rfl S0.out ?_)
  go_loop [3, 8] (fun b i => ∃ B k : Nat, b = .int .u64 (B : Int) ∧ i = .int .i64 (k : Int) ∧ k ≤ 63 ∧ Hid (BitsTo f k B)) (fun _ i => 63 - (intOf i).toNat)
  case atStart => exact ⟨0, 0, rfl, rfl, Nat.zero_le _, Lib.hid (BitsTo.zero f)⟩
  case round =>
    obtain ⟨B, k, rfl, rfl, hk, HB⟩ := hrel
    by_cases hlt : k < 63
    · have hki : (k : Int) < 63 := by omega
      have hk0 : (0 : Int) ≤ (k : Int) := by omega
      have ix := fun w => tail_index f k hlt w
      obtain ⟨b, hb⟩ : ∃ b, f (k + 1) = b := ⟨_, rfl⟩
      simp only [hb] at ix
      cases b with
      | false =>
        have HB2 := Lib.hid (HB.out.out hb)
        clear hb
        go_wp2
        go_round
        case rel => exact ⟨B, k + 1, rfl, by go_num, by omega, HB2⟩
        case measure => simp [intOf]; omega
      | true =>
        have HB2 := Lib.hid (HB.out.put hb hlt)
        have hsg : IntKind.u64.signed = false := rfl
        have os := or_step HB.out.1 (show k < 64 by omega)
        clear hb
        go_wp2
        go_round
        case rel => exact ⟨B ||| 2 ^ k, k + 1, by first | rfl | exact congrArg _ os, by go_num, by omega, HB2⟩
        case measure => simp [intOf]; omega
    · obtain rfl : k = 63 := by omega
      obtain ⟨z, hz⟩ : ∃ z, f 0 = z := ⟨_, rfl⟩
      have c0 : w3.cell? ⟨N0, 0, none⟩ = some (.bool z) := by rw [← hz]; exact S0.out.cell 0 (by omega)
      cases z with
      | false =>
        have HZ := Lib.hid (HB.out.plain hz)
        clear hz
        go_wp2
        go_ret
        exact ⟨⟨B, rfl, HZ.out, HB.out.1⟩, B0.out⟩
      | true =>
        have HZ := Lib.hid (HB.out.star hz)
        have os := M.or64 HB.out.1 (show (9223372036854775808 : Nat) < 18446744073709551616 by decide)
        clear hz
        go_wp2
        go_ret
        exact ⟨⟨B ||| 9223372036854775808, by first | rfl | exact ret_u64 os, HZ.out.1, HZ.out.2⟩, B0.out⟩
end Go.Proofs.YtjipjhpehfbpkaaDoor

/-
  spec.CronSetOf, CronWhole, NewCronStyle, CronFieldText.
-/
namespace Go.Proofs.YtjipjhpehfbpkaaDoor
open Go.RowKit
set_option maxRecDepth 100000
set_option linter.unusedVariables false

/-- a set whose values from mn up to V - 1 are laid, over a first set -/
def upG (g0 T : Nat → Bool) (mn V : Nat) : Nat → Bool := fun i => if mn + 1 ≤ i ∧ i ≤ V then T i else g0 i
structure UpSt (N0 : Nat) (g0 T : Nat → Bool) (mn V : Nat) (w wr : World) : Prop where
  at0 : SetAt wr N0 noneF
  at1 : SetAt wr (N0 + 1) (upG g0 T mn V)
  bel : Below w.heap.size w wr
theorem upG_start (g0 T : Nat → Bool) (mn : Nat) : upG g0 T mn mn = g0 := by
  funext i
  unfold upG
  rw [if_neg (by omega)]
theorem UpSt.step {N0 : Nat} {g0 T : Nat → Bool} {mn V : Nat} {w wr : World} (h : UpSt N0 g0 T mn V w wr) (hN : w.heap.size = N0) (h1 : mn ≤ V) (h2 : V ≤ 62) (b : Bool) (hb : b = T (1 + V)) :
    UpSt N0 g0 T mn (V + 1) w (wr.setCell ⟨N0 + 1, 1 + V, none⟩ (.bool b)) := by
  refine ⟨h.at0.other (by omega) _ _, ?_, h.bel.setCell (by rw [hN]; exact Nat.le_succ _) _⟩
  have := h.at1.set (1 + V) (by omega) b
  have e : (fun i => if i = 1 + V then b else upG g0 T mn V i) = upG g0 T mn (V + 1) := by
    funext i
    unfold upG
    by_cases q : i = 1 + V
    · subst q
      rw [if_pos rfl, if_pos (by omega), hb]
    · rw [if_neg q]
      by_cases z : mn + 1 ≤ i ∧ i ≤ V
      · rw [if_pos z, if_pos (by omega)]
      · rw [if_neg z, if_neg (by omega)]
  rw [e] at this
  exact this
theorem UpSt.cell {N0 : Nat} {g0 T : Nat → Bool} {mn V : Nat} {w wr : World} (h : UpSt N0 g0 T mn V w wr) (h1 : mn ≤ V) (h2 : V ≤ 62) : wr.cell? ⟨N0 + 1, 1 + V, none⟩ = some (.bool (g0 (1 + V))) := by
  have := h.at1.cell (1 + V) (by omega)
  unfold upG at this
  rw [if_neg (by omega)] at this
  exact this
/-- the set of the bits B of a field -/
def setOfF (k B : Nat) : Nat → Bool := fun i => if i = 0 then B.testBit 63 else upG noneF (fun i => B.testBit (i - 1)) (M.bdOf k).mn ((M.bdOf k).mx + 1) i
theorem setOfF_dom {k B u : Nat} (h : setOfF k B (1 + u) = true) : (M.bdOf k).mn ≤ u ∧ u ≤ (M.bdOf k).mx := by
  unfold setOfF upG at h
  rw [if_neg (by omega)] at h
  by_cases z : (M.bdOf k).mn + 1 ≤ 1 + u ∧ 1 + u ≤ (M.bdOf k).mx + 1
  · omega
  · rw [if_neg z] at h
    cases h
/-- the set of all values -/
def starF : Nat → Bool := fun i => decide (i = 0)
def wholeF (k : Nat) : Nat → Bool := upG starF (fun _ => true) (M.bdOf k).mn ((M.bdOf k).mx + 1)
theorem wholeF_k (k : Nat) : SetK (wholeF k) k := by
  refine ⟨fun u h => ?_, fun _ u h1 h2 => ?_⟩
  · unfold wholeF upG at h
    by_cases z : (M.bdOf k).mn + 1 ≤ 1 + u ∧ 1 + u ≤ (M.bdOf k).mx + 1
    · omega
    · rw [if_neg z] at h
      unfold starF at h
      simp at h
  · unfold wholeF upG
    rw [if_pos (by omega)]
theorem setOfF_k {k B : Nat} (h : setOfF k B 0 = false) : SetK (setOfF k B) k := ⟨fun u hu => setOfF_dom hu, fun h0 => by rw [h] at h0; cases h0⟩
theorem and_top (B : Nat) (hB : B < 18446744073709551616) : Go.bits .and .u64 (B : Int) 9223372036854775808 = if B.testBit 63 then 9223372036854775808 else 0 := by
  have := M.and64 (a := B) (b := 9223372036854775808) hB (by decide)
  refine this.trans ?_
  have e : B &&& 9223372036854775808 = if B.testBit 63 then 9223372036854775808 else 0 := by
    apply Nat.eq_of_testBit_eq
    intro j
    rw [Nat.testBit_and, two63]
    by_cases h : j = 63
    · subst h
      cases hb : B.testBit 63
      · simp
      · simp [two63]
    · rw [decide_eq_false h]
      cases B.testBit 63
      · simp
      · simp [two63, h]
  rw [e]
  cases B.testBit 63 <;> rfl
set_option maxHeartbeats 8000000 in
theorem cronSetOf_any (k B : Nat) (hk : k ≤ 5) (hB : B < 18446744073709551616) (w : World) : Calls Tryd.prog 9 #[.int .i64 (k : Int), .int .u64 (B : Int)] w fun e w' => e = .returned (setV (setOfF k B)) ∧ Below w.heap.size w w' := by
  have hx := (bd_le k).1
  have hmm : (M.bdOf k).mn ≤ (M.bdOf k).mx := by rcases k with _ | _ | _ | _ | _ | k <;> simp [M.bdOf]
  have HFIN : Hid (∀ b, b = B.testBit 63 → setL (fun i => if i = 0 then b else upG noneF (fun i => B.testBit (i - 1)) (M.bdOf k).mn ((M.bdOf k).mx + 1) i) = setL (setOfF k B)) := Lib.hid fun b hb => by rw [hb]; rfl
  obtain ⟨mn, hmn⟩ : ∃ n, (M.bdOf k).mn = n := ⟨_, rfl⟩
  obtain ⟨mx, hmx⟩ : ∃ n, (M.bdOf k).mx = n := ⟨_, rfl⟩
  have HLO : Hid (∀ w : World, Calls Tryd.prog 21 #[.int .i64 (k : Int)] w fun e w' => e = .returned (.int .i64 (mn : Int)) ∧ w = w') := Lib.hid (fun w => by have := low_any k hk w; rw [hmn] at this; exact this)
  have HHI : Hid (∀ w : World, Calls Tryd.prog 22 #[.int .i64 (k : Int)] w fun e w' => e = .returned (.int .i64 (mx : Int)) ∧ w = w') := Lib.hid (fun w => by have := high_any k hk w; rw [hmx] at this; exact this)
  have HBB := Lib.hid hB
  rw [hmn, hmx] at hmm HFIN
  rw [hmx] at hx
  clear hmn hmx hk hB
  go_enter Tryd.func9, Tryd.ntmps9
  go_upto_region 2 with fail
  have S0 : Hid (SetAt ((w.alloc (.cells (setL noneF).toArray 27)).alloc (.cells (setL noneF).toArray 27)) w.heap.size noneF) := Lib.hid ((SetAt.new w noneF _ rfl).alloc _)
  have S1 : Hid (SetAt ((w.alloc (.cells (setL noneF).toArray 27)).alloc (.cells (setL noneF).toArray 27)) (w.heap.size + 1) noneF) := Lib.hid (by have := SetAt.new (w.alloc (.cells (setL noneF).toArray 27)) noneF 27 rfl; rw [heap_size_alloc] at this; exact this)
  have B0 : Hid (Below w.heap.size w ((w.alloc (.cells (setL noneF).toArray 27)).alloc (.cells (setL noneF).toArray 27))) := Lib.hid ((below_alloc _ _).alloc (by rw [heap_size_alloc]; omega) _)
  generalize hw3 : (w.alloc (.cells (setL noneF).toArray 27)).alloc (.cells (setL noneF).toArray 27) = w3 at *
  simp only [zero_set] at *
  rw [hw3]
  clear hw3
  obtain ⟨N0, h0⟩ : ∃ n, w.heap.size = n := ⟨_, rfl⟩
  rw [h0] at S0 S1 ⊢
  have H0 := Lib.hid h0
  clear h0
  go_wp2_with (go_at_call 21; (with_reducible refine (HLO.out _).mono ?_); rintro e w1 ⟨rfl, rfl⟩)
  go_loopw [6] (fun i wr => ∃ V : Nat, i = .int .i64 (V : Int) ∧ mn ≤ V ∧ V ≤ mx + 1 ∧ Hid (UpSt N0 noneF (fun i => B.testBit (i - 1)) mn V w wr)) (fun i _ => 64 - (intOf i).toNat)
  case atStart => exact ⟨mn, rfl, Nat.le_refl _, by omega, Lib.hid ⟨S0.out, by rw [upG_start]; exact S1.out, B0.out⟩⟩
  case round =>
    obtain ⟨V, rfl, hV1, hV2, HU⟩ := hrel
    clear S0 S1 B0
    by_cases hlt : V ≤ mx
    · have hVi : (V : Int) ≤ (mx : Int) := by omega
      have hV0 : (0 : Int) ≤ (V : Int) := by omega
      have hV63 : (V : Int) < 63 := by omega
      have hV64 : (V : Int) ≤ 64 := by omega
      have c1 : wr.cell? ⟨N0 + 1, 1 + V, none⟩ = some (.bool false) := HU.out.cell hV1 (by omega)
      have l1 : wr.frozen? ⟨N0 + 1, 1 + V, none⟩ = false := HU.out.at1.loose _
      have HST : Hid (∀ b, b = B.testBit V → UpSt N0 noneF (fun i => B.testBit (i - 1)) mn (V + 1) w (wr.setCell ⟨N0 + 1, 1 + V, none⟩ (.bool b))) := Lib.hid fun b hb => HU.out.step H0.out hV1 (by omega) b (by rw [hb]; simp)
      obtain ⟨b, hb⟩ : ∃ b, B.testBit V = b := ⟨_, rfl⟩
      have f1 : bits .and .u64 ((B : Int) / 2 ^ V) 1 = if b then 1 else 0 := by rw [M.bit_and B V HBB.out, hb]
      have HS2 := Lib.hid (HST.out b hb.symm)
      clear HST hb
      rcases b with _ | _
      all_goals
        (have f2 := f1; simp only [Bool.false_eq_true, if_false, if_true] at f2; clear f1)
        go_wp2_with (go_at_call 22; (with_reducible refine (HHI.out _).mono ?_); rintro e w1 ⟨rfl, rfl⟩)
        go_roundw
        case rel => exact ⟨V + 1, by go_num, by omega, by omega, HS2⟩
        case measure => simp [intOf]; omega
    · have hVi : ¬ (V : Int) ≤ (mx : Int) := by omega
      obtain rfl : V = mx + 1 := by omega
      have c1 : wr.cell? ⟨N0 + 1, 0, none⟩ = some (.bool (noneF 0)) := by
        have := HU.out.at1.cell 0 (by omega)
        unfold upG at this
        rw [if_neg (by omega)] at this
        exact this
      have l1 : wr.frozen? ⟨N0 + 1, 0, none⟩ = false := HU.out.at1.loose _
      obtain ⟨b, hb⟩ : ∃ b, B.testBit 63 = b := ⟨_, rfl⟩
      have f1 : bits .and .u64 (B : Int) 9223372036854775808 = if b then 9223372036854775808 else 0 := by rw [and_top B HBB.out, hb]
      have HS2 : Hid (SetAt (wr.setCell ⟨N0 + 1, 0, none⟩ (.bool b)) (N0 + 1) (setOfF k B)) := Lib.hid (by
        have h := HU.out.at1.set 0 (by omega) b
        refine ⟨h.lt, ?_, h.loose⟩
        rw [← HFIN.out b hb.symm]
        exact h.has)
      have HS0 : Hid (SetAt (wr.setCell ⟨N0 + 1, 0, none⟩ (.bool b)) N0 noneF) := Lib.hid (HU.out.at0.other (by omega) _ _)
      have HB4 : Hid (Below w.heap.size w (wr.setCell ⟨N0 + 1, 0, none⟩ (.bool b))) := Lib.hid (HU.out.bel.setCell (by rw [H0.out]; exact Nat.le_succ _) _)
      have HLE := Lib.hid (Nat.le_of_eq H0.out)
      clear hb HFIN
      obtain ⟨u, hu⟩ : ∃ u, setOfF k B = u := ⟨_, rfl⟩
      rw [hu] at HS2
      have HU2 := Lib.hid hu
      clear hu
      rcases b with _ | _
      all_goals
        (have f2 := f1; simp only [Bool.false_eq_true, if_false, if_true] at f2; clear f1)
        go_wp2_with (first
          | (go_at_call 22; (with_reducible refine (HHI.out _).mono ?_); rintro e w1 ⟨rfl, rfl⟩)
          | (with_reducible refine wpList_set_load rfl _ rfl (N0 + 1) u rfl HS2.out ?_)
          | (refine wpList_set_store rfl _ _ rfl N0 noneF u (by kernel_rfl) (by kernel_rfl) HS0.out ?_; intro W hW; have HW := Lib.hid (And.intro hW.it (hW.bel HLE.out HB4.out)); clear hW)
          | fail)
        exact bodyPost_ret (results_set1 rfl _ _ N0 u rfl HW.out.1) rfl ⟨by rw [HU2.out], HW.out.2⟩
set_option maxHeartbeats 8000000 in
theorem cronWhole_any (k : Nat) (hk : k ≤ 5) (w : World) : Calls Tryd.prog 10 #[.int .i64 (k : Int)] w fun e w' => e = .returned (setV (wholeF k)) ∧ Below w.heap.size w w' := by
  have hx := (bd_le k).1
  have hmm : (M.bdOf k).mn ≤ (M.bdOf k).mx := by rcases k with _ | _ | _ | _ | _ | k <;> simp [M.bdOf]
  have HFIN : Hid (wholeF k = upG starF (fun _ => true) (M.bdOf k).mn ((M.bdOf k).mx + 1)) := Lib.hid rfl
  obtain ⟨mn, hmn⟩ : ∃ n, (M.bdOf k).mn = n := ⟨_, rfl⟩
  obtain ⟨mx, hmx⟩ : ∃ n, (M.bdOf k).mx = n := ⟨_, rfl⟩
  have HLO : Hid (∀ w : World, Calls Tryd.prog 21 #[.int .i64 (k : Int)] w fun e w' => e = .returned (.int .i64 (mn : Int)) ∧ w = w') := Lib.hid (fun w => by have := low_any k hk w; rw [hmn] at this; exact this)
  have HHI : Hid (∀ w : World, Calls Tryd.prog 22 #[.int .i64 (k : Int)] w fun e w' => e = .returned (.int .i64 (mx : Int)) ∧ w = w') := Lib.hid (fun w => by have := high_any k hk w; rw [hmx] at this; exact this)
  rw [hmn, hmx] at hmm HFIN
  rw [hmx] at hx
  clear hmn hmx hk
  go_enter Tryd.func10, Tryd.ntmps10
  go_upto_region 1 with fail
  have S0 : Hid (SetAt (w.alloc (.cells (setL noneF).toArray 27)) w.heap.size noneF) := Lib.hid (SetAt.new w noneF _ rfl)
  have B0 : Hid (Below w.heap.size w (w.alloc (.cells (setL noneF).toArray 27))) := Lib.hid (below_alloc _ _)
  have HLT : Hid (w.heap.size < (w.alloc (.cells (setL noneF).toArray 27)).heap.size) := Lib.hid (by rw [heap_size_alloc]; omega)
  generalize hw3 : w.alloc (.cells (setL noneF).toArray 27) = w3 at *
  simp only [zero_set] at *
  rw [hw3]
  clear hw3
  obtain ⟨N0, h0⟩ : ∃ n, w.heap.size = n := ⟨_, rfl⟩
  rw [h0] at S0 HLT ⊢
  have H0 := Lib.hid h0
  clear h0
  have HN1 : Hid (∀ cs, cs = (setL noneF).toArray → SetAt (w3.alloc (.cells cs 27)) w3.heap.size noneF) := Lib.hid fun cs e => SetAt.new w3 noneF _ e
  go_upto_region 2 with (first
    | (refine wpList_set_store rfl _ _ rfl w3.heap.size noneF starF (by kernel_rfl) (by kernel_rfl) (HN1.out _ zero_set) ?_; intro W hW; have S1 := Lib.hid hW.it; have B1 := Lib.hid (Below.up B0.out (hW.bel (Nat.le_refl _) (below_alloc _ _))); have S2 := Lib.hid (S0.out.below (hW.bel (Nat.le_refl _) (below_alloc _ _))); clear hW)
    | fail)
  clear S0 B0 HN1
  obtain ⟨M2, hM2⟩ : ∃ m, w3.heap.size = m := ⟨_, rfl⟩
  rw [hM2] at S1 HLT ⊢
  clear hM2 w3
  go_wp2_with (go_at_call 21; (with_reducible refine (HLO.out _).mono ?_); rintro e w1 ⟨rfl, rfl⟩)
  go_loopw [4] (fun i wr => ∃ V : Nat, i = .int .i64 (V : Int) ∧ mn ≤ V ∧ V ≤ mx + 1 ∧ Hid (SetAt wr N0 noneF) ∧ Hid (SetAt wr M2 (upG starF (fun _ => true) mn V)) ∧ Hid (Below w.heap.size w wr)) (fun i _ => 64 - (intOf i).toNat)
  case atStart => exact ⟨mn, rfl, Nat.le_refl _, by omega, S2, Lib.hid (by rw [upG_start]; exact S1.out), B1⟩
  case round =>
    clear S1 S2 B1
    obtain ⟨V, rfl, hV1, hV2, S0, S1, B1⟩ := hrel
    by_cases hlt : V ≤ mx
    · have hVi : (V : Int) ≤ (mx : Int) := by omega
      have hV0 : (0 : Int) ≤ (V : Int) := by omega
      have hV63 : (V : Int) < 63 := by omega
      obtain ⟨y, hy⟩ : ∃ y, upG starF (fun _ => true) mn V (1 + V) = y := ⟨_, rfl⟩
      have c1 : wr.cell? ⟨M2, 1 + V, none⟩ = some (.bool y) := by rw [← hy]; exact S1.out.cell (1 + V) (by omega)
      have l1 : wr.frozen? ⟨M2, 1 + V, none⟩ = false := S1.out.loose _
      have T1 : Hid (SetAt (wr.setCell ⟨M2, 1 + V, none⟩ (.bool true)) M2 (upG starF (fun _ => true) mn (V + 1))) := Lib.hid (by
        have h := S1.out.set (1 + V) (by omega) true
        have e : (fun i => if i = 1 + V then true else upG starF (fun _ => true) mn V i) = upG starF (fun _ => true) mn (V + 1) := by
          funext i
          unfold upG
          by_cases q : i = 1 + V
          · subst q
            rw [if_pos rfl, if_pos (by omega)]
          · rw [if_neg q]
            by_cases z : mn + 1 ≤ i ∧ i ≤ V
            · rw [if_pos z, if_pos (by omega)]
            · rw [if_neg z, if_neg (by omega)]
        rw [e] at h
        exact h)
      have T0 : Hid (SetAt (wr.setCell ⟨M2, 1 + V, none⟩ (.bool true)) N0 noneF) := Lib.hid (S0.out.other (Nat.ne_of_lt HLT.out) _ _)
      have TB : Hid (Below w.heap.size w (wr.setCell ⟨M2, 1 + V, none⟩ (.bool true))) := Lib.hid (B1.out.setCell (by have := HLT.out; have := H0.out; show w.heap.size ≤ M2; omega) _)
      clear hy
      go_wp2_with (go_at_call 22; (with_reducible refine (HHI.out _).mono ?_); rintro e w1 ⟨rfl, rfl⟩)
      go_roundw
      case rel => exact ⟨V + 1, by go_num, by omega, by omega, T0, T1, TB⟩
      case measure => simp [intOf]; omega
    · have hVi : ¬ (V : Int) ≤ (mx : Int) := by omega
      obtain rfl : V = mx + 1 := by omega
      rw [← HFIN.out] at S1
      have HLE := Lib.hid (Nat.le_of_eq H0.out)
      obtain ⟨u, hu⟩ : ∃ u, wholeF k = u := ⟨_, rfl⟩
      rw [hu] at S1
      have HU2 := Lib.hid hu
      clear hu
      go_wp2_with (first
        | (go_at_call 22; (with_reducible refine (HHI.out _).mono ?_); rintro e w1 ⟨rfl, rfl⟩)
        | (with_reducible refine wpList_set_load rfl _ rfl M2 u rfl S1.out ?_)
        | (refine wpList_set_store rfl _ _ rfl N0 noneF u (by kernel_rfl) (by kernel_rfl) S0.out ?_; intro W hW; have HW := Lib.hid (And.intro hW.it (hW.bel HLE.out B1.out)); clear hW)
        | fail)
      exact bodyPost_ret (results_set1 rfl _ _ N0 u rfl HW.out.1) rfl ⟨by rw [HU2.out], HW.out.2⟩
end Go.Proofs.YtjipjhpehfbpkaaDoor

/-
  spec.NewCronStyle, CronFieldText; laws.FnCronFieldReadBack, walked.
-/
namespace Go.Proofs.YtjipjhpehfbpkaaDoor
open Go.RowKit
set_option maxRecDepth 100000
set_option linter.unusedVariables false

/-- slice v reads as bytes -/
def ReadY (w : World) (v : Value) (n : Nat) : Prop := ∃ A cap, v = .slice A n cap ∧ ∀ j, j < n → ∃ g o x, A = some ⟨g, o, none⟩ ∧ g < w.heap.size ∧ w.cell? ⟨g, o + j, none⟩ = some (byteV x)
theorem ReadY.below {w w' : World} {v : Value} {n : Nat} (h : ReadY w v n) (b : Below w.heap.size w w') : ReadY w' v n := by
  obtain ⟨A, cap, rfl, hc⟩ := h
  refine ⟨A, cap, rfl, fun j hj => ?_⟩
  obtain ⟨g, o, x, e, h1, h2⟩ := hc j hj
  exact ⟨g, o, x, e, Nat.lt_of_lt_of_le h1 b.size, by rw [b.cell (p := ⟨g, o + j, none⟩) h1]; exact h2⟩
theorem newStyle_any (A : Option Addr) (n cap : Nat) (w : World) (h : ReadY w (.slice A n cap) n) (hn : n ≤ 140737488351232) :
    Calls Tryd.prog 13 #[.slice A n cap] w fun e w' => e = .returned (.pointer (some ⟨w.heap.size, 0, none⟩)) ∧ StyleAt w' w.heap.size ∧ Below w.heap.size w w' := by
  have H := Lib.hid h
  have HN := Lib.hid hn
  clear h hn
  go_enter Tryd.func13, Tryd.ntmps13
  go_wp2
  go_ret
  refine ⟨rfl, ?_, below_alloc _ _⟩
  obtain ⟨A', cap', e, hc⟩ := H.out
  obtain ⟨rfl, -, rfl⟩ : A = A' ∧ n = n ∧ cap = cap' := by simpa using e
  refine ⟨A, n, cap, 0, alloc_at _ _ _ rfl, HN.out, fun j hj => ?_⟩
  obtain ⟨g, o, x, e, h1, h2⟩ := hc j hj
  exact ⟨g, o, x, e, by rw [heap_size_alloc]; omega, h1, by rw [(below_alloc w _).cell (p := ⟨g, o + j, none⟩) h1]; exact h2⟩
def FText (f : Nat → Bool) (k S : Nat) (w : World) (e : Ending) (w' : World) : Prop :=
  (∃ J n, e = .returned (.string J) ∧ J.size ≤ 200000 ∧ M.field (M.bdOf k) (M.bs J) = some n ∧ SetIs f n) ∧ Bar w.heap.size S w w'
set_option maxHeartbeats 8000000 in
theorem fieldText_any (f : Nat → Bool) (k S : Nat) (hk : k ≤ 5) (hf : SetK f k) (hne : ∃ u, f (1 + u) = true) (w : World) (h : StyleAt w S) (hp : PowS S w) :
    Calls Tryd.prog 12 #[.int .i64 (k : Int), setV f, .pointer (some ⟨S, 0, none⟩)] w (FText f k S w) := by
  have HIT : Hid (∀ W, StyleAt W S → PowS S W → Calls Tryd.prog 24 #[.int .i64 (k : Int), setV f, .pointer (some ⟨S, 0, none⟩)] W fun e w' =>
      ∃ g c L, e = .returned (.slice (some ⟨g, 0, none⟩) L.length c) ∧ SlAt w' g L ∧ DoneT f k L ∧ StyleAt w' S ∧ Bar W.heap.size S W w') := Lib.hid fun W a b => itemTexts_any f k S hk hf hne W a b
  show Calls Tryd.prog 12 #[.int .i64 (k : Int), .agg (setL f).toArray, .pointer (some ⟨S, 0, none⟩)] w (FText f k S w)
  have I0 : Hid (ISt f S w.heap.size w (w.alloc (.cells (setL f).toArray 27))) := Lib.hid ⟨SetAt.new w f _ rfl, h.below (below_alloc _ _), Bar.of (below_alloc _ _), hp.below ((below_alloc _ _).mono (Nat.le_of_lt h.lt))⟩
  clear h hp hk hf hne
  go_enter Tryd.func12, Tryd.ntmps12
  go_upto_region 1 with fail
  generalize w.alloc (.cells (setL f).toArray 27) = w3 at *
  obtain ⟨N0, h0⟩ : ∃ n, w.heap.size = n := ⟨_, rfl⟩
  rw [h0] at I0 ⊢
  clear h0
  go_wp2_with (first
    | (with_reducible refine wpList_set_load rfl _ rfl N0 f rfl I0.out.set ?_)
    | (go_at_call 24; (with_reducible refine (HIT.out _ I0.out.sty I0.out.pow).mono ?_); rintro e w4 ⟨g, c, L, rfl, hsl, hd, hs, hb⟩; have HSL := Lib.hid hsl; have HD := Lib.hid hd; have HB := Lib.hid (I0.out.bar.up hb); clear hsl hd hs hb)
    | (go_at_call 23; (with_reducible refine (cronJoin_any g L.length c L _ rfl HSL.out (Nat.le_trans HD.out.len (by decide)) (fun i hi => Nat.le_trans (HD.out.items _ (List.getElem_mem hi)).small (by decide))).mono ?_); rintro e w5 ⟨J, rfl, hJ, hJs, rfl⟩; have HJ := Lib.hid hJ; have HJ2 := Lib.hid hJs; clear hJ hJs)
    | fail)
  go_ret
  obtain ⟨n, hn, hi⟩ := HD.out.field HJ.out
  refine ⟨⟨J, n, rfl, ?_, hn, hi⟩, HB.out⟩
  have := HJ2.out
  have := HD.out.len
  omega
theorem fieldL_lt (b : M.Bd) : ∀ (L : List M.Bs) (acc n : Nat), acc < 18446744073709551616 → M.fieldL b acc L = some n → n < 18446744073709551616
  | [], acc, n, h, e => by
    obtain rfl : acc = n := Option.some.inj e
    exact h
  | p :: L, acc, n, h, e => by
    have e' : (match M.item b p with | none => none | some x => M.fieldL b (acc ||| x) L) = some n := e
    cases hi : M.item b p with
    | none => rw [hi] at e'; cases e'
    | some x =>
      rw [hi] at e'
      exact fieldL_lt b L (acc ||| x) n (Nat.or_lt_two_pow (n := 64) h (M.item_lt hi)) e'
theorem setIs_one {f : Nat → Bool} {n m : Nat} (h : SetIs f n) (h2 : SetIs f m) (hn : n < 18446744073709551616) (hm : m < 18446744073709551616) : n = m := by
  apply Nat.eq_of_testBit_eq
  intro i
  by_cases e : i < 63
  · rw [← h.2 i e, ← h2.2 i e]
  · by_cases e2 : i = 63
    · subst e2
      rw [← h.1, ← h2.1]
    · have h64 : (2 : Nat) ^ 64 ≤ 2 ^ i := Nat.pow_le_pow_right (by omega) (by omega)
      rw [Nat.testBit_lt_two_pow (Nat.lt_of_lt_of_le hn h64), Nat.testBit_lt_two_pow (Nat.lt_of_lt_of_le hm h64)]
theorem wpList_set_load_g {ops : Array Oper} {rest : List Oper} {op : Oper} {a : Act} {w : World} {Q : Exit → Act → World → Prop} (hw : Region.wanted op (yielded ops a.tmps) = true) (x : Operand) (ho : op.op = .load 27 x)
    (N : Nat) (f : Nat → Bool) (hx : a.eval x = .pointer (some ⟨N, 0, none⟩)) (h : SetAt w N f)
    (hK : wpList Tryd.prog ops Q rest (a.put op.dst (setV f)) w) : wpList Tryd.prog ops Q (op :: rest) a w :=
  wpList_step fun K hKK => by
    rw [if_pos hw]
    exact wp_load_mid _ x ho N 0 hx (setL f) _ h.has Tryd.underlying27 rfl (by rw [setL_len]; kernel_rfl) (hKK _ _ hK)
theorem cronEmpty_set (f : Nat → Bool) (b : Bool) (hb : isNone f = b) (w : World) : Calls Tryd.prog 11 #[setV f] w fun e w' => e = .returned (.bool b) ∧ Below w.heap.size w w' := by
  subst hb
  exact cronEmpty_any f w
set_option maxHeartbeats 40000000 in
theorem back_main (k B : Nat) (v : Value) (n : Nat) (w : World) (hE : NumErrs w ∧ Pow10 w) (hk : k ≤ 5) (hB : B < 18446744073709551616) (hn : n ≤ 2147483647) (y : ReadY w v n) :
    Calls Tryd.prog 4 #[.int .i64 (k : Int), .int .u64 (B : Int), v] w fun e w' => e = .returned (.bool true) ∧ Below w.heap.size w w' := by
  have HY := Lib.hid y
  have HE := Lib.hid hE
  have HK := Lib.hid hk
  have HBB := Lib.hid hB
  have HNN := Lib.hid hn
  obtain ⟨A, cap, rfl, hc⟩ := y
  have hni : (n : Int) ≤ 2147483647 := by omega
  obtain ⟨z, hz⟩ : ∃ z, setOfF k B 0 = z := ⟨_, rfl⟩
  have HZ := Lib.hid hz
  clear hE hk hB hc hz hn
  go_enter Tryd.func4, Tryd.ntmps4
  go_upto_region 6 with (first
    | (go_at_call 8; (with_reducible refine (isKind_in k HK.out _).mono ?_); rintro e w1 ⟨rfl, rfl⟩)
    | (go_at_call 9; (with_reducible refine (cronSetOf_any k B HK.out HBB.out _).mono ?_); rintro e w3 ⟨rfl, hb⟩; have B0 := Lib.hid hb; clear hb; have HN1 : Hid (∀ cs, cs = (setL noneF).toArray → SetAt (w3.alloc (.cells cs 27)) w3.heap.size noneF) := (Lib.hid fun cs e => SetAt.new w3 noneF _ e))
    | (refine wpList_set_store rfl _ _ rfl w3.heap.size noneF (setOfF k B) (by kernel_rfl) (by kernel_rfl) (HN1.out _ zero_set) ?_; intro W hW; have S1 := Lib.hid hW.it; have B1 := Lib.hid (Below.up B0.out (hW.bel (Nat.le_refl _) (below_alloc _ _))); have HLT := Lib.hid B0.out.size; clear hW)
    | fail)
  clear B0 HN1
  obtain ⟨N0, hN0⟩ : ∃ m, w3.heap.size = m := ⟨_, rfl⟩
  rw [hN0] at S1 HLT ⊢
  clear hN0 w3
  have c0 : W.cell? ⟨N0, 0, none⟩ = some (.bool z) := by rw [← HZ.out]; exact S1.out.cell 0 (by omega)
  go_upto_if 20 with fail
  clear c0
  go_cut [20] (fun s20 wx => ∃ F, Hid (SetAt wx N0 F) ∧ Hid (SetK F k) ∧ Hid (Below w.heap.size w wx))
  case first =>
    rcases z with _ | _
    · go_wp2
      go_meet
      exact ⟨_, S1, Lib.hid (setOfF_k HZ.out), B1⟩
    · go_wp2_with (first
        | (go_at_call 10; (with_reducible refine (cronWhole_any k HK.out _).mono ?_); rintro e w4 ⟨rfl, hb⟩; have S2 := Lib.hid (S1.out.below hb); have B2 := Lib.hid (Below.up B1.out hb); clear hb)
        | (refine wpList_set_store rfl _ _ rfl N0 (setOfF k B) (wholeF k) (by kernel_rfl) (by kernel_rfl) S2.out ?_; intro W2 hW; have S3 := Lib.hid hW.it; have B3 := Lib.hid (hW.bel HLT.out B2.out); clear hW)
        | fail)
      go_meet
      exact ⟨_, S3, Lib.hid (wholeF_k k), B3⟩
  case rest =>
  clear S1 B1 HZ z
  obtain ⟨F, S1, HF, B1⟩ := hcut
  obtain ⟨b, hb⟩ : ∃ b, isNone F = b := ⟨_, rfl⟩
  have HEM := Lib.hid hb
  clear hb
  rcases b with _ | _
  rotate_left
  · go_wp2_with (first
      | (with_reducible refine wpList_set_load rfl _ rfl N0 F rfl S1.out ?_)
      | (go_at_call 11; (with_reducible refine (cronEmpty_set F true HEM.out _).mono ?_); rintro e w4 ⟨rfl, hb⟩; have B2 := Lib.hid (Below.up B1.out hb); clear hb)
      | fail)
    go_ret
    exact ⟨rfl, B2.out⟩
  · go_upto_region 10 with (first
      | (with_reducible refine wpList_set_load rfl _ rfl N0 F rfl S1.out ?_)
      | (go_at_call 11; (with_reducible refine (cronEmpty_set F false HEM.out _).mono ?_); rintro e w4 ⟨rfl, hb⟩; have S2 := Lib.hid (S1.out.below hb); have B2 := Lib.hid (Below.up B1.out hb); clear hb)
      | fail)
    clear S1 B1
    obtain ⟨S, hS⟩ : ∃ s, w4.heap.size = s := ⟨_, rfl⟩
    have HDR : Hid (Below w4.heap.size w4 w4.drew) := Lib.hid (Below.refl _ _).drew
    have HSN : Hid (w.heap.size ≤ S) := Lib.hid (by rw [← hS]; exact B2.out.size)
    have HNS : Hid (Calls Tryd.prog 13 #[.slice A n cap] w4.drew fun e w' => e = .returned (.pointer (some ⟨S, 0, none⟩)) ∧ StyleAt w' S ∧ PowS S w' ∧ SetAt w' N0 F ∧ Below w.heap.size w w') := Lib.hid (by
      have h := newStyle_any A n cap w4.drew (HY.out.below (B2.out.drew)) (by have := HNN.out; omega)
      refine h.mono ?_
      rintro e w' ⟨rfl, h1, h2⟩
      have e : w4.drew.heap.size = S := hS
      rw [e] at h1 h2 ⊢
      have hb : Below w.heap.size w w' := Below.up B2.out.drew (by rw [e]; exact h2)
      exact ⟨rfl, h1, PowS.of HE.out.2 HSN.out hb, (S2.out.below HDR.out).below (by rw [e]; exact h2), hb⟩)
    have HNE : Hid (N0 ≠ S) := Lib.hid (by have := S2.out.lt; omega)
    have HFT : Hid (∀ W, StyleAt W S → PowS S W → SetAt W N0 F → Below w.heap.size w W → Calls Tryd.prog 12 #[.int .i64 (k : Int), setV F, .pointer (some ⟨S, 0, none⟩)] W fun e w' =>
        ∃ J m, e = .returned (.string J) ∧ (J.size ≤ 2147483647 ∧ NumErrs w' ∧ M.field (M.bdOf k) (M.bs J) = some m ∧ SetIs F m) ∧ SetAt w' N0 F ∧ Below w.heap.size w w') := Lib.hid (fun W a b c d => (fieldText_any F k S HK.out HF.out (isNone_false HEM.out) W a b).mono (by
      rintro e w' ⟨⟨J, m, rfl, h1, h2, h3⟩, h4⟩
      have hb : Below w.heap.size w w' := d.trans ((h4.mono d.size).low HSN.out)
      exact ⟨J, m, rfl, ⟨by omega, HE.out.1.below hb, h2, h3⟩, c.bar h4 HNE.out, hb⟩))
    refine wp_region_held_drew (S := (fun W => SetAt W N0 F)) (by kernel_rfl) ?_ (fun hHeld => ?_)
    · ((try dsimp only); all_goals (first | exact S2.out.drew | exact T3.out | exact U2.out | exact V2.out))
    refine wpAnyH_take (i := 0) (v := ?_) rfl (by kernel_rfl) (by kernel_rfl) (by kernel_rfl) (fun _ _ _ h => h) (Or.inl ⟨by kernel_rfl, ?_⟩) (by assumption) ?_
    rotate_left
    · (intro w hSw; (try dsimp only at hSw); go_simp <;> with_reducible rfl)
    try (simp only [Act.put]; (try simp only [List.setIfInBounds_toArray]); (try simp only [List.set_cons_succ]); (try simp only [List.set_cons_zero]))
    refine wpAnyH_take (i := 1) (v := ?_) rfl (by kernel_rfl) (by kernel_rfl) (by kernel_rfl) (fun _ _ _ h => h) (Or.inl ⟨by kernel_rfl, ?_⟩) (by assumption) ?_
    rotate_left
    · (intro w hSw; (try dsimp only at hSw); go_simp <;> with_reducible rfl)
    try (simp only [Act.put]; (try simp only [List.setIfInBounds_toArray]); (try simp only [List.set_cons_succ]); (try simp only [List.set_cons_zero]))
    refine wpAnyH_take (i := 2) (v := setV F) rfl (by kernel_rfl) (by kernel_rfl) (by kernel_rfl) (fun _ _ _ h => h) (yieldsIf_load_mid (by kernel_rfl) 27 _ rfl N0 0 rfl (setL F) _ (fun w hS => hS.has) Tryd.underlying27 rfl (by rw [setL_len]; kernel_rfl)) (by assumption) ?_
    try (simp only [Act.put]; (try simp only [List.setIfInBounds_toArray]); (try simp only [List.set_cons_succ]); (try simp only [List.set_cons_zero]))
    refine wpAnyH_take (i := 3) (v := ?_) rfl (by kernel_rfl) (by kernel_rfl) (by kernel_rfl) (fun _ _ _ h => h) (Or.inl ⟨by kernel_rfl, ?_⟩) (by assumption) ?_
    rotate_left
    · (intro w hSw; (try dsimp only at hSw); go_simp <;> with_reducible rfl)
    try (simp only [Act.put]; (try simp only [List.setIfInBounds_toArray]); (try simp only [List.set_cons_succ]); (try simp only [List.set_cons_zero]))
    refine wpAnyH_ready (rs := [4]) (by kernel_rfl) (by simp) ?_
    refine AllReadyH.cons rfl (fun K hK => ?_) AllReadyH.nil
    go_simp
    (go_at_call 13; (with_reducible refine HNS.out.mono ?_); rintro e w5 ⟨rfl, h1, h2, h3, h4⟩; have T1 := Lib.hid h1; have T2 := Lib.hid h2; have T3 := Lib.hid h3; have T4 := Lib.hid h4; clear h1 h2 h3 h4)
    refine hK.out _ _ ?_ (fun hHeld => ?_)
    · ((try dsimp only); all_goals (first | exact S2.out.drew | exact T3.out | exact U2.out | exact V2.out))
    clear hK K
    try (simp only [Act.put]; (try simp only [List.setIfInBounds_toArray]); (try simp only [List.set_cons_succ]); (try simp only [List.set_cons_zero]))
    refine wpAnyH_ready (rs := [5]) (by kernel_rfl) (by simp) ?_
    refine AllReadyH.cons rfl (fun K hK => ?_) AllReadyH.nil
    go_simp
    (go_at_call 12; (with_reducible refine (HFT.out _ T1.out T2.out T3.out T4.out).mono ?_); rintro e w6 ⟨J, m, rfl, h1, h2, h3⟩; have U1 := Lib.hid h1; have U2 := Lib.hid h2; have U3 := Lib.hid h3; clear h1 h2 h3)
    refine hK.out _ _ ?_ (fun hHeld => ?_)
    · ((try dsimp only); all_goals (first | exact S2.out.drew | exact T3.out | exact U2.out | exact V2.out))
    clear hK K
    try (simp only [Act.put]; (try simp only [List.setIfInBounds_toArray]); (try simp only [List.set_cons_succ]); (try simp only [List.set_cons_zero]))
    refine wpAnyH_ready (rs := [6]) (by kernel_rfl) (by simp) ?_
    refine AllReadyH.cons rfl (fun K hK => ?_) AllReadyH.nil
    go_simp
    (go_at_call 5; (with_reducible refine (cronField_any k J (some m) _ HK.out U1.out.1 U1.out.2.1 (Lib.hid U1.out.2.2.1) m true (Lib.hid ⟨rfl, rfl⟩)).mono ?_); rintro e w7 ⟨rfl, h1⟩; have V2 := Lib.hid (U2.out.below h1); have V3 := Lib.hid (Below.up U3.out h1); clear h1)
    refine hK.out _ _ ?_ (fun hHeld => ?_)
    · ((try dsimp only); all_goals (first | exact S2.out.drew | exact T3.out | exact U2.out | exact V2.out))
    clear hK K
    try (simp only [Act.put]; (try simp only [List.setIfInBounds_toArray]); (try simp only [List.set_cons_succ]); (try simp only [List.set_cons_zero]))
    refine wpAnyH_take (i := 7) (v := ?_) rfl (by kernel_rfl) (by kernel_rfl) (by kernel_rfl) (fun _ _ _ h => h) (Or.inl ⟨by kernel_rfl, ?_⟩) (by assumption) ?_
    rotate_left
    · (intro w hSw; (try dsimp only at hSw); go_simp <;> with_reducible rfl)
    try (simp only [Act.put]; (try simp only [List.setIfInBounds_toArray]); (try simp only [List.set_cons_succ]); (try simp only [List.set_cons_zero]))
    refine wpAnyH_take (i := 8) (v := ?_) rfl (by kernel_rfl) (by kernel_rfl) (by kernel_rfl) (fun _ _ _ h => h) (Or.inl ⟨by kernel_rfl, ?_⟩) (by assumption) ?_
    rotate_left
    · (intro w hSw; (try dsimp only at hSw); go_simp <;> with_reducible rfl)
    try (simp only [Act.put]; (try simp only [List.setIfInBounds_toArray]); (try simp only [List.set_cons_succ]); (try simp only [List.set_cons_zero]))
    refine wpAnyH_take (i := 9) (v := ?_) rfl (by kernel_rfl) (by kernel_rfl) (by kernel_rfl) (fun _ _ _ h => h) (Or.inl ⟨by kernel_rfl, ?_⟩) (by assumption) ?_
    rotate_left
    · (intro w hSw; (try dsimp only at hSw); go_simp <;> with_reducible rfl)
    try (simp only [Act.put]; (try simp only [List.setIfInBounds_toArray]); (try simp only [List.set_cons_succ]); (try simp only [List.set_cons_zero]))
    refine wpAnyH_take (i := 10) (v := ?_) rfl (by kernel_rfl) (by kernel_rfl) (by kernel_rfl) (fun _ _ _ h => h) (Or.inl ⟨by kernel_rfl, ?_⟩) (by assumption) ?_
    rotate_left
    · (intro w hSw; (try dsimp only at hSw); go_simp <;> with_reducible rfl)
    try (simp only [Act.put]; (try simp only [List.setIfInBounds_toArray]); (try simp only [List.set_cons_succ]); (try simp only [List.set_cons_zero]))
    refine wpAnyH_take (i := 11) (v := ?_) rfl (by kernel_rfl) (by kernel_rfl) (by kernel_rfl) (fun _ _ _ h => h) (Or.inl ⟨by kernel_rfl, ?_⟩) (by assumption) ?_
    rotate_left
    · (intro w hSw; (try dsimp only at hSw); go_simp <;> with_reducible rfl)
    try (simp only [Act.put]; (try simp only [List.setIfInBounds_toArray]); (try simp only [List.set_cons_succ]); (try simp only [List.set_cons_zero]))
    refine wpAnyH_done (by kernel_rfl) ?_ _
    have HBB := Lib.hid fun W => cronBits_any F W
    have HU := Lib.hid U1.out.2.2
    go_wp2_with (first
      | (refine wpList_set_load_g (by kernel_rfl) _ rfl N0 F rfl V2.out ?_)
      | (go_at_call 14; (with_reducible refine (HBB.out _).mono ?_); rintro e w8 ⟨⟨B2, rfl, hi, h64⟩, hb⟩; have V4 := Lib.hid (Below.up V3.out hb); have HI := Lib.hid (setIs_one HU.out.2 hi (fieldL_lt _ _ _ _ (by decide) HU.out.1) h64); clear hi h64 hb)
      | fail)
    go_ret
    refine ⟨?_, V4.out⟩
    show Ending.returned (.bool ((m : Int) == (B2 : Int))) = _
    rw [HI.out, beq_self_eq_true]
theorem back_walk (kd : Int) (bits : Int) (v : Value) (n : Nat) (w : World) (hE : NumErrs w ∧ Pow10 w) (w0 : (Lit.int .i64 kd).wf = true) (w1 : (Lit.int .u64 bits).wf = true) (y : ReadY w v n) :
    Calls Tryd.prog 4 #[.int .i64 kd, .int .u64 bits, v] w fun e w' => e = .returned (.bool true) ∧ Below w.heap.size w w' := by
  obtain ⟨B, rfl, hB⟩ : ∃ B : Nat, bits = (B : Int) ∧ B < 18446744073709551616 := by
    have := wf_u64 w1
    exact ⟨bits.toNat, by omega, by omega⟩
  by_cases h0 : 2147483647 < n
  · obtain ⟨A, cap, rfl, hc⟩ := y
    have h0i : (2147483647 : Int) < (n : Int) := by omega
    clear hE w0 w1 hB hc h0
    go_enter Tryd.func4, Tryd.ntmps4
    go_wp2
    go_ret
    exact ⟨rfl, Below.refl _ _⟩
  by_cases hk : 0 ≤ kd ∧ kd ≤ 5
  · obtain ⟨k, rfl⟩ : ∃ k : Nat, kd = (k : Int) := ⟨kd.toNat, by omega⟩
    exact back_main k B v n w hE (by omega) hB (by omega) y
  · obtain ⟨A, cap, rfl, hc⟩ := y
    have HKD : Hid (kd < 0 ∨ 6 ≤ kd) := Lib.hid (by omega)
    have h0i : ¬ (2147483647 : Int) < (n : Int) := by omega
    clear hE w0 w1 hB hc h0 hk
    go_enter Tryd.func4, Tryd.ntmps4
    go_wp2_with (go_at_call 8; (with_reducible refine (isKind_out kd HKD.out _).mono ?_); rintro e w1 ⟨rfl, rfl⟩)
    go_ret
    exact ⟨rfl, Below.refl _ _⟩
end Go.Proofs.YtjipjhpehfbpkaaDoor

/-
  A parameter that is a list of bytes: opened.
-/
namespace Go.Proofs.YtjipjhpehfbpkaaDoor
open Go.ChangeShapes Go.WideShapes Go.RowKit Go.Deep
set_option maxRecDepth 100000
set_option linter.unusedVariables false

theorem laidOut : laidOutB Tryd.prog = true := by kernel_rfl
theorem spot_none {w : World} {a : Addr} {v : Value} (h : w.cell? a = some v) : ∃ b o, a = ⟨b, o, none⟩ ∧ b < w.heap.size := by
  obtain ⟨b, o, s⟩ := a
  unfold World.cell? at h
  split at h
  · rename_i hb
    cases s with
    | none => exact ⟨b, o, rfl, (Array.getElem?_eq_some_iff.1 hb).1⟩
    | some _ => simp at h
  · cases h
theorem wf_u8 {n : Int} (h : (Lit.int .u8 n).wf = true) : 0 ≤ n ∧ n < 256 := by
  simp [Lit.wf, IntKind.min, IntKind.max, IntKind.bits, IntKind.signed] at h
  omega
theorem byte_one : Tryd.prog.cellsOf 5 = 1 := by kernel_rfl
section
variable {H : Type} {enc : TypeId × Value → H} {w : World} {base b0 : Nat} {held : Bool} {r : Reach} {v : Value} {dd : DataW H} {p : List MemPlace}
theorem open_bytes (hv : Value.okWide Tryd.prog w r b0 34 v) (h : DataW.Trod enc Tryd.prog w base (fun _ => true) held 34 v dd p) : ∃ n, ReadY w v n := by
  obtain ⟨a, len, cap, rfl⟩ := okWide_slice Tryd.underlying34 hv
  obtain ⟨fuel, hf⟩ := h
  rcases open_ints Tryd.underlying34 Tryd.underlying5 byte_one hf with ⟨hcs, hx⟩ | ⟨a', len', cap', zs, hcs, hb, hl, hm, hz, hx, hi, hw⟩
  · have he : Value.slice a len cap = .slice none 0 0 := by simpa [Value.cells] using hcs
    rw [he]
    exact ⟨0, none, 0, rfl, fun i hi => absurd hi (Nat.not_lt_zero _)⟩
  · have he : Value.slice a len cap = .slice (some a') len' cap' := by simpa [Value.cells] using hcs
    rw [he]
    have hz' : zs.length = cap' := by simpa using hz
    refine ⟨len', some a', cap', rfl, fun i hi' => ?_⟩
    have h0 := hi 0 (by omega)
    have h1 := hi i (by omega)
    have e0 : a'.add 0 = a' := by simp [Addr.add]
    rw [e0] at h0
    obtain ⟨b, o, rfl, hbl⟩ := spot_none h0
    have e3 : (⟨b, o, none⟩ : Addr).add i = ⟨b, o + i, none⟩ := by
      unfold Addr.add
      split
      · rename_i h; subst h; rfl
      · rfl
    rw [e3] at h1
    have hwf := hw (zs.getD i 0) (by
      rw [List.getD_eq_getElem?_getD, List.getElem?_eq_getElem (by omega)]
      exact List.getElem_mem _)
    obtain ⟨c, hc⟩ : ∃ c : UInt8, zs.getD i 0 = (c.toNat : Int) := by
      have hr := wf_u8 hwf
      refine ⟨UInt8.ofNat (zs.getD i 0).toNat, ?_⟩
      rw [M.ofNat_toNat (by omega)]
      omega
    rw [hc] at h1
    exact ⟨b, o, c, rfl, hbl, h1⟩
end
end Go.Proofs.YtjipjhpehfbpkaaDoor
