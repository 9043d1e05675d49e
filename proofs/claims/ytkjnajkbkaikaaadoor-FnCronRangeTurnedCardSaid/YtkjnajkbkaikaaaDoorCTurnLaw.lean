/-
  laws.FnCronRangeTurned returns true for all fields, ends and steps.
-/
import Derived.Test.YtkjnajkbkaikaaaDoorCTurn
import Derived.Deep.DeepCutAuto
import Derived.Lib.ItoaLen
namespace Go.Proofs.YtkjnajkbkaikaaaDoor
open Go.RowKit
set_option maxRecDepth 100000
set_option linter.unusedVariables false

theorem add_ok {a b : ByteArray} (h : a.size + b.size ≤ 9223372036854775807) : ∀ w : World, (Op.stringOp .add a b).run Tryd.prog w = .ok (.string (a ++ b)) w := fun w => run_string_add_sum w a b h
namespace M
theorem bs_append (a b : ByteArray) : bs (a ++ b) = bs a ++ bs b := by
  unfold bs
  simp
end M
theorem dec_size {n : Nat} (h : n < 18446744073709551616) : (dec n).size ≤ 20 := by
  show (Lib.decDigits n).toArray.size ≤ 20
  rw [List.size_toArray, Lib.decDigits_length]
  have := Lib.nDigits_le20 n h
  exact this
def txt1 (L H : Nat) : ByteArray := dec L ++ ⟨#[45]⟩ ++ dec H
theorem txt1_bs (L H : Nat) : M.bs (txt1 L H) = Lib.decDigits L ++ 45 :: Lib.decDigits H := by
  unfold txt1
  rw [M.bs_append, M.bs_append, dec_bs, dec_bs]
  simp [M.bs]
theorem txt2_bs (L H : Nat) (t : ByteArray) : M.bs (txt1 L H ++ (⟨#[47]⟩ ++ t)) = Lib.decDigits L ++ 45 :: Lib.decDigits H ++ 47 :: M.bs t := by
  rw [M.bs_append, M.bs_append, txt1_bs]
  simp [M.bs]
theorem item_txt1 (k L H : Nat) (hL : L < 9223372036854775808) (hH : H < 9223372036854775808) : M.item (M.bdOf k) (M.bs (txt1 L H)) = M.fin (M.bdOf k) L H 1 false := by
  rw [txt1_bs]
  exact M.item_range (M.bd_noDig k) (M.dec_digits _) (M.dec_digits _) (M.dec_num hL) (M.dec_num hH)
theorem item_txt2 (k L H : Nat) (t : ByteArray) (hL : L < 9223372036854775808) (hH : H < 9223372036854775808) :
    M.item (M.bdOf k) (M.bs (txt1 L H ++ (⟨#[47]⟩ ++ t))) = (match M.splitOn 47 (M.bs t) with | [k1] => (match M.num k1 with | none => none | some st => M.fin (M.bdOf k) L H st false) | _ => none) := by
  rw [txt2_bs]
  exact M.item_step (M.bd_noDig k) (M.dec_digits _) (M.dec_digits _) (M.dec_num hL) (M.dec_num hH)
theorem fin_bad {b : M.Bd} {s e st : Nat} {z : Bool} (h : s < b.mn ∨ b.mx < e ∨ e < s) : M.fin b s e st z = none := by
  unfold M.fin
  rw [if_pos (by omega)]
theorem fin_ok {b : M.Bd} {s e st : Nat} (h : ¬ (s < b.mn ∨ b.mx < e ∨ e < s)) (h0 : 0 < st) : M.fin b s e st false = some (M.gbits s e st) := by
  unfold M.fin
  rw [if_neg (by omega)]
  simp
theorem item_bad (k L H : Nat) (t : ByteArray) (hL : L < 9223372036854775808) (hH : H < 9223372036854775808) (h : L < (M.bdOf k).mn ∨ (M.bdOf k).mx < H ∨ H < L) : M.item (M.bdOf k) (M.bs (txt1 L H ++ (⟨#[47]⟩ ++ t))) = none := by
  rw [item_txt2 k L H t hL hH]
  split
  · split
    · rfl
    · exact fin_bad h
  · rfl
theorem item_stepped (k L H st : Nat) (t : ByteArray) (hL : L < 9223372036854775808) (hH : H < 9223372036854775808) (h : ¬ (L < (M.bdOf k).mn ∨ (M.bdOf k).mx < H ∨ H < L)) (hd : M.digits (M.bs t) = true) (hn : M.num (M.bs t) = some st) (h0 : 0 < st) :
    M.item (M.bdOf k) (M.bs (txt1 L H ++ (⟨#[47]⟩ ++ t))) = some (M.gbits L H st) := by
  rw [item_txt2 k L H t hL hH, M.splitOn_none 47 _ (M.digits_ne hd 47 rfl)]
  simp only [hn]
  exact fin_ok h h0
theorem cronItem_e (k : Nat) (s : ByteArray) (w : World) (hk : k ≤ 5) (hs : s.size ≤ 2147483647) (hn : NumErrs w) :
    Calls Tryd.prog 13 #[.int .i64 (k : Int), .string s] w fun e w' => (∃ (n : Nat) (z : Bool), e = .returned (.tuple #[.int .u64 (n : Int), .bool z])) ∧ Below w.heap.size w w' := by
  cases h : M.item (M.bdOf k) (M.bs s) with
  | none => exact (cronItem_none k s w hk hs hn (Lib.hid h)).mono fun e w' ⟨he, hb⟩ => ⟨⟨0, false, he⟩, hb⟩
  | some n => exact (cronItem_some k s n w hk hs hn (Lib.hid h)).mono fun e w' ⟨he, hb⟩ => ⟨⟨n, true, he⟩, hb⟩
theorem wf_i64 {n : Int} (h : (Lit.int .i64 n).wf = true) : n ≤ 9223372036854775807 := by
  simp only [Lit.wf, IntKind.min, IntKind.max, IntKind.signed, IntKind.bits, Bool.and_eq_true, decide_eq_true_eq] at h
  have := h.2
  simp at this
  omega
theorem empty_cases (s : ByteArray) : (s.toList = [] ∧ M.bs s = []) ∨ (s.toList.isEmpty = false ∧ M.bs s ≠ []) := by
  rw [toList_bs]
  cases h : M.bs s with
  | nil => exact .inl ⟨rfl, rfl⟩
  | cons _ _ => exact .inr ⟨rfl, by simp⟩
theorem turn_low {L H B st : Nat} (hB : M.gbits L H st = B) (h1 : L ≤ H) (h2 : H ≤ 62) : bits .and .u64 ((B : Int) / 2 ^ L) 1 = 1 := by
  have e : (B : Int) / 2 ^ L = ((B / 2 ^ L : Nat) : Int) := by simp
  have hlt : B < 18446744073709551616 := by rw [← hB]; exact M.gbits_lt64 _ _ _
  have := M.and64 (a := B / 2 ^ L) (b := 1) (Nat.lt_of_le_of_lt (Nat.div_le_self _ _) hlt) (by decide)
  rw [e]
  refine this.trans ?_
  rw [← hB, M.gb_low h1 h2]
  rfl
theorem turn_high {L H B : Nat} (hB : M.gbits L H 1 = B) (h1 : L ≤ H) (h2 : H ≤ 62) : (B : Int) / 2 ^ H = 1 := by
  have e : (B : Int) / 2 ^ H = ((B / 2 ^ H : Nat) : Int) := by simp
  rw [e, ← hB, M.gb_high h1 h2]
  rfl
theorem wrap_two {L : Nat} (h : L ≤ 62) : IntKind.u64.wrap ((2 : Int) ^ L) = ((2 ^ L : Nat) : Int) := by
  have := M.shl_one (n := L) (by omega)
  rw [Int.one_mul] at this
  exact this
theorem turn_under {L H B st : Nat} (hB : M.gbits L H st = B) (h1 : L ≤ 62) : bits .and .u64 (B : Int) (IntKind.u64.wrap (IntKind.u64.wrap ((2 : Int) ^ L) - 1)) = 0 := by
  have hp : 0 < 2 ^ L := Nat.pow_pos (by omega)
  have hq : 2 ^ L < 2 ^ 64 := Nat.pow_lt_pow_right (by omega) (by omega)
  have hlt : B < 18446744073709551616 := by rw [← hB]; exact M.gbits_lt64 _ _ _
  have e : ((2 ^ L : Nat) : Int) - 1 = ((2 ^ L - 1 : Nat) : Int) := by omega
  rw [wrap_two h1, e, M.wrap64_small (by omega), M.and64 hlt (by omega), ← hB, M.gb_under]
  rfl
theorem turn_one {L H B st : Nat} (hB : M.gbits L H st = B) (h1 : L ≤ H) (h2 : H ≤ 62) (hs : H - L < st) : ((B : Int) == IntKind.u64.wrap ((2 : Int) ^ L)) = true := by
  rw [beq_iff_eq, wrap_two (by omega), ← hB, M.gb_one h1 h2 hs]
set_option maxHeartbeats 16000000 in
theorem turned_main (k L H : Nat) (t : ByteArray) (w : World) (hn : NumErrs w) (hp : Pow10 w) (hk : k ≤ 5) (hL : (L : Int) ≤ 9223372036854775807) (hH : (H : Int) ≤ 9223372036854775807) (ht : t.size ≤ 64) :
    Calls Tryd.prog 4 #[.int .i64 (k : Int), .int .i64 (L : Int), .int .i64 (H : Int), .string t] w fun e w' => e = .returned (.bool true) ∧ Below w.heap.size w w' := by
  have HN := Lib.hid hn
  have HP := Lib.hid hp
  have hs1 := dec_size (n := L) (by omega)
  have hs2 := dec_size (n := H) (by omega)
  have hz45 : (⟨#[45]⟩ : ByteArray).size = 1 := rfl
  have hz47 : (⟨#[47]⟩ : ByteArray).size = 1 := rfl
  have hs3 : (txt1 L H).size ≤ 41 := by unfold txt1; rw [ByteArray.size_append, ByteArray.size_append]; omega
  have hs4 : (txt1 L H ++ (⟨#[47]⟩ ++ t)).size ≤ 2147483647 := by rw [ByteArray.size_append, ByteArray.size_append]; omega
  have a1 := add_ok (a := dec L) (b := ⟨#[45]⟩) (by omega)
  have a2 : ∀ w : World, (Op.stringOp .add (dec L ++ ⟨#[45]⟩) (dec H)).run Tryd.prog w = .ok (.string (txt1 L H)) w := add_ok (a := dec L ++ ⟨#[45]⟩) (b := dec H) (by rw [ByteArray.size_append]; omega)
  have a3 := add_ok (a := ⟨#[47]⟩) (b := t) (by omega)
  have a4 := add_ok (a := txt1 L H) (b := ⟨#[47]⟩ ++ t) (by rw [ByteArray.size_append]; omega)
  have HS3 := Lib.hid (show (txt1 L H).size ≤ 2147483647 by omega)
  have HS4 := Lib.hid hs4
  clear hn hp hs1 hs2 hz45 hz47 hs3 hs4
  have hk1 : (k : Int) < 6 := by omega
  have hL0 : (0 : Int) ≤ (L : Int) := by omega
  have hH0 : (0 : Int) ≤ (H : Int) := by omega
  have HK := Lib.hid hk
  clear hk
  have HLB := Lib.hid (show L < 9223372036854775808 by omega)
  have HHB := Lib.hid (show H < 9223372036854775808 by omega)
  have HBD := Lib.hid (bd_le k)
  obtain ⟨mn, hmn⟩ : ∃ n, (M.bdOf k).mn = n := ⟨_, rfl⟩
  obtain ⟨mx, hmx⟩ : ∃ n, (M.bdOf k).mx = n := ⟨_, rfl⟩
  have HMN := Lib.hid hmn
  have HMX := Lib.hid hmx
  have HLO : Hid (∀ w : World, Calls Tryd.prog 14 #[.int .i64 (k : Int)] w fun e w' => e = .returned (.int .i64 (mn : Int)) ∧ w = w') := Lib.hid (fun w => by have := low_any k HK.out w; rw [hmn] at this; exact this)
  have HHI : Hid (∀ w : World, Calls Tryd.prog 15 #[.int .i64 (k : Int)] w fun e w' => e = .returned (.int .i64 (mx : Int)) ∧ w = w') := Lib.hid (fun w => by have := high_any k HK.out w; rw [hmx] at this; exact this)
  clear hmn hmx
  by_cases hbad : L < mn ∨ mx < H ∨ H < L
  · have HBAD : Hid (L < (M.bdOf k).mn ∨ (M.bdOf k).mx < H ∨ H < L) := Lib.hid (by rw [HMN.out, HMX.out]; exact hbad)
    have HI1 := Lib.hid (show M.item (M.bdOf k) (M.bs (txt1 L H)) = none by rw [item_txt1 k L H HLB.out HHB.out]; exact fin_bad HBAD.out)
    have HI2 := Lib.hid (item_bad k L H t HLB.out HHB.out HBAD.out)
    have hsplit : H < L ∨ (¬ H < L ∧ L < mn) ∨ (¬ H < L ∧ ¬ L < mn ∧ mx < H) := by omega
    clear hbad HBAD
    rcases hsplit with q1 | ⟨q1, q2⟩ | ⟨q1, q2, q3⟩
    all_goals rcases empty_cases t with ⟨e1, e2⟩ | ⟨e1, e2⟩
    all_goals (have HE2 := Lib.hid e2; clear e2)
    all_goals
      go_enter Tryd.func4, Tryd.ntmps4
      go_wp2_with (first
        | (go_at_call 11; (with_reducible refine (isKind_in k HK.out _).mono ?_); rintro e w1 ⟨rfl, rfl⟩)
        | (go_at_call 12; (with_reducible refine (itoa_any L _ hL HP.out).mono ?_); rintro e w1 ⟨rfl, hb⟩; have HB1 := Lib.hid hb; have HP1 := Lib.hid (HP.out.below hb); clear hb)
        | (go_at_call 12; (with_reducible refine (itoa_any H _ hH HP1.out).mono ?_); rintro e w2 ⟨rfl, hb⟩; have HB2 := Lib.hid (Below.up HB1.out hb); have HN2 := Lib.hid (HN.out.below HB2.out); clear hb)
        | (go_at_call 13; (with_reducible refine (cronItem_none k (txt1 L H) _ HK.out HS3.out HN2.out HI1).mono ?_); rintro e w3 ⟨rfl, hb⟩; have HB3 := Lib.hid (Below.up HB2.out hb); clear hb)
        | (go_at_call 13; (with_reducible refine (cronItem_none k (txt1 L H ++ (⟨#[47]⟩ ++ t)) _ HK.out HS4.out HN2.out HI2).mono ?_); rintro e w3 ⟨rfl, hb⟩; have HB3 := Lib.hid (Below.up HB2.out hb); clear hb)
        | (go_at_call 14; (with_reducible refine (HLO.out _).mono ?_); rintro e w4 ⟨rfl, rfl⟩)
        | (go_at_call 15; (with_reducible refine (HHI.out _).mono ?_); rintro e w4 ⟨rfl, rfl⟩))
      go_ret
      exact ⟨rfl, HB3.out⟩
  have HOKK : Hid (¬ (L < (M.bdOf k).mn ∨ (M.bdOf k).mx < H ∨ H < L)) := Lib.hid (by rw [HMN.out, HMX.out]; exact hbad)
  have q1 : ¬ H < L := by omega
  have q2 : ¬ L < mn := by omega
  have q3 : ¬ mx < H := by omega
  have hmx62 : mx ≤ 62 := by rw [← HMX.out]; exact HBD.out.1
  have hL62 : (L : Int) ≤ 62 := by omega
  have hH62 : (H : Int) ≤ 62 := by omega
  have HLH := Lib.hid (show L ≤ H ∧ H ≤ 62 by omega)
  clear hbad hmx62 hL hH
  have hL : (L : Int) ≤ 9223372036854775807 := by omega
  have hH : (H : Int) ≤ 9223372036854775807 := by omega
  rcases empty_cases t with ⟨e1, e2⟩ | ⟨e1, e2⟩
  · obtain ⟨B, hB⟩ : ∃ B, M.gbits L H 1 = B := ⟨_, rfl⟩
    have HI := Lib.hid (show M.item (M.bdOf k) (M.bs (txt1 L H)) = some B by rw [item_txt1 k L H HLB.out HHB.out, fin_ok HOKK.out (by decide), hB])
    have f1 := turn_low hB HLH.out.1 HLH.out.2
    have f2 := turn_high hB HLH.out.1 HLH.out.2
    have f3 := turn_under hB (show L ≤ 62 by have := HLH.out; omega)
    have HE2 := Lib.hid e2
    clear e2 hB
    go_enter Tryd.func4, Tryd.ntmps4
    go_wp2_with (first
      | (go_at_call 11; (with_reducible refine (isKind_in k HK.out _).mono ?_); rintro e w1 ⟨rfl, rfl⟩)
      | (go_at_call 12; (with_reducible refine (itoa_any L _ hL HP.out).mono ?_); rintro e w1 ⟨rfl, hb⟩; have HB1 := Lib.hid hb; have HP1 := Lib.hid (HP.out.below hb); clear hb)
      | (go_at_call 12; (with_reducible refine (itoa_any H _ hH HP1.out).mono ?_); rintro e w2 ⟨rfl, hb⟩; have HB2 := Lib.hid (Below.up HB1.out hb); have HN2 := Lib.hid (HN.out.below HB2.out); clear hb)
      | (go_at_call 13; (with_reducible refine (cronItem_some k (txt1 L H) B _ HK.out HS3.out HN2.out HI).mono ?_); rintro e w3 ⟨rfl, hb⟩; have HB3 := Lib.hid (Below.up HB2.out hb); clear hb)
      | (go_at_call 14; (with_reducible refine (HLO.out _).mono ?_); rintro e w4 ⟨rfl, rfl⟩)
      | (go_at_call 15; (with_reducible refine (HHI.out _).mono ?_); rintro e w4 ⟨rfl, rfl⟩))
    go_ret
    exact ⟨rfl, HB3.out⟩
  · have HE2 := Lib.hid e2
    have HT2 := Lib.hid (show t.size ≤ 140737488351232 by omega)
    obtain ⟨n, hn⟩ : ∃ n : Int, ((M.sstep (M.bs t)).1 : Int) = n := ⟨_, rfl⟩
    have HNN := Lib.hid hn
    clear e2 hn
    by_cases hv : (M.sstep (M.bs t)).2 = 1
    · have HV : Hid (((M.sstep (M.bs t)).2 : Int) = 1) := Lib.hid (by rw [hv]; rfl)
      obtain ⟨hd, hnum, hpos, hlt⟩ := M.sstep_fine hv
      obtain ⟨B, hB⟩ : ∃ B, M.gbits L H (M.sstep (M.bs t)).1 = B := ⟨_, rfl⟩
      have HI := Lib.hid (show M.item (M.bdOf k) (M.bs (txt1 L H ++ (⟨#[47]⟩ ++ t))) = some B by rw [item_stepped k L H _ t HLB.out HHB.out HOKK.out hd hnum hpos, hB])
      have f1 := turn_low hB HLH.out.1 HLH.out.2
      have f3 := turn_under hB (show L ≤ 62 by have := HLH.out; omega)
      by_cases hst : (M.sstep (M.bs t)).1 ≤ H - L
      · have f4 : n ≤ (H : Int) - (L : Int) := by rw [← HNN.out]; have := HLH.out.1; omega
        clear hd hnum hpos hlt hst hB hv
        go_enter Tryd.func4, Tryd.ntmps4
        go_wp2_with (first
          | (go_at_call 11; (with_reducible refine (isKind_in k HK.out _).mono ?_); rintro e w1 ⟨rfl, rfl⟩)
          | (go_at_call 12; (with_reducible refine (itoa_any L _ hL HP.out).mono ?_); rintro e w1 ⟨rfl, hb⟩; have HB1 := Lib.hid hb; have HP1 := Lib.hid (HP.out.below hb); clear hb)
          | (go_at_call 12; (with_reducible refine (itoa_any H _ hH HP1.out).mono ?_); rintro e w2 ⟨rfl, hb⟩; have HB2 := Lib.hid (Below.up HB1.out hb); have HN2 := Lib.hid (HN.out.below HB2.out); clear hb)
          | (go_at_call 13; (with_reducible refine (cronItem_some k (txt1 L H ++ (⟨#[47]⟩ ++ t)) B _ HK.out HS4.out HN2.out HI).mono ?_); rintro e w3 ⟨rfl, hb⟩; have HB3 := Lib.hid (Below.up HB2.out hb); clear hb)
          | (go_at_call 14; (with_reducible refine (HLO.out _).mono ?_); rintro e w4 ⟨rfl, rfl⟩)
          | (go_at_call 15; (with_reducible refine (HHI.out _).mono ?_); rintro e w4 ⟨rfl, rfl⟩)
          | (go_at_call 16; (with_reducible refine (step_any t _ HT2.out 1 HV n HNN).mono ?_); rintro e w5 ⟨rfl, rfl⟩))
        go_ret
        exact ⟨rfl, HB3.out⟩
      · have f4 : ¬ n ≤ (H : Int) - (L : Int) := by rw [← HNN.out]; have := HLH.out.1; omega
        have f5 := turn_one hB HLH.out.1 HLH.out.2 (by omega)
        clear hd hnum hpos hlt hst hB hv
        go_enter Tryd.func4, Tryd.ntmps4
        go_wp2_with (first
          | (go_at_call 11; (with_reducible refine (isKind_in k HK.out _).mono ?_); rintro e w1 ⟨rfl, rfl⟩)
          | (go_at_call 12; (with_reducible refine (itoa_any L _ hL HP.out).mono ?_); rintro e w1 ⟨rfl, hb⟩; have HB1 := Lib.hid hb; have HP1 := Lib.hid (HP.out.below hb); clear hb)
          | (go_at_call 12; (with_reducible refine (itoa_any H _ hH HP1.out).mono ?_); rintro e w2 ⟨rfl, hb⟩; have HB2 := Lib.hid (Below.up HB1.out hb); have HN2 := Lib.hid (HN.out.below HB2.out); clear hb)
          | (go_at_call 13; (with_reducible refine (cronItem_some k (txt1 L H ++ (⟨#[47]⟩ ++ t)) B _ HK.out HS4.out HN2.out HI).mono ?_); rintro e w3 ⟨rfl, hb⟩; have HB3 := Lib.hid (Below.up HB2.out hb); clear hb)
          | (go_at_call 14; (with_reducible refine (HLO.out _).mono ?_); rintro e w4 ⟨rfl, rfl⟩)
          | (go_at_call 15; (with_reducible refine (HHI.out _).mono ?_); rintro e w4 ⟨rfl, rfl⟩)
          | (go_at_call 16; (with_reducible refine (step_any t _ HT2.out 1 HV n HNN).mono ?_); rintro e w5 ⟨rfl, rfl⟩))
        go_ret
        exact ⟨rfl, HB3.out⟩
    · obtain ⟨v, hvv⟩ : ∃ v : Int, ((M.sstep (M.bs t)).2 : Int) = v := ⟨_, rfl⟩
      have HV := Lib.hid hvv
      have x1 : (v == 1) = false := by rw [beq_eq_false_iff_ne, ← hvv]; omega
      clear hv hvv
      go_enter Tryd.func4, Tryd.ntmps4
      go_wp2_with (first
        | (go_at_call 11; (with_reducible refine (isKind_in k HK.out _).mono ?_); rintro e w1 ⟨rfl, rfl⟩)
        | (go_at_call 12; (with_reducible refine (itoa_any L _ hL HP.out).mono ?_); rintro e w1 ⟨rfl, hb⟩; have HB1 := Lib.hid hb; have HP1 := Lib.hid (HP.out.below hb); clear hb)
        | (go_at_call 12; (with_reducible refine (itoa_any H _ hH HP1.out).mono ?_); rintro e w2 ⟨rfl, hb⟩; have HB2 := Lib.hid (Below.up HB1.out hb); have HN2 := Lib.hid (HN.out.below HB2.out); clear hb)
        | (go_at_call 13; (with_reducible refine (cronItem_e k (txt1 L H ++ (⟨#[47]⟩ ++ t)) _ HK.out HS4.out HN2.out).mono ?_); rintro e w3 ⟨⟨nn, zz, rfl⟩, hb⟩; have HB3 := Lib.hid (Below.up HB2.out hb); clear hb)
        | (go_at_call 14; (with_reducible refine (HLO.out _).mono ?_); rintro e w4 ⟨rfl, rfl⟩)
        | (go_at_call 15; (with_reducible refine (HHI.out _).mono ?_); rintro e w4 ⟨rfl, rfl⟩)
        | (go_at_call 16; (with_reducible refine (step_any t _ HT2.out v HV n HNN).mono ?_); rintro e w5 ⟨rfl, rfl⟩))
      go_ret
      exact ⟨rfl, HB3.out⟩
theorem turned_walk (kd lo hi : Int) (t : ByteArray) (w : World) (hE : NumErrs w ∧ Pow10 w) (w0 : (Lit.int .i64 kd).wf = true) (w1 : (Lit.int .i64 lo).wf = true) (w2 : (Lit.int .i64 hi).wf = true) (h3 : t.size ≤ 140737488351232) :
    Calls Tryd.prog 4 #[.int .i64 kd, .int .i64 lo, .int .i64 hi, .string t] w fun e w' => e = .returned (.bool true) ∧ Below w.heap.size w w' := by
  have hlo := wf_i64 w1
  have hhi := wf_i64 w2
  clear w0 w1 w2
  by_cases hk : 0 ≤ kd ∧ kd < 6
  · by_cases p1 : 0 ≤ lo
    · by_cases p2 : 0 ≤ hi
      · by_cases p3 : t.size ≤ 64
        · obtain ⟨k, rfl⟩ := Int.eq_ofNat_of_zero_le hk.1
          obtain ⟨L, rfl⟩ := Int.eq_ofNat_of_zero_le p1
          obtain ⟨H, rfl⟩ := Int.eq_ofNat_of_zero_le p2
          exact turned_main k L H t w hE.1 hE.2 (by omega) hlo hhi p3
        · obtain ⟨k, rfl⟩ := Int.eq_ofNat_of_zero_le hk.1
          have HK := Lib.hid (show k ≤ 5 by omega)
          clear hk
          go_enter Tryd.func4, Tryd.ntmps4
          go_wp2_with (go_at_call 11; (with_reducible refine (isKind_in k HK.out _).mono ?_); rintro e w1 ⟨rfl, rfl⟩)
          all_goals (go_ret; exact ⟨rfl, Below.refl _ _⟩)
      · obtain ⟨k, rfl⟩ := Int.eq_ofNat_of_zero_le hk.1
        have HK := Lib.hid (show k ≤ 5 by omega)
        have p5 : hi < 0 := by omega
        clear hk p2
        go_enter Tryd.func4, Tryd.ntmps4
        go_wp2_with (go_at_call 11; (with_reducible refine (isKind_in k HK.out _).mono ?_); rintro e w1 ⟨rfl, rfl⟩)
        all_goals (go_ret; exact ⟨rfl, Below.refl _ _⟩)
    · obtain ⟨k, rfl⟩ := Int.eq_ofNat_of_zero_le hk.1
      have HK := Lib.hid (show k ≤ 5 by omega)
      have p5 : lo < 0 := by omega
      clear hk p1
      go_enter Tryd.func4, Tryd.ntmps4
      go_wp2_with (go_at_call 11; (with_reducible refine (isKind_in k HK.out _).mono ?_); rintro e w1 ⟨rfl, rfl⟩)
      all_goals (go_ret; exact ⟨rfl, Below.refl _ _⟩)
  · have HK := Lib.hid (show kd < 0 ∨ 6 ≤ kd by omega)
    clear hk
    go_enter Tryd.func4, Tryd.ntmps4
    go_wp2_with (go_at_call 11; (with_reducible refine (isKind_out kd HK.out _).mono ?_); rintro e w1 ⟨rfl, rfl⟩)
    all_goals (go_ret; exact ⟨rfl, Below.refl _ _⟩)
end Go.Proofs.YtkjnajkbkaikaaaDoor
