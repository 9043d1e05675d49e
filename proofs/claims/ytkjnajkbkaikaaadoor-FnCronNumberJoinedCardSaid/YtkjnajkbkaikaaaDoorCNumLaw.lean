/-
  laws.FnCronNumberJoined returns true for all texts.
-/
import Derived.Test.YtkjnajkbkaikaaaDoorCSpecN
namespace Go.Proofs.YtkjnajkbkaikaaaDoor
open Go.RowKit
set_option maxRecDepth 100000
set_option linter.unusedVariables false

theorem add_ok {a b : ByteArray} (h : a.size + b.size ≤ 9223372036854775807) : ∀ w : World, (Op.stringOp .add a b).run Tryd.prog w = .ok (.string (a ++ b)) w := fun w => run_string_add_sum w a b h
theorem cronNumber_is (s : ByteArray) (z : Bool) (w : World) (hs : s.size ≤ 140737488351232) (hn : NumErrs w) (hz : Hid ((M.num (M.bs s)).isSome = z)) :
    Calls Tryd.prog 9 #[.string s] w fun e w' => (∃ n : Nat, e = .returned (.tuple #[.int .u64 n, .bool z]) ∧ Hid (∀ k, M.num (M.bs s) = some k → n = k)) ∧ Below w.heap.size w w' :=
  (cronNumber_any s _ w hs hn (Lib.hid rfl)).mono fun e w' ⟨⟨n, he, h⟩, hb⟩ => ⟨⟨n, by rw [he, hz.out], Lib.hid h⟩, hb⟩
theorem specNumber_is (s : ByteArray) (v : Int) (w : World) (hs : s.size ≤ 140737488351232) (hv : Hid (((M.snum (M.bs s)).2 : Int) = v)) :
    Calls Tryd.prog 10 #[.string s] w fun e w' => (∃ n : Int, e = .returned (.tuple #[.int .i64 n, .int .i64 v])) ∧ w = w' :=
  (specNumber_any s w hs).mono fun e w' ⟨he, hw⟩ => ⟨⟨((M.snum (M.bs s)).1 : Int), by rw [he, ← hv.out]⟩, hw.symm⟩
namespace M
theorem snum_cases (l : Bs) : (snum l).2 = 0 ∨ (snum l).2 = 1 ∨ (snum l).2 = 2 := by
  unfold snum
  cases opens l with
  | true =>
    simp only [if_true]
    split
    · exact .inr (.inr rfl)
    · exact .inl rfl
  | false =>
    simp only [Bool.false_eq_true, if_false]
    split
    · exact .inr (.inl rfl)
    · exact .inl rfl
theorem fine_num {l : Bs} (h : (snum l).2 = 1) (hl : l.length ≤ 18) : num l = some (val l) := by
  obtain ⟨h1, _⟩ := snum_fine h
  exact num_digits h1 (val_lt9 h1 hl)
theorem bs_append (a b : ByteArray) : bs (a ++ b) = bs a ++ bs b := by
  unfold bs
  simp
theorem joined {a b : Bs} (ha : (snum a).2 = 1) (hb : (snum b).2 = 1) (la : a.length ≤ 9) (lb : b.length ≤ 9) : num (a ++ b) = some (val a * 10 ^ b.length + val b) := by
  obtain ⟨h1, _⟩ := snum_fine ha
  obtain ⟨h2, _⟩ := snum_fine hb
  have h3 := digits_append h1 h2
  rw [num_digits h3 (val_lt9 h3 (by rw [List.length_append]; omega)), val_append]
theorem val9 {a : Bs} (h : (snum a).2 = 1) (l : a.length ≤ 9) : val a < 1000000000 := by
  obtain ⟨h1, _⟩ := snum_fine h
  simp only [digits, Bool.and_eq_true] at h1
  have h2 := val_lt a h1.2
  have h3 : 10 ^ a.length ≤ 10 ^ 9 := Nat.pow_le_pow_right (by omega) l
  omega
theorem pow9 {v k : Nat} (hv : v < 1000000000) (hk : k ≤ 9) : v * 10 ^ k ≤ 1000000000000000000 := by
  have h3 : 10 ^ k ≤ 10 ^ 9 := Nat.pow_le_pow_right (by omega) hk
  have := Nat.mul_le_mul (Nat.le_of_lt hv) h3
  omega
end M
set_option maxHeartbeats 4000000 in
theorem joined_walk (a b : ByteArray) (w : World) (hE : NumErrs w) (h1 : a.size ≤ 140737488351232) (h2 : b.size ≤ 140737488351232) :
    Calls Tryd.prog 3 #[.string a, .string b] w fun e w' => e = .returned (.bool true) ∧ Below w.heap.size w w' := by
  have HN := Lib.hid hE
  clear hE
  by_cases ha : a.size ≤ 9
  case neg =>
    clear h1 h2
    go_enter Tryd.func3, Tryd.ntmps3
    go_wp2_with fail
    all_goals (go_ret; exact ⟨rfl, Below.refl _ _⟩)
  by_cases hb : b.size ≤ 9
  case neg =>
    clear h1 h2
    go_enter Tryd.func3, Tryd.ntmps3
    go_wp2_with fail
    all_goals (go_ret; exact ⟨rfl, Below.refl _ _⟩)
  have add := add_ok (a := a) (b := b) (by omega)
  have h3 : (a ++ b).size ≤ 140737488351232 := by rw [ByteArray.size_append]; omega
  have HLA := Lib.hid (show (M.bs a).length ≤ 9 by rw [M.bs_length]; exact ha)
  have HLB := Lib.hid (show (M.bs b).length ≤ 9 by rw [M.bs_length]; exact hb)
  have HLB2 := Lib.hid (M.bs_length b)
  obtain ⟨za, hza⟩ : ∃ z, (M.num (M.bs a)).isSome = z := ⟨_, rfl⟩
  obtain ⟨zb, hzb⟩ : ∃ z, (M.num (M.bs b)).isSome = z := ⟨_, rfl⟩
  obtain ⟨zc, hzc⟩ : ∃ z, (M.num (M.bs (a ++ b))).isSome = z := ⟨_, rfl⟩
  have HZA := Lib.hid hza
  have HZB := Lib.hid hzb
  have HZC := Lib.hid hzc
  clear hza hzb hzc
  go_enter Tryd.func3, Tryd.ntmps3
  go_upto_region 8 with (first
    | (go_at_call 9; (with_reducible refine (cronNumber_is a za _ h1 HN.out HZA).mono ?_); rintro e w1 ⟨⟨na, rfl, HA⟩, hb1⟩; have HB1 := Lib.hid hb1; clear hb1)
    | (go_at_call 9; (with_reducible refine (cronNumber_is b zb _ h2 (HN.out.below HB1.out) HZB).mono ?_); rintro e w2 ⟨⟨nb, rfl, HB⟩, hb2⟩; have HB2 := Lib.hid (Below.up HB1.out hb2); clear hb2)
    | (go_at_call 9; (with_reducible refine (cronNumber_is (a ++ b) zc _ h3 (HN.out.below HB2.out) HZC).mono ?_); rintro e w3 ⟨⟨nc, rfl, HC⟩, hb3⟩; have HB3 := Lib.hid (Below.up HB2.out hb3); clear hb3))
  rcases M.snum_cases (M.bs a) with hva | hva | hva
  · have HVA : Hid (((M.snum (M.bs a)).2 : Int) = 0) := Lib.hid (by rw [hva]; rfl)
    obtain rfl : za = false := by rw [← HZA.out, M.num_bad hva]; rfl
    clear hva
    go_wp2_with (go_at_call 10; (with_reducible refine (specNumber_is a 0 _ h1 HVA).mono ?_); rintro e w4 ⟨⟨n4, rfl⟩, rfl⟩)
    go_ret
    exact ⟨rfl, HB3.out⟩
  · have HVA : Hid (((M.snum (M.bs a)).2 : Int) = 1) := Lib.hid (by rw [hva]; rfl)
    have hna := M.fine_num hva (by have := HLA.out; omega)
    have HNA := Lib.hid (HA.out _ hna)
    obtain rfl : za = true := by rw [← HZA.out, hna]; rfl
    rcases M.snum_cases (M.bs b) with hvb | hvb | hvb
    · have HVB : Hid (((M.snum (M.bs b)).2 : Int) = 0) := Lib.hid (by rw [hvb]; rfl)
      obtain rfl : zb = false := by rw [← HZB.out, M.num_bad hvb]; rfl
      clear hva hvb hna
      go_wp2_with (first
        | (go_at_call 10; (with_reducible refine (specNumber_is a 1 _ h1 HVA).mono ?_); rintro e w4 ⟨⟨n4, rfl⟩, rfl⟩)
        | (go_at_call 10; (with_reducible refine (specNumber_is b 0 _ h2 HVB).mono ?_); rintro e w5 ⟨⟨n5, rfl⟩, rfl⟩))
      go_ret
      exact ⟨rfl, HB3.out⟩
    · have HVB : Hid (((M.snum (M.bs b)).2 : Int) = 1) := Lib.hid (by rw [hvb]; rfl)
      have hnb := M.fine_num hvb (by have := HLB.out; omega)
      have HNB := Lib.hid (HB.out _ hnb)
      obtain rfl : zb = true := by rw [← HZB.out, hnb]; rfl
      have hnc := M.joined hva hvb HLA.out HLB.out
      rw [← M.bs_append] at hnc
      have HNC := Lib.hid (HC.out _ hnc)
      obtain rfl : zc = true := by rw [← HZC.out, hnc]; rfl
      have HV9 := Lib.hid (show na < 1000000000 by rw [HNA.out]; exact M.val9 hva HLA.out)
      have HV8 := Lib.hid (show nb < 1000000000 by rw [HNB.out]; exact M.val9 hvb HLB.out)
      clear hva hvb hna hnb hnc
      go_wp2_with (first
        | (go_at_call 10; (with_reducible refine (specNumber_is a 1 _ h1 HVA).mono ?_); rintro e w4 ⟨⟨n4, rfl⟩, rfl⟩)
        | (go_at_call 10; (with_reducible refine (specNumber_is b 1 _ h2 HVB).mono ?_); rintro e w5 ⟨⟨n5, rfl⟩, rfl⟩))
      go_loop [5, 76] (fun x i => ∃ k X : Nat, k ≤ b.size ∧ i = .int .i64 (k : Int) ∧ x = .int .u64 (X : Int) ∧ Hid (X = na * 10 ^ k)) (fun _ i => b.size - (intOf i).toNat)
      case atStart => exact ⟨0, na, Nat.zero_le _, rfl, rfl, Lib.hid (by simp)⟩
      case round =>
        obtain ⟨k, X, hk, rfl, rfl, HX⟩ := hrel
        have hX : X ≤ 1000000000000000000 := by rw [HX.out]; exact M.pow9 HV9.out (by omega)
        by_cases hlt : k < b.size
        · go_wp2
          go_round
          case rel => exact ⟨k + 1, X * 10, by omega, by go_num, by go_num, Lib.hid (by rw [HX.out, Nat.pow_succ, Nat.mul_assoc])⟩
          case measure => simp [intOf]; omega
        · have hk2 : k = b.size := by omega
          have hnb1 : (0 : Int) ≤ (nb : Int) ∧ (nb : Int) ≤ 1000000000 := by have := HV8.out; omega
          obtain ⟨g1, g2⟩ := hnb1
          have heq : ((nc : Int) == (X : Int) + (nb : Int)) = true := by
            rw [beq_iff_eq, HNC.out, HX.out, HNA.out, HNB.out, HLB2.out, hk2]
            simp
          clear hk2
          go_wp2
          go_ret
          exact ⟨rfl, HB3.out⟩
    · have HVB : Hid (((M.snum (M.bs b)).2 : Int) = 2) := Lib.hid (by rw [hvb]; rfl)
      clear hva hvb hna
      go_wp2_with (first
        | (go_at_call 10; (with_reducible refine (specNumber_is a 1 _ h1 HVA).mono ?_); rintro e w4 ⟨⟨n4, rfl⟩, rfl⟩)
        | (go_at_call 10; (with_reducible refine (specNumber_is b 2 _ h2 HVB).mono ?_); rintro e w5 ⟨⟨n5, rfl⟩, rfl⟩))
      go_ret
      exact ⟨rfl, HB3.out⟩
  · have HVA : Hid (((M.snum (M.bs a)).2 : Int) = 2) := Lib.hid (by rw [hva]; rfl)
    clear hva
    go_wp2_with (go_at_call 10; (with_reducible refine (specNumber_is a 2 _ h1 HVA).mono ?_); rintro e w4 ⟨⟨n4, rfl⟩, rfl⟩)
    go_ret
    exact ⟨rfl, HB3.out⟩
end Go.Proofs.YtkjnajkbkaikaaaDoor
