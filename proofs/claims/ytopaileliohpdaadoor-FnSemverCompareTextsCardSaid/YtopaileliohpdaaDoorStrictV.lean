/-
  impl.StrictVersion; spec.JoinIdentifiers, spec.Number.
-/
import Derived.Test.YtopaileliohpdaaDoorStrict
import Derived.Test.YtopaileliohpdaaDoorPlain
import Derived.Test.YtopaileliohpdaaDoorSpecVer
namespace Go.Proofs.YtopaileliohpdaaDoor
open Go.RowKit
set_option maxRecDepth 100000
set_option linter.unusedVariables false

theorem strictVersion_some (s : ByteArray) (x : V) (w : World) (h : SErrs w) (hs : s.size ≤ 2147483647) (hx : Hid (M.strict (M.bs s) = some x)) :
    Calls Tryd.prog 37 #[.string s] w fun e w' => e = .returned (.tuple #[.agg #[.int .u64 x.a, .int .u64 x.b, .int .u64 x.c, .string x.p, .string x.m], .bool true]) ∧ Below w.heap.size w w' := by
  have HE := Lib.hid h
  clear h
  go_enter Tryd.func37, Tryd.ntmps37
  go_wp2_with (first
    | (go_at_call 63; (with_reducible refine (strict_any s _ (HE.out.below (by (repeat (first | exact Below.refl _ _ | apply Below.drew | (apply below_alloc_on (Nat.le_refl _)))))) hs).mono ?_); rintro e w1 ⟨hb, h1 | ⟨x', N, h1, rfl, hat⟩⟩; (case' inl => (exfalso; have h2 := h1.1; rw [hx.out] at h2; cases h2)); obtain rfl : x = x' := (by rw [hx.out] at h1; exact Option.some.inj h1); have HAT := Lib.hid hat; have HB1 := Lib.hid (Below.up (w := w) (by (repeat (first | exact Below.refl _ _ | apply Below.drew | (apply below_alloc_on (Nat.le_refl _))))) hb); have HZ1 := Lib.hid (AtP.below (x := V.zero) (N := w.heap.size) (alloc_at _ _ _ rfl) hb); clear hat hb h1)
    | (go_at_call 43; (with_reducible refine (read_ok x s N _ HAT.out).mono ?_); rintro e w2 ⟨rfl, hb⟩; simp only [V.v]; have HB2 := Lib.hid (Below.up HB1.out hb); have HZ2 := Lib.hid (HZ1.out.below hb); obtain ⟨z0, z1, z2, z3, z4⟩ := HZ2.out.cells; have l0 := HZ2.out.loose 0; have l1 := HZ2.out.loose 1; have l2 := HZ2.out.loose 2; have l3 := HZ2.out.loose 3; have l4 := HZ2.out.loose 4; clear hb))
  refine post_ver rfl w.heap.size x (.bool true) rfl rfl rfl ?_ ⟨rfl, ?_⟩
  · exact AtP.store5 HZ2.out x
  · exact up_store5 HB2.out (Nat.le_refl _) _ _ _ _ _
theorem strictVersion_none (s : ByteArray) (w : World) (h : SErrs w) (hs : s.size ≤ 2147483647) (hx : Hid (M.strict (M.bs s) = none)) :
    Calls Tryd.prog 37 #[.string s] w fun e w' => e = .returned (.tuple #[.agg #[.int .u64 0, .int .u64 0, .int .u64 0, .string ⟨#[]⟩, .string ⟨#[]⟩], .bool false]) ∧ Below w.heap.size w w' := by
  have HE := Lib.hid h
  clear h
  go_enter Tryd.func37, Tryd.ntmps37
  go_wp2_with (first
    | (go_at_call 63; (with_reducible refine (strict_any s _ (HE.out.below (by (repeat (first | exact Below.refl _ _ | apply Below.drew | (apply below_alloc_on (Nat.le_refl _)))))) hs).mono ?_); rintro e w1 ⟨hb, ⟨h1, t, p, rfl⟩ | ⟨x', N, h1, _⟩⟩; (case' inr => (exfalso; rw [hx.out] at h1; cases h1)); have HB1 := Lib.hid (Below.up (w := w) (by (repeat (first | exact Below.refl _ _ | apply Below.drew | (apply below_alloc_on (Nat.le_refl _))))) hb); have HZ1 := Lib.hid (AtP.below (x := V.zero) (N := w.heap.size) (alloc_at _ _ _ rfl) hb); clear hb h1)
    | (go_at_call 43; (with_reducible refine (read_err none t p _).mono ?_); rintro e w2 ⟨rfl, hb⟩; simp only [V.v]; have HB2 := Lib.hid (Below.up HB1.out hb); have HZ2 := Lib.hid (HZ1.out.below hb); obtain ⟨z0, z1, z2, z3, z4⟩ := HZ2.out.cells; have l0 := HZ2.out.loose 0; have l1 := HZ2.out.loose 1; have l2 := HZ2.out.loose 2; have l3 := HZ2.out.loose 3; have l4 := HZ2.out.loose 4; clear hb))
  refine post_ver rfl w.heap.size V.zero (.bool false) rfl rfl rfl ?_ ⟨rfl, ?_⟩
  · exact AtP.store5 HZ2.out V.zero
  · exact up_store5 HB2.out (Nat.le_refl _) _ _ _ _ _

/-- the first k strings with dots between them -/
def joinB (L : List ByteArray) : Nat → ByteArray
  | 0 => ⟨#[]⟩
  | k + 1 => (if k = 0 then joinB L k else joinB L k ++ ⟨#[46]⟩) ++ (L[k]?.getD ⟨#[]⟩)
theorem joinB_size (L : List ByteArray) (h : ∀ b ∈ L, b.size ≤ 2147483647) : ∀ k, (joinB L k).size ≤ k * 2147483648
  | 0 => by show (0 : Nat) ≤ _; omega
  | k + 1 => by
    have ih := joinB_size L h k
    have e : (⟨#[46]⟩ : ByteArray).size = 1 := rfl
    have hz : (L[k]?.getD ⟨#[]⟩).size ≤ 2147483647 := by
      cases hk : L[k]? with
      | none => show (0 : Nat) ≤ _; omega
      | some b => exact h b (List.mem_of_getElem? hk)
    unfold joinB
    split <;> simp only [ByteArray.size_append] <;> omega
set_option maxHeartbeats 1000000 in
theorem join_any (v : Value) (L : List ByteArray) (w : World) (hr : ReadS w v L) (hl : L.length ≤ 64) (hz : ∀ b ∈ L, b.size ≤ 2147483647) :
    Calls Tryd.prog 35 #[v] w fun e w' => e = .returned (.string (joinB L L.length)) ∧ w' = w := by
  obtain ⟨A, cap, rfl, hcell⟩ := hr
  have HC := Lib.hid hcell
  have HZ := Lib.hid hz
  have HJ := Lib.hid (joinB_size L hz)
  clear hcell hz
  go_enter Tryd.func35, Tryd.ntmps35
  go_wp2
  go_loop [3, 8] (fun t i => ∃ k : Nat, k ≤ L.length ∧ i = .int .i64 k ∧ t = .string (joinB L k)) (fun _ i => L.length - (intOf i).toNat)
  case atStart => exact ⟨0, Nat.zero_le _, rfl, rfl⟩
  case round =>
    obtain ⟨k, hk, rfl, rfl⟩ := hrel
    by_cases hlt : k < L.length
    · obtain ⟨b, o, rfl, _, hcell⟩ := HC.out k hlt
      have hsz := HZ.out L[k] (List.getElem_mem hlt)
      have hj := HJ.out k
      have e : (⟨#[46]⟩ : ByteArray).size = 1 := rfl
      have hk64 : k * 2147483648 ≤ 64 * 2147483648 := Nat.mul_le_mul_right _ (by omega)
      have s1 := add_ok (a := joinB L k) (b := ⟨#[46]⟩) (by omega)
      have s2 := add_ok (a := joinB L k ++ ⟨#[46]⟩) (b := L[k]) (by rw [ByteArray.size_append]; omega)
      have s3 := add_ok (a := joinB L k) (b := L[k]) (by omega)
      have HN : Hid (joinB L (k + 1) = (if k = 0 then joinB L k else joinB L k ++ ⟨#[46]⟩) ++ L[k]) := Lib.hid (by rw [joinB, List.getElem?_eq_getElem hlt]; rfl)
      clear hj e hk64 hsz
      by_cases h0 : k = 0
      · have H0 := Lib.hid h0
        have h9 : ¬ (0 : Int) < k := by omega
        clear h0
        go_wp2
        go_round
        case rel => exact ⟨k + 1, hlt, by go_num, by rw [HN.out, if_pos H0.out]⟩
        case measure => simp [intOf]; omega
      · have H0 := Lib.hid h0
        have h9 : (0 : Int) < k := by omega
        clear h0
        go_wp2
        go_round
        case rel => exact ⟨k + 1, hlt, by go_num, by rw [HN.out, if_neg H0.out]⟩
        case measure => simp [intOf]; omega
    · have HK := Lib.hid (show k = L.length by omega)
      go_wp2
      go_ret
      first
        | exact ⟨by rw [HK.out]; rfl, rfl⟩
        | (rw [HK.out]; rfl)
/-- what spec.Number gives -/
def numRes (l : M.Bs) : Value := if M.fits l then .tuple #[.int .u64 (M.val l : Nat), .bool true] else .tuple #[.int .u64 0, .bool false]
theorem numRes_ok {l : M.Bs} (h : M.fits l = true) : numRes l = .tuple #[.int .u64 (M.val l : Nat), .bool true] := if_pos h
theorem numRes_bad {l : M.Bs} (h : M.fits l = false) : numRes l = .tuple #[.int .u64 0, .bool false] := by unfold numRes; rw [h]; rfl
theorem valFrom_append (n : Nat) (p q : M.Bs) : M.valFrom n (p ++ q) = M.valFrom (M.valFrom n p) q := by unfold M.valFrom; rw [List.foldl_append]
theorem valFrom_take (s : ByteArray) (k : Nat) (h : k < s.size) : M.valFrom 0 ((M.bs s).take (k + 1)) = M.valFrom 0 ((M.bs s).take k) * 10 + (s[k].toNat - 48) := by
  rw [digits_loop s k h, valFrom_append]
  rfl
theorem valFrom_le (s : ByteArray) (k : Nat) : M.valFrom 0 ((M.bs s).take k) ≤ M.val (M.bs s) := by
  have h1 := valFrom_append 0 ((M.bs s).take k) ((M.bs s).drop k)
  rw [List.take_append_drop] at h1
  rw [M.val, h1]
  exact M.valFrom_mono _ _
theorem digit_at {s : ByteArray} (h : M.digits (M.bs s) = true) (k : Nat) (hk : k < s.size) : 48 ≤ s[k].toNat ∧ s[k].toNat ≤ 57 := by
  unfold M.digits at h
  rw [Bool.and_eq_true] at h
  have := List.all_eq_true.1 h.2 s[k] (by have := M.bs_get s k hk; exact List.mem_of_getElem? this)
  rw [dig_int, decide_eq_true_eq] at this
  omega
set_option maxHeartbeats 1000000 in
theorem number_any (s : ByteArray) (w : World) (hs : s.size ≤ 140737488351232) :
    Calls Tryd.prog 36 #[.string s] w fun e w' => e = .returned (numRes (M.bs s)) ∧ w' = w := by
  rcases hd : M.digits (M.bs s) with _ | _
  · have HF := Lib.hid (M.fits_digits hd)
    have HD := Lib.hid hd
    clear hd
    go_enter Tryd.func36, Tryd.ntmps36
    go_wp2_with (go_at_call 49; (with_reducible refine (digits_is s false _ hs HD).mono ?_); rintro e w' ⟨rfl, rfl⟩)
    refine bodyPost_ret (results_tmp2 rfl _ _ _) rfl ?_
    exact ⟨by rw [numRes_bad HF.out]; rfl, rfl⟩
  · have HD := Lib.hid hd
    clear hd
    go_enter Tryd.func36, Tryd.ntmps36
    go_wp2_with (go_at_call 49; (with_reducible refine (digits_is s true _ hs HD).mono ?_); rintro e w' ⟨rfl, rfl⟩)
    go_loop [4, 5] (fun n i => ∃ k : Nat, k ≤ s.size ∧ i = .int .i64 k ∧ n = .int .u64 (M.valFrom 0 ((M.bs s).take k) : Nat) ∧ Hid (M.valFrom 0 ((M.bs s).take k) < 18446744073709551616)) (fun _ i => s.size - (intOf i).toNat)
    case atStart => exact ⟨0, Nat.zero_le _, rfl, rfl, Lib.hid (by rw [List.take_zero]; show (0 : Nat) < _; omega)⟩
    case round =>
      obtain ⟨k, hk, rfl, rfl, HV⟩ := hrel
      by_cases hlt : k < s.size
      · have HT := Lib.hid (valFrom_take s k hlt)
        have HDG := Lib.hid (digit_at HD.out k hlt)
        have HLE := Lib.hid (valFrom_le s (k + 1))
        go_wp2
        · have ho : (18446744073709551615 - ((s[k].toNat : Int) - 48) % 256) / 10 < (M.valFrom 0 (List.take k (M.bs s)) : Int) := by assumption
          have hnf : M.fits (M.bs s) = false := by
            unfold M.fits
            have h1 := HT.out
            have h2 := HDG.out
            have h3 := HLE.out
            rw [decide_eq_false (by omega), Bool.and_false]
          refine bodyPost_ret (results_tmp2 rfl _ _ _) rfl ?_
          exact ⟨by rw [numRes_bad hnf]; rfl, rfl⟩
        · have ho : (M.valFrom 0 (List.take k (M.bs s)) : Int) ≤ (18446744073709551615 - ((s[k].toNat : Int) - 48) % 256) / 10 := by assumption
          have HO := Lib.hid ho
          have E : Hid (((M.valFrom 0 (List.take k (M.bs s)) : Nat) : Int) * 10 + ((s[k].toNat : Int) - 48) % 256 = (M.valFrom 0 (List.take (k + 1) (M.bs s)) : Nat)) := Lib.hid (by
            have h1 := HT.out
            have h2 := HDG.out
            omega)
          have B : Hid (M.valFrom 0 (List.take (k + 1) (M.bs s)) < 18446744073709551616) := Lib.hid (by
            have h1 := HT.out
            have h2 := HDG.out
            omega)
          clear ho
          go_round
          case rel => exact ⟨k + 1, hlt, by go_num, by rw [E.out], B⟩
          case measure => simp [intOf]; omega
      · have HK := Lib.hid (show k = s.size by omega)
        go_wp2
        refine bodyPost_ret (results_tmp2 rfl _ _ _) rfl ?_
        have hall : (M.bs s).take k = M.bs s := List.take_of_length_le (by rw [M.bs_length, HK.out]; exact Nat.le_refl _)
        have hf : M.fits (M.bs s) = true := by
          unfold M.fits
          have h1 := HV.out
          rw [hall] at h1
          rw [HD.out, Bool.true_and]
          exact decide_eq_true h1
        refine ⟨?_, rfl⟩
        have hv : M.val (M.bs s) = M.valFrom 0 ((M.bs s).take k) := by rw [hall]; rfl
        rw [numRes_ok hf, hv]
        rfl
def strG : List Nat := [0, 1, 2, 5, 6, 4, 3, 7, 8]
theorem sErrs_of {w : World} {sa : Nat → Addr} (h : Sent.Errs strG w sa) : SErrs w :=
  ⟨⟨_, _, h.var 0 (by decide)⟩, ⟨_, _, h.var 1 (by decide)⟩, ⟨_, _, h.var 2 (by decide)⟩, ⟨_, _, h.var 3 (by decide)⟩, ⟨_, _, h.var 4 (by decide)⟩, ⟨_, _, h.var 5 (by decide)⟩, ⟨_, _, h.var 6 (by decide)⟩, ⟨⟨_, _, h.var 7 (by decide)⟩, ⟨_, _, h.var 8 (by decide)⟩⟩⟩
end Go.Proofs.YtopaileliohpdaaDoor
