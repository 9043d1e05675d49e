/-
  The reference's small checks of bytes and identifiers, as plain facts on bytes.
-/
import Derived.Test.YtopaileliohpdaaDoorChecked
import Derived.Test.YtopaileliohpdaaDoorMath
import Derived.WalkKit
import Derived.Handy
import Derived.Lib.Hide
namespace Go.Proofs.YtopaileliohpdaaDoor
open Go.RowKit

theorem dig_int (c : UInt8) : M.isDig c = decide (48 ≤ (c.toNat : Int) ∧ (c.toNat : Int) ≤ 57) := by
  unfold M.isDig
  rw [Bool.eq_iff_iff]
  simp [UInt8.le_iff_toNat_le]
  omega

theorem ret_bool {a b : Bool} (h : a = b) : Ending.returned (.bool a) = .returned (.bool b) := by rw [h]

theorem byte_eq {c : UInt8} {n : Int} (d : UInt8) (hd : (d.toNat : Int) = n) (h : ((c.toNat : Int) == n) = true) : c = d := by
  rw [beq_iff_eq, ← hd] at h
  exact UInt8.toNat_inj.1 (by omega)
theorem byte_ne {c : UInt8} {n : Int} (d : UInt8) (hd : (d.toNat : Int) = n) (h : ((c.toNat : Int) == n) = false) : c ≠ d := by
  rintro rfl
  rw [hd] at h
  simp at h

theorem isDigit_any (c : UInt8) (w : World) :
    Calls Tryd.prog 78 #[.int .u8 c.toNat] w fun e w' => e = .returned (.bool (M.isDig c)) ∧ w' = w := by
  have h255 : (c.toNat : Int) ≤ 255 := by have := c.toNat_lt; omega
  go_enter Tryd.func78, Tryd.ntmps78
  go_wp2
  all_goals (go_ret; refine ⟨ret_bool ?_, rfl⟩; rw [dig_int, Bool.eq_iff_iff]; simp; omega)

theorem idc_int (c : UInt8) : M.isIdc c = (M.isDig c || decide (65 ≤ (c.toNat : Int) ∧ (c.toNat : Int) ≤ 90 ∨ 97 ≤ (c.toNat : Int) ∧ (c.toNat : Int) ≤ 122 ∨ (c.toNat : Int) = 45)) := by
  unfold M.isIdc
  rw [Bool.eq_iff_iff]
  cases M.isDig c
  · simp [UInt8.le_iff_toNat_le, ← UInt8.toNat_inj]
    omega
  · simp

theorem isIdent_any (c : UInt8) (w : World) :
    Calls Tryd.prog 71 #[.int .u8 c.toNat] w fun e w' => e = .returned (.bool (M.isIdc c)) ∧ w' = w := by
  have h255 : (c.toNat : Int) ≤ 255 := by have := c.toNat_lt; omega
  go_enter Tryd.func71, Tryd.ntmps71
  go_wp2_with ((go_at_call 78; (with_reducible refine (isDigit_any _ _).mono ?_); rintro e w' ⟨rfl, rfl⟩))
  all_goals (go_ret; refine ⟨ret_bool ?_, rfl⟩; rw [idc_int, Bool.eq_iff_iff]; simp [*]; try omega)

theorem digits_loop (s : ByteArray) (k : Nat) (h : k < s.size) : (M.bs s).take (k + 1) = (M.bs s).take k ++ [s[k]] := by
  rw [List.take_succ_eq_append_getElem (by simpa [M.bs] using h)]; rfl

/-- 'for all bytes': a loop that returns false at the first that fails -/
theorem all_take (p : UInt8 → Bool) (s : ByteArray) (k : Nat) (h : k < s.size) (hk : ((M.bs s).take k).all p = true) (hp : p s[k] = true) : ((M.bs s).take (k + 1)).all p = true := by
  rw [digits_loop s k h, List.all_append, hk]
  simp [hp]
theorem all_false (p : UInt8 → Bool) (s : ByteArray) (k : Nat) (h : k < s.size) (hp : p s[k] = false) : (M.bs s).all p = false := by
  rw [List.all_eq_false]
  exact ⟨s[k], by unfold M.bs; exact List.getElem_mem (by simpa using h), by simp [hp]⟩
theorem empty_bs (s : ByteArray) : (M.bs s).isEmpty = s.toList.isEmpty := by rw [ByteArray.toList_eq]; rfl

theorem digits_any (s : ByteArray) (w : World) (hs : s.size ≤ 9223372036854775807) :
    Calls Tryd.prog 49 #[.string s] w fun e w' => e = .returned (.bool (M.digits (M.bs s))) ∧ w' = w := by
  go_enter Tryd.func49, Tryd.ntmps49
  go_wp2
  go_loop [3] (fun i => ∃ k : Nat, k ≤ s.size ∧ i = .int .i64 k ∧ Hid (((M.bs s).take k).all M.isDig = true)) (fun i => s.size - (intOf i).toNat)
  case atStart => exact ⟨0, Nat.zero_le _, rfl, Lib.hid (by simp)⟩
  case round =>
    obtain ⟨k, hk, rfl, ha⟩ := hrel
    by_cases hlt : k < s.size
    · cases hd : M.isDig s[k] with
      | false =>
        have HD := Lib.hid hd
        go_wp2_with ((go_at_call 78; (with_reducible refine (isDigit_any _ _).mono ?_); rintro e w' ⟨rfl, rfl⟩))
        go_ret
        refine ⟨ret_bool ?_, rfl⟩
        rw [M.digits, all_false M.isDig s k hlt HD.out, Bool.and_false]
      | true =>
        have HD := Lib.hid hd
        go_wp2_with ((go_at_call 78; (with_reducible refine (isDigit_any _ _).mono ?_); rintro e w' ⟨rfl, rfl⟩))
        go_round
        case rel => exact ⟨k + 1, by omega, by go_num, Lib.hid (all_take M.isDig s k hlt ha.out HD.out)⟩
        case measure => simp [intOf]; omega
    · have HK := Lib.hid (show k = s.size by omega)
      go_wp2
      go_ret
      refine ⟨ret_bool ?_, rfl⟩
      have h1 := ha.out
      rw [HK.out, List.take_of_length_le (by simp [M.bs])] at h1
      rw [M.digits, h1, Bool.and_true, empty_bs]

theorem validIdent_any (s : ByteArray) (w : World) (hs : s.size ≤ 9223372036854775807) :
    Calls Tryd.prog 45 #[.string s] w fun e w' => e = .returned (.bool (M.validId (M.bs s))) ∧ w' = w := by
  go_enter Tryd.func45, Tryd.ntmps45
  go_wp2
  go_loop [3] (fun i => ∃ k : Nat, k ≤ s.size ∧ i = .int .i64 k ∧ Hid (((M.bs s).take k).all M.isIdc = true)) (fun i => s.size - (intOf i).toNat)
  case atStart => exact ⟨0, Nat.zero_le _, rfl, Lib.hid (by simp)⟩
  case round =>
    obtain ⟨k, hk, rfl, ha⟩ := hrel
    by_cases hlt : k < s.size
    · cases hd : M.isIdc s[k] with
      | false =>
        have HD := Lib.hid hd
        go_wp2_with ((go_at_call 71; (with_reducible refine (isIdent_any _ _).mono ?_); rintro e w' ⟨rfl, rfl⟩))
        go_ret
        refine ⟨ret_bool ?_, rfl⟩
        rw [M.validId, all_false M.isIdc s k hlt HD.out, Bool.and_false]
      | true =>
        have HD := Lib.hid hd
        go_wp2_with ((go_at_call 71; (with_reducible refine (isIdent_any _ _).mono ?_); rintro e w' ⟨rfl, rfl⟩))
        go_round
        case rel => exact ⟨k + 1, by omega, by go_num, Lib.hid (all_take M.isIdc s k hlt ha.out HD.out)⟩
        case measure => simp [intOf]; omega
    · have HK := Lib.hid (show k = s.size by omega)
      go_wp2
      go_ret
      refine ⟨ret_bool ?_, rfl⟩
      have h1 := ha.out
      rw [HK.out, List.take_of_length_le (by simp [M.bs])] at h1
      rw [M.validId, h1, Bool.and_true, empty_bs]

end Go.Proofs.YtopaileliohpdaaDoor
