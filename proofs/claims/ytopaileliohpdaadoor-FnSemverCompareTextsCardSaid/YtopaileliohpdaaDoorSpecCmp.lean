/-
  The specification's order: spec.order, spec.ComparePart.
-/
import Derived.Test.YtopaileliohpdaaDoorInc
namespace Go.Proofs.YtopaileliohpdaaDoor
open Go.RowKit
set_option maxRecDepth 100000
set_option linter.unusedVariables false

theorem order_is (a b : Nat) (r : Int) (w : World) (hr : Hid (M.seg a b = r)) :
    Calls Tryd.prog 50 #[.int .u64 a, .int .u64 b] w fun e w' => e = .returned (.int .i64 r) ∧ w' = w := by
  obtain rfl := hr.out
  clear hr
  rcases Nat.lt_trichotomy a b with h | h | h
  · rw [show M.seg a b = -1 by unfold M.seg; rw [if_pos h]]
    have h' : (a : Int) < b := by omega
    go_enter Tryd.func50, Tryd.ntmps50
    go_wp2
    go_ret
    exact ⟨rfl, rfl⟩
  · rw [show M.seg a b = 0 by unfold M.seg; rw [if_neg (by omega), if_neg (by omega)]]
    subst h
    go_enter Tryd.func50, Tryd.ntmps50
    go_wp2
    go_ret
    exact ⟨rfl, rfl⟩
  · rw [show M.seg a b = 1 by unfold M.seg; rw [if_neg (by omega), if_pos h]]
    have h' : ¬ (a : Int) < b := by omega
    have h'' : (b : Int) < a := by omega
    go_enter Tryd.func50, Tryd.ntmps50
    go_wp2
    go_ret
    exact ⟨rfl, rfl⟩
theorem digits_is (s : ByteArray) (r : Bool) (w : World) (hs : s.size ≤ 140737488351232) (hr : Hid (M.digits (M.bs s) = r)) :
    Calls Tryd.prog 49 #[.string s] w fun e w' => e = .returned (.bool r) ∧ w' = w := by
  have := digits_any s w (by omega)
  rw [hr.out] at this
  exact this
theorem len_bs (s : ByteArray) : (M.bs s).length = s.size := M.bs_length s

set_option maxHeartbeats 1000000 in
theorem specPart_any (s o : ByteArray) (w : World) (hs : s.size ≤ 140737488351232) (ho : o.size ≤ 140737488351232) :
    Calls Tryd.prog 20 #[.string s, .string o] w fun e w' => e = .returned (.int .i64 (M.partSpec (M.bs s) (M.bs o))) ∧ w' = w := by
  obtain ⟨q, hq⟩ : ∃ q, M.partSpec (M.bs s) (M.bs o) = q := ⟨_, rfl⟩
  rw [hq]
  by_cases e : M.bs s = M.bs o
  · have he := bs_inj e
    subst he
    have HQ := Lib.hid (show q = 0 by rw [← hq, M.partSpec, if_pos rfl])
    clear hq e
    go_enter Tryd.func20, Tryd.ntmps20
    go_wp2
    go_ret
    exact ⟨ret_int HQ.out.symm, rfl⟩
  have h3 := ne_toList e
  rw [M.partSpec, if_neg e] at hq
  clear e
  have w1 : IntKind.u64.wrap (s.size : Int) = (s.size : Int) := wrap_u64 (by omega) (by omega)
  have w2 : IntKind.u64.wrap (o.size : Int) = (o.size : Int) := wrap_u64 (by omega) (by omega)
  cases ds : M.digits (M.bs s) <;> cases dd : M.digits (M.bs o)
  · have DS := Lib.hid ds
    have DO := Lib.hid dd
    rw [ds, dd, if_neg (by simp), if_neg (by simp)] at hq
    clear ds dd
    cases hl : M.less (M.bs s) (M.bs o) with
    | true =>
      have h4 : Op.bytesLess s.toList o.toList = true := by rw [toList_bs, toList_bs]; exact hl
      have HQ := Lib.hid (show q = -1 by rw [← hq, hl]; rfl)
      clear hq hl
      go_enter Tryd.func20, Tryd.ntmps20
      go_wp2_with (first
        | (go_at_call 49; (with_reducible refine (digits_is s false _ hs DS).mono ?_); rintro e w' ⟨rfl, rfl⟩)
        | (go_at_call 49; (with_reducible refine (digits_is o false _ ho DO).mono ?_); rintro e w' ⟨rfl, rfl⟩))
      go_ret
      exact ⟨ret_int HQ.out.symm, rfl⟩
    | false =>
      have h4 : Op.bytesLess s.toList o.toList = false := by rw [toList_bs, toList_bs]; exact hl
      have HQ := Lib.hid (show q = 1 by rw [← hq, hl]; rfl)
      clear hq hl
      go_enter Tryd.func20, Tryd.ntmps20
      go_wp2_with (first
        | (go_at_call 49; (with_reducible refine (digits_is s false _ hs DS).mono ?_); rintro e w' ⟨rfl, rfl⟩)
        | (go_at_call 49; (with_reducible refine (digits_is o false _ ho DO).mono ?_); rintro e w' ⟨rfl, rfl⟩))
      go_ret
      exact ⟨ret_int HQ.out.symm, rfl⟩
  · have DS := Lib.hid ds
    have DO := Lib.hid dd
    rw [ds, dd, if_neg (by simp), if_pos (by simp), if_neg (by simp)] at hq
    have HQ := Lib.hid hq.symm
    clear ds dd hq
    go_enter Tryd.func20, Tryd.ntmps20
    go_wp2_with (first
      | (go_at_call 49; (with_reducible refine (digits_is s false _ hs DS).mono ?_); rintro e w' ⟨rfl, rfl⟩)
      | (go_at_call 49; (with_reducible refine (digits_is o true _ ho DO).mono ?_); rintro e w' ⟨rfl, rfl⟩))
    go_ret
    exact ⟨ret_int HQ.out.symm, rfl⟩
  · have DS := Lib.hid ds
    have DO := Lib.hid dd
    rw [ds, dd, if_neg (by simp), if_pos (by simp), if_pos rfl] at hq
    have HQ := Lib.hid hq.symm
    clear ds dd hq
    go_enter Tryd.func20, Tryd.ntmps20
    go_wp2_with (first
      | (go_at_call 49; (with_reducible refine (digits_is s true _ hs DS).mono ?_); rintro e w' ⟨rfl, rfl⟩)
      | (go_at_call 49; (with_reducible refine (digits_is o false _ ho DO).mono ?_); rintro e w' ⟨rfl, rfl⟩))
    go_ret
    exact ⟨ret_int HQ.out.symm, rfl⟩
  · have DS := Lib.hid ds
    have DO := Lib.hid dd
    by_cases hz : s.size = o.size
    · rw [ds, dd, len_bs, len_bs, if_neg (fun h => h.2.2 hz), if_neg (by simp)] at hq
      have i1 : ((s.size : Int) != (o.size : Int)) = false := by simp; omega
      clear ds dd hz
      cases hl : M.less (M.bs s) (M.bs o) with
      | true =>
        have h4 : Op.bytesLess s.toList o.toList = true := by rw [toList_bs, toList_bs]; exact hl
        have HQ := Lib.hid (show q = -1 by rw [← hq, hl]; rfl)
        clear hq hl
        go_enter Tryd.func20, Tryd.ntmps20
        go_wp2_with (first
          | (go_at_call 49; (with_reducible refine (digits_is s true _ hs DS).mono ?_); rintro e w' ⟨rfl, rfl⟩)
          | (go_at_call 49; (with_reducible refine (digits_is o true _ ho DO).mono ?_); rintro e w' ⟨rfl, rfl⟩))
        go_ret
        exact ⟨ret_int HQ.out.symm, rfl⟩
      | false =>
        have h4 : Op.bytesLess s.toList o.toList = false := by rw [toList_bs, toList_bs]; exact hl
        have HQ := Lib.hid (show q = 1 by rw [← hq, hl]; rfl)
        clear hq hl
        go_enter Tryd.func20, Tryd.ntmps20
        go_wp2_with (first
          | (go_at_call 49; (with_reducible refine (digits_is s true _ hs DS).mono ?_); rintro e w' ⟨rfl, rfl⟩)
          | (go_at_call 49; (with_reducible refine (digits_is o true _ ho DO).mono ?_); rintro e w' ⟨rfl, rfl⟩))
        go_ret
        exact ⟨ret_int HQ.out.symm, rfl⟩
    · rw [ds, dd, len_bs, len_bs, if_pos ⟨rfl, rfl, hz⟩] at hq
      have i1 : ((s.size : Int) != (o.size : Int)) = true := by simp; omega
      have HO : Hid (M.seg s.size o.size = q) := Lib.hid (by rw [← hq]; unfold M.seg; by_cases h : s.size < o.size; · rw [if_pos h, if_pos h]
                                                             · rw [if_neg h, if_neg h, if_pos (by omega)])
      clear ds dd hz hq
      go_enter Tryd.func20, Tryd.ntmps20
      go_wp2_with (first
        | (go_at_call 49; (with_reducible refine (digits_is s true _ hs DS).mono ?_); rintro e w' ⟨rfl, rfl⟩)
        | (go_at_call 49; (with_reducible refine (digits_is o true _ ho DO).mono ?_); rintro e w' ⟨rfl, rfl⟩)
        | (go_at_call 50; (with_reducible refine (order_is s.size o.size q _ HO).mono ?_); rintro e w' ⟨rfl, rfl⟩))
      go_ret
      exact ⟨rfl, rfl⟩
end Go.Proofs.YtopaileliohpdaaDoor
