/-
  laws.svIdent.
-/
import Derived.Test.YtopaileliohpdaaDoorMetaSet
namespace Go.Proofs.YtopaileliohpdaaDoor
open Go.RowKit
set_option maxRecDepth 100000
set_option linter.unusedVariables false

def M.ident (s : ByteArray) : Bool := decide (s.size ≤ 65536) && (M.validId (M.bs s) && (M.validPre (M.bs s) && M.smallPre (M.bs s)))
theorem validIdent_is (s : ByteArray) (r : Bool) (w : World) (hs : s.size ≤ 140737488351232) (hr : Hid (M.validId (M.bs s) = r)) :
    Calls Tryd.prog 45 #[.string s] w fun e w' => e = .returned (.bool r) ∧ w' = w := by
  have := validIdent_any s w (by omega)
  rw [hr.out] at this
  exact this
theorem svIdent_is (s : ByteArray) (r : Bool) (w : World) (hs : s.size ≤ 2147483647) (hr : Hid (M.ident s = r)) :
    Calls Tryd.prog 17 #[.string s] w fun e w' => e = .returned (.bool r) ∧ Below w.heap.size w w' := by
  have h0 : s.size ≤ 140737488351232 := by omega
  have hq := hr.out
  clear hr
  unfold M.ident at hq
  cases k1 : decide (s.size ≤ 65536) with
  | false =>
    rw [k1, Bool.false_and] at hq
    have HQ := Lib.hid hq.symm
    have H1 := Lib.hid k1
    clear k1 hq
    go_enter Tryd.func17, Tryd.ntmps17
    go_wp2_with (first
      | (go_at_call 13; (with_reducible refine (svShort_one_is _ _ _ s false rfl h0 H1).mono ?_); rintro e w1 ⟨rfl, hb⟩; have HB1 := Lib.hid hb; clear hb))
    go_ret
    exact ⟨ret_bool HQ.out.symm, HB1.out⟩
  | true =>
    rw [k1, Bool.true_and] at hq
    have H1 := Lib.hid k1
    clear k1
    cases k2 : M.validId (M.bs s) with
    | false =>
      rw [k2, Bool.false_and] at hq
      have HQ := Lib.hid hq.symm
      have H2 := Lib.hid k2
      clear k2 hq
      go_enter Tryd.func17, Tryd.ntmps17
      go_wp2_with (first
        | (go_at_call 13; (with_reducible refine (svShort_one_is _ _ _ s true rfl h0 H1).mono ?_); rintro e w1 ⟨rfl, hb⟩; have HB1 := Lib.hid hb; clear hb)
        | (go_at_call 45; (with_reducible refine (validIdent_is s false _ h0 H2).mono ?_); rintro e w' ⟨rfl, rfl⟩))
      go_ret
      exact ⟨ret_bool HQ.out.symm, HB1.out⟩
    | true =>
      rw [k2, Bool.true_and] at hq
      have H2 := Lib.hid k2
      clear k2
      cases k3 : M.validPre (M.bs s) with
      | false =>
        rw [k3, Bool.false_and] at hq
        have HQ := Lib.hid hq.symm
        have H3 := Lib.hid k3
        clear k3 hq
        go_enter Tryd.func17, Tryd.ntmps17
        go_wp2_with (first
          | (go_at_call 13; (with_reducible refine (svShort_one_is _ _ _ s true rfl h0 H1).mono ?_); rintro e w1 ⟨rfl, hb⟩; have HB1 := Lib.hid hb; clear hb)
          | (go_at_call 45; (with_reducible refine (validIdent_is s true _ h0 H2).mono ?_); rintro e w' ⟨rfl, rfl⟩)
          | (go_at_call 46; (with_reducible refine (validPre_is s false _ hs H3).mono ?_); rintro e w2 ⟨rfl, hb⟩; have HB2 := Lib.hid (Below.up HB1.out hb); clear hb))
        go_ret
        exact ⟨ret_bool HQ.out.symm, HB2.out⟩
      | true =>
        rw [k3, Bool.true_and] at hq
        have H3 := Lib.hid k3
        clear k3
        have H4 := Lib.hid hq
        clear hq
        go_enter Tryd.func17, Tryd.ntmps17
        go_wp2_with (first
          | (go_at_call 13; (with_reducible refine (svShort_one_is _ _ _ s true rfl h0 H1).mono ?_); rintro e w1 ⟨rfl, hb⟩; have HB1 := Lib.hid hb; clear hb)
          | (go_at_call 45; (with_reducible refine (validIdent_is s true _ h0 H2).mono ?_); rintro e w' ⟨rfl, rfl⟩)
          | (go_at_call 46; (with_reducible refine (validPre_is s true _ hs H3).mono ?_); rintro e w2 ⟨rfl, hb⟩; have HB2 := Lib.hid (Below.up HB1.out hb); clear hb)
          | (go_at_call 47; (with_reducible refine (smallPre_is s r _ hs H4).mono ?_); rintro e w3 ⟨rfl, hb⟩; have HB3 := Lib.hid (Below.up HB2.out hb); clear hb))
        go_ret
        exact ⟨rfl, HB3.out⟩
end Go.Proofs.YtopaileliohpdaaDoor
