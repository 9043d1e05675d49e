/-
  spec.ComparePre.
-/
import Derived.Test.YtopaileliohpdaaDoorSpecNum
namespace Go.Proofs.YtopaileliohpdaaDoor
open Go.RowKit
set_option maxRecDepth 100000
set_option linter.unusedVariables false

theorem specPart_is (s o : ByteArray) (r : Int) (w : World) (hs : s.size ≤ 140737488351232) (ho : o.size ≤ 140737488351232) (hr : Hid (M.partSpec (M.bs s) (M.bs o) = r)) :
    Calls Tryd.prog 20 #[.string s, .string o] w fun e w' => e = .returned (.int .i64 r) ∧ w' = w := by
  have := specPart_any s o w hs ho
  rw [hr.out] at this
  exact this

theorem seg_up {a b : Nat} (h : b < a) : M.seg a b = 1 := by unfold M.seg; rw [if_neg (by omega), if_pos h]
theorem seg_down {a b : Nat} (h : a < b) : M.seg a b = -1 := by unfold M.seg; rw [if_pos h]
theorem seg_same (a : Nat) : M.seg a a = 0 := by unfold M.seg; rw [if_neg (by omega), if_neg (by omega)]
set_option maxHeartbeats 2000000 in
/-- two prereleases that are not empty and differ -/
theorem specPre_ne (s o : ByteArray) (w : World) (hs : s.size ≤ 2147483647) (ho : o.size ≤ 2147483647) (e1 : (s.toList == o.toList) = false) (e2 : s.toList.isEmpty = false) (e3 : o.toList.isEmpty = false) :
    Calls Tryd.prog 66 #[.string s, .string o] w fun e w' => e = .returned (.int .i64 (M.cmpPre (M.bs s) (M.bs o))) ∧ Below w.heap.size w w' := by
  go_enter Tryd.func66, Tryd.ntmps66
  go_wp2_with fail
  refine (identifiers_any s _ hs).mono ?_
  rintro e w1 ⟨v, L, rfl, hL, hown, hb⟩
  have HB1 := Lib.hid hb
  have HR1 := Lib.hid hown.read
  have HL1 := Lib.hid hL
  clear hL hown hb
  go_wp2_with fail
  refine (identifiers_any o _ ho).mono ?_
  rintro e w2 ⟨v2, N, rfl, hL, hown, hb⟩
  obtain ⟨A, cap, rfl, hcell⟩ := HR1.out.kept hb
  obtain ⟨A2, cap2, rfl, hcell2⟩ := hown.read
  have hlen := pieces_len HL1.out
  have hlen2 := pieces_len hL
  have HP := Lib.hid (show M.cmpPre (M.bs s) (M.bs o) = M.cmpL M.F L N by rw [M.cmpPre, ← HL1.out, ← hL, M.cmpL_map]; rfl)
  have HB := Lib.hid (HB1.out.trans (hb.mono HB1.out.size))
  have Z1 := Lib.hid (piece_size HL1.out)
  have Z2 := Lib.hid (piece_size hL)
  have HC := Lib.hid hcell
  have HC2 := Lib.hid hcell2
  have w1' : IntKind.u64.wrap (L.length : Int) = (L.length : Int) := wrap_u64 (by omega) (by omega)
  have w2' : IntKind.u64.wrap (N.length : Int) = (N.length : Int) := wrap_u64 (by omega) (by omega)
  clear HR1 HL1 hL hown hb HB1 hcell hcell2
  go_wp2
  go_loopw [7] (fun i wr => ∃ k : Nat, (k ≤ L.length ∧ k ≤ N.length) ∧ i = .int .i64 k ∧ Hid (M.cmpPre (M.bs s) (M.bs o) = M.cmpL M.F (L.drop k) (N.drop k)) ∧ Hid (Below w2.heap.size w2 wr)) (fun i _ => L.length - (intOf i).toNat)
  case atStart => exact ⟨0, ⟨Nat.zero_le _, Nat.zero_le _⟩, rfl, Lib.hid (by rw [HP.out]; rfl), Lib.hid (Below.refl _ _)⟩
  case round =>
    obtain ⟨k, ⟨hk1, hk2⟩, rfl, HA, HR⟩ := hrel
    have HBE := Lib.hid (HB.out.trans (HR.out.mono HB.out.size))
    rcases Nat.lt_or_ge k L.length with hlt | hlt
    · rcases Nat.lt_or_ge k N.length with hlt2 | hlt2
      · obtain ⟨b, a, rfl, hbl, hcell⟩ := HC.out k hlt
        have hc1 : wr.cell? ⟨b, a + k, none⟩ = some (.string L[k]) := by rw [HR.out.cell (p := ⟨b, a + k, none⟩) hbl]; exact hcell
        clear hcell hbl
        obtain ⟨b2, a2, rfl, hbl, hcell⟩ := HC2.out k hlt2
        have hc2 : wr.cell? ⟨b2, a2 + k, none⟩ = some (.string N[k]) := by rw [HR.out.cell (p := ⟨b2, a2 + k, none⟩) hbl]; exact hcell
        clear hcell hbl
        have hsz := Z1.out k hlt
        have hsz2 := Z2.out k hlt2
        obtain ⟨r, hr⟩ : ∃ r, M.partSpec (M.bs L[k]) (M.bs N[k]) = r := ⟨_, rfl⟩
        have HO := Lib.hid hr
        have HS := Lib.hid (M.cmpL_both M.F hlt hlt2)
        have HF := Lib.hid (show M.F L[k] N[k] = r from hr)
        clear hr
        by_cases h0 : r = 0
        · subst h0
          go_wp2_with fail
          first
            | (go_region_held3 (fun w' => w'.cell? ⟨b, a + k, none⟩ = some (.string L[k]) ∧ w'.cell? ⟨b2, a2 + k, none⟩ = some (.string N[k])) (first | exact ⟨by assumption, by assumption⟩ | exact ⟨cell_drew_some (by assumption), cell_drew_some (by assumption)⟩ | fail) (first
                | (go_at_call 20; (with_reducible refine (specPart_is _ _ 0 _ (by omega) (by omega) HO).mono ?_); rintro e w' ⟨rfl, rfl⟩)
                | fail))
            | fail
          go_wp2
          go_roundw
          case rel => exact ⟨k + 1, ⟨hlt, hlt2⟩, by go_num, Lib.hid (by rw [HA.out, HS.out, HF.out, if_pos rfl]), Lib.hid HR.out.drew⟩
          case measure => simp [intOf]; omega
        · go_wp2_with fail
          first
            | (go_region_held3 (fun w' => w'.cell? ⟨b, a + k, none⟩ = some (.string L[k]) ∧ w'.cell? ⟨b2, a2 + k, none⟩ = some (.string N[k])) (first | exact ⟨by assumption, by assumption⟩ | exact ⟨cell_drew_some (by assumption), cell_drew_some (by assumption)⟩ | fail) (first
                | (go_at_call 20; (with_reducible refine (specPart_is _ _ r _ (by omega) (by omega) HO).mono ?_); rintro e w' ⟨rfl, rfl⟩)
                | fail))
            | fail
          go_wp2
          go_ret
          exact ⟨ret_int (by rw [HA.out, HS.out, HF.out, if_neg h0]), HBE.out.drew⟩
      · have HV := Lib.hid (show M.seg L.length N.length = M.cmpPre (M.bs s) (M.bs o) by rw [HA.out, M.cmpL_left _ hlt hlt2]; exact seg_up (by omega))
        go_wp2_with (go_at_call 50; (with_reducible refine (order_is _ _ _ _ HV).mono ?_); rintro e w' ⟨rfl, rfl⟩)
        go_ret
        exact ⟨rfl, HBE.out⟩
    · rcases Nat.lt_or_ge k N.length with hlt2 | hlt2
      · have HV := Lib.hid (show M.seg L.length N.length = M.cmpPre (M.bs s) (M.bs o) by rw [HA.out, M.cmpL_right _ hlt hlt2]; exact seg_down (by omega))
        go_wp2_with (go_at_call 50; (with_reducible refine (order_is _ _ _ _ HV).mono ?_); rintro e w' ⟨rfl, rfl⟩)
        go_ret
        exact ⟨rfl, HBE.out⟩
      · have HV := Lib.hid (show M.seg L.length N.length = M.cmpPre (M.bs s) (M.bs o) by rw [HA.out, M.cmpL_end _ hlt hlt2, show L.length = N.length by omega]; exact seg_same _)
        go_wp2_with (go_at_call 50; (with_reducible refine (order_is _ _ _ _ HV).mono ?_); rintro e w' ⟨rfl, rfl⟩)
        go_ret
        exact ⟨rfl, HBE.out⟩
end Go.Proofs.YtopaileliohpdaaDoor
