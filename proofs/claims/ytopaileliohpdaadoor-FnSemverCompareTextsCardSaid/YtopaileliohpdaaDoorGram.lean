/-
  spec.cutAt, spec.tails, spec.grammar, spec.StrictVersion.
-/
import Derived.Test.YtopaileliohpdaaDoorGramM
import Derived.Deep.DeepCutAuto
namespace Go.Proofs.YtopaileliohpdaaDoor
open Go.RowKit
set_option maxRecDepth 100000
set_option linter.unusedVariables false

/-- what spec.cutAt gives -/
def CutEnd (x : UInt8) (s : ByteArray) (w : World) (e : Ending) (w' : World) : Prop :=
  ∃ t u, e = .returned (.tuple #[.string t, .string u, .bool (M.has x (M.bs s))]) ∧ M.bs t = M.cut1 x (M.bs s) ∧ M.bs u = M.cut2 x (M.bs s) ∧ Below w.heap.size w w'
theorem cut_end_yes {x : UInt8} {s : ByteArray} {k : Nat} (hk : M.idx x (M.bs s) = k) :
    M.has x (M.bs s) = true ∧ M.bs (s.extract 0 k) = M.cut1 x (M.bs s) ∧ M.bs (s.extract (k + 1) s.size) = M.cut2 x (M.bs s) := by
  have hh : M.has x (M.bs s) = true := by unfold M.has; rw [hk]; simp
  refine ⟨hh, ?_, ?_⟩
  · unfold M.cut1 M.before; rw [hh, if_pos rfl, hk, bs_extract]; simp
  · unfold M.cut2 M.after; rw [hh, if_pos rfl, hk, bs_extract]
    simp only [Int.toNat_natCast]
    exact List.take_of_length_le (by simp [M.bs])
set_option maxHeartbeats 1000000 in
theorem cutAt_any (s : ByteArray) (x : UInt8) (n : Int) (w : World) (hs : s.size ≤ 140737488351232) (hx : (x.toNat : Int) = n) :
    Calls Tryd.prog 103 #[.string s, .int .u8 n] w (CutEnd x s w) := by
  have HX := Lib.hid hx
  clear hx
  go_enter Tryd.func103, Tryd.ntmps103
  go_wp2
  go_loopw [7] (fun i wr => ∃ k : Nat, k ≤ s.size ∧ i = .int .i64 k ∧ Hid (∀ j, j < k → ∀ c, (M.bs s)[j]? = some c → c ≠ x) ∧ wr = w) (fun i _ => s.size - (intOf i).toNat)
  case atStart => exact ⟨0, Nat.zero_le _, rfl, Lib.hid (fun j hj => absurd hj (by omega)), rfl⟩
  case round =>
    obtain ⟨k, hk, rfl, ha, rfl⟩ := hrel
    by_cases hlt : k < s.size
    · have t1 : ((k : Int) + 1).toNat = k + 1 := by omega
      have t2 : k + 1 ≤ s.size := hlt
      have t3 : (k : Int) ≤ (k : Int) + 1 := by omega
      have t4 : (0 : Int) ≤ (k : Int) + 1 := by omega
      have t5 : (k : Int) + 1 ≤ (s.size : Int) := by omega
      have t6 : (k : Int) ≤ (s.size : Int) := by omega
      rcases hb : ((s[k].toNat : Int) == n) with _ | _
      · have HN := Lib.hid (byte_ne x HX.out hb)
        go_wp2
        go_roundw
        case rel =>
          refine ⟨k + 1, hlt, by go_num, Lib.hid (fun j hj c hc => ?_), trivial⟩
          by_cases e : j = k
          · subst e
            rw [M.bs_get s j hlt] at hc
            obtain rfl := Option.some.inj hc
            exact HN.out
          · exact ha.out j (by omega) c hc
        case measure => simp [intOf]; omega
      · have HN := Lib.hid (byte_eq x HX.out hb)
        have HK := Lib.hid (M.idx_at (k := k) (l := M.bs s) (by rw [M.bs_get s k hlt, HN.out]) ha.out)
        go_wp2
        go_region
        all_goals
          go_wp2
          refine bodyPost_ret (results_tmp3 rfl _ _ _) rfl ?_
          refine ⟨s.extract 0 k, s.extract (k + 1) s.size, ?_, (cut_end_yes HK.out).2.1, (cut_end_yes HK.out).2.2, by (repeat (first | exact Below.refl _ _ | apply Below.drew | (apply below_alloc_on (Nat.le_refl _))))⟩
          rw [(cut_end_yes HK.out).1]
          rfl
    · have HF := Lib.hid (show M.has x (M.bs s) = false from M.has_free (by
        intro c hc
        obtain ⟨j, hj, rfl⟩ := List.mem_iff_getElem.1 hc
        have hj' : j < s.size := by simpa [M.bs] using hj
        exact ha.out j (by omega) _ (List.getElem?_eq_getElem hj)))
      go_wp2
      refine bodyPost_ret (results_tmp3 rfl _ _ _) rfl ?_
      exact ⟨s, ⟨#[]⟩, by rw [HF.out]; rfl, (M.cut_not HF.out).1.symm, (M.cut_not HF.out).2.symm, Below.refl _ _⟩
theorem cutAt_43 (s : ByteArray) (w : World) (hs : s.size ≤ 140737488351232) : Calls Tryd.prog 103 #[.string s, .int .u8 43] w (CutEnd 43 s w) := cutAt_any s 43 43 w hs rfl
theorem cutAt_45 (s : ByteArray) (w : World) (hs : s.size ≤ 140737488351232) : Calls Tryd.prog 103 #[.string s, .int .u8 45] w (CutEnd 45 s w) := cutAt_any s 45 45 w hs rfl
theorem cut1_len (x : UInt8) (l : M.Bs) : (M.cut1 x l).length ≤ l.length := by unfold M.cut1 M.before; split <;> simp [List.length_take] <;> omega
theorem cut2_len (x : UInt8) (l : M.Bs) : (M.cut2 x l).length ≤ l.length := by unfold M.cut2 M.after; split <;> simp [List.length_drop]
/-- what spec.tails gives -/
def TailsEnd (s : ByteArray) (w : World) (e : Ending) (w' : World) : Prop :=
  ∃ c p m, e = .returned (.tuple #[.string c, .string p, .string m, .bool (M.tailsOk (M.bs s))]) ∧ M.bs c = M.coreOf (M.bs s) ∧ M.bs p = M.cut2 45 (M.cut1 43 (M.bs s)) ∧ M.bs m = M.cut2 43 (M.bs s) ∧ Below w.heap.size w w'
set_option maxHeartbeats 2000000 in
theorem tails_any (s : ByteArray) (w : World) (hs : s.size ≤ 2147483647) :
    Calls Tryd.prog 92 #[.string s] w (TailsEnd s w) := by
  go_enter Tryd.func92, Tryd.ntmps92
  go_upto_region 3 with (first
    | (go_at_call 103; (with_reducible refine (cutAt_43 s _ (by omega)).mono ?_); rintro e w1 ⟨t, m, rfl, ht, hm, hb⟩; have HT := Lib.hid ht; have HM := Lib.hid hm; have HB1 := Lib.hid hb; have zt : t.size ≤ 140737488351232 := (by have := cut1_len 43 (M.bs s); rw [← ht, M.bs_length, M.bs_length] at this; omega); have zm : m.size ≤ 2147483647 := (by have := cut2_len 43 (M.bs s); rw [← hm, M.bs_length, M.bs_length] at this; omega); clear ht hm hb)
    | (go_at_call 103; (with_reducible refine (cutAt_45 t _ zt).mono ?_); rintro e w2 ⟨c, p, rfl, hc, hp, hb⟩; have HC := Lib.hid hc; have HP := Lib.hid hp; have HB2 := Lib.hid (Below.up HB1.out hb); have zp : p.size ≤ 2147483647 := (by have h1 := cut2_len 45 (M.bs t); have h2 := cut1_len 43 (M.bs s); rw [← hp, M.bs_length, M.bs_length] at h1; rw [← HT.out, M.bs_length, M.bs_length] at h2; omega); clear hc hp hb))
  have HE : Hid (M.tailsOk (M.bs s) = ((!M.has 43 (M.bs s) || M.validMeta (M.bs m)) && (!M.has 45 (M.bs t) || M.validPre (M.bs p)))) := Lib.hid (by
    unfold M.tailsOk
    rw [HM.out, HP.out, HT.out])
  have HC2 : Hid (M.bs c = M.coreOf (M.bs s)) := Lib.hid (by rw [HC.out, HT.out]; rfl)
  have HP2 : Hid (M.bs p = M.cut2 45 (M.cut1 43 (M.bs s))) := Lib.hid (by rw [HP.out, HT.out])
  clear HC HP HT
  rcases h4 : M.has 43 (M.bs s) with _ | _ <;> rcases h5 : M.has 45 (M.bs t) with _ | _
  all_goals (have H4 := Lib.hid h4; have H5 := Lib.hid h5; clear h4 h5)
  all_goals go_wp2_with (first
    | (go_at_call 15; (with_reducible refine (validMeta_is m (M.validMeta (M.bs m)) _ zm (Lib.hid rfl)).mono ?_); rintro e w3 ⟨rfl, hb⟩; have HB3 := Lib.hid (Below.up HB2.out hb); clear hb; rcases hv : M.validMeta (M.bs m) with _ | _; all_goals (have HV := Lib.hid hv; clear hv))
    | (go_at_call 46; (with_reducible refine (validPre_is p (M.validPre (M.bs p)) w3 zp (Lib.hid rfl)).mono ?_); rintro e w4 ⟨rfl, hb⟩; have HB4 := Lib.hid (Below.up HB3.out hb); clear hb; rcases hv : M.validPre (M.bs p) with _ | _; all_goals (have HW := Lib.hid hv; clear hv))
    | (go_at_call 46; (with_reducible refine (validPre_is p (M.validPre (M.bs p)) w2 zp (Lib.hid rfl)).mono ?_); rintro e w4 ⟨rfl, hb⟩; have HB4 := Lib.hid (Below.up HB2.out hb); clear hb; rcases hv : M.validPre (M.bs p) with _ | _; all_goals (have HW := Lib.hid hv; clear hv)))
  all_goals first
    | (refine bodyPost_ret (v := .tuple #[.string c, .string p, .string m, .bool true]) (by simp [results, Tryd.results92, go_sem]) rfl ?_
       refine ⟨c, p, m, ?_, HC2.out, HP2.out, HM.out, by first | exact HB4.out | exact HB3.out | exact HB2.out⟩
       first
         | (rw [HE.out, H4.out, H5.out, HV.out, HW.out]; rfl)
         | (rw [HE.out, H4.out, H5.out, HV.out]; rfl)
         | (rw [HE.out, H4.out, H5.out, HW.out]; rfl)
         | (rw [HE.out, H4.out, H5.out]; rfl)
         | fail)
    | (refine bodyPost_ret (v := .tuple #[.string c, .string p, .string m, .bool false]) (by simp [results, Tryd.results92, go_sem]) rfl ?_
       refine ⟨c, p, m, ?_, HC2.out, HP2.out, HM.out, by first | exact HB4.out | exact HB3.out | exact HB2.out⟩
       first
         | (rw [HE.out, H4.out, H5.out, HV.out, HW.out]; rfl)
         | (rw [HE.out, H4.out, H5.out, HV.out]; rfl)
         | (rw [HE.out, H4.out, H5.out, HW.out]; rfl)
         | (rw [HE.out, H4.out, H5.out]; rfl)
         | fail)
end Go.Proofs.YtopaileliohpdaaDoor
