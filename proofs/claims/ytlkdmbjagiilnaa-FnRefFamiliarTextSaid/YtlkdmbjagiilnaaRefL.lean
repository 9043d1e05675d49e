/-
  The law of familiar texts: walked.
-/
import Derived.Test.YtlkdmbjagiilnaaRefI
namespace Go.Proofs.Ytlkdmbjagiilnaa
open Go.RowKit
set_option maxRecDepth 100000
set_option linter.unusedVariables false

set_option maxHeartbeats 8000000 in
theorem law_fits (x : R) (w : World) (hF : x.Fits) :
    Calls Try.prog 3 #[.agg #[.string x.d, .string x.p, .string x.t, .string x.g]] w fun e w' => e = .returned (.bool true) ∧ Below w.heap.size w w' := by
  have HFIT := Lib.hid hF
  have HP := Lib.hid hF.2.1
  clear hF
  go_enter Try.func3, Try.ntmps3
  go_upto_region 4 with (first
    | (go_at_call 5; (with_reducible refine (fits_yes x _ HFIT.out).mono ?_); rintro e w1 ⟨rfl, hb⟩; have hx := heap_below hb (alloc_at w (.cells #[.string x.d, .string x.p, .string x.t, .string x.g] 23) _ rfl); have c0 := row_cell hx 0 (.string x.d) rfl; have c1 := row_cell hx 1 (.string x.p) rfl; have c2 := row_cell hx 2 (.string x.t) rfl; have c3 := row_cell hx 3 (.string x.g) rfl; have HX1 := Lib.hid hx; have HB1 := Lib.hid (Below.up (below_alloc _ _) hb); clear hb hx)
    | (go_at_call 6; (with_reducible refine (specFamiliar_any x _ HP.out).mono ?_); rintro e w2 ⟨rfl, hb⟩; have hx := heap_below hb HX1.out; clear c0 c1 c2 c3; have c0 := row_cell hx 0 (.string x.d) rfl; have c1 := row_cell hx 1 (.string x.p) rfl; have c2 := row_cell hx 2 (.string x.t) rfl; have c3 := row_cell hx 3 (.string x.g) rfl; have HX2 := Lib.hid hx; have HB2 := Lib.hid (Below.up HB1.out hb); clear hb hx))
  have hX := heap_below (below_alloc w2 (.cells #[.string (famD x.d), .string (famPath x.d x.p), .string x.t, .string x.g] 23)) HX2.out
  have hY := alloc_at w2 (.cells #[.string (famD x.d), .string (famPath x.d x.p), .string x.t, .string x.g] 23) _ rfl
  have HBW := Lib.hid (Below.up HB2.out (below_alloc w2 (.cells #[.string (famD x.d), .string (famPath x.d x.p), .string x.t, .string x.g] 23)))
  obtain ⟨N0, hN0⟩ : ∃ n, w.heap.size = n := ⟨_, rfl⟩
  obtain ⟨N3, hN3⟩ : ∃ n, w2.heap.size = n := ⟨_, rfl⟩
  generalize hW : (w2.alloc (.cells #[.string (famD x.d), .string (famPath x.d x.p), .string x.t, .string x.g] 23)) = W at *
  rw [hN0] at hX ⊢
  rw [hN3] at hY ⊢
  clear c0 c1 c2 c3 HX1 HX2 HB1 HB2 hN0 hN3 hW
  have c0 := row_cell hX 0 (.string x.d) rfl
  have c1 := row_cell hX 1 (.string x.p) rfl
  have c2 := row_cell hX 2 (.string x.t) rfl
  have c3 := row_cell hX 3 (.string x.g) rfl
  have f0 := row_cell hY 0 (.string (famD x.d)) rfl
  have f1 := row_cell hY 1 (.string (famPath x.d x.p)) rfl
  have f2 := row_cell hY 2 (.string x.t) rfl
  have f3 := row_cell hY 3 (.string x.g) rfl
  have HX := Lib.hid hX
  have HY := Lib.hid hY
  clear hX hY
  obtain ⟨b, hb0⟩ : ∃ b, x.short = b := ⟨_, rfl⟩
  have HS := Lib.hid hb0
  clear hb0
  rcases b with _ | _
  · go_wp2_with (go_at_call 7; (with_reducible refine (short_any x _ HFIT.out false HS).mono ?_); rintro e w4 ⟨rfl, hb⟩; have HB4 := Lib.hid (Below.up HBW.out hb); clear hb)
    go_ret
    exact ⟨rfl, HB4.out⟩
  have hsh : x.sum ≤ 65536 ∧ (x.p.size ≠ 0 ∨ x.d.size = 0) := by have := HS.out; unfold R.short at this; exact of_decide_eq_true this
  have HSH := Lib.hid hsh
  clear hsh
  obtain ⟨o, ho0⟩ : ∃ o, x.none = o := ⟨_, rfl⟩
  have HO := Lib.hid ho0
  clear ho0
  rcases o with _ | _
  rotate_left
  · go_wp2_with (first
      | (go_at_call 7; (with_reducible refine (short_any x _ HFIT.out true HS).mono ?_); rintro e w4 ⟨rfl, hb⟩; have hx := heap_below hb HX.out; clear c0 c1 c2 c3; have c0 := row_cell hx 0 (.string x.d) rfl; have c1 := row_cell hx 1 (.string x.p) rfl; have c2 := row_cell hx 2 (.string x.t) rfl; have c3 := row_cell hx 3 (.string x.g) rfl; have HB4 := Lib.hid (Below.up HBW.out hb); clear hb hx)
      | (go_at_call 8; (with_reducible refine (tells_any x _).mono ?_); rintro e w5 ⟨⟨n, rfl, hn⟩, hb⟩; have HB5 := Lib.hid (Below.up HB4.out hb); obtain rfl : n = 0 := hn.2 HO.out; clear hb hn))
    all_goals (go_ret; exact ⟨rfl, HB5.out⟩)
  · obtain ⟨q, hq0⟩ : ∃ q, decide (x.p.size ≠ 0 ∧ (famPath x.d x.p).size = 0) = q := ⟨_, rfl⟩
    rcases q with _ | _
    · have HQ := Lib.hid (of_decide_eq_false hq0)
      clear hq0
      have hpp : (x.p.toList != []) = false ∧ x.p.toList = [] ∨ (x.p.toList.isEmpty = false ∧ (famPath x.d x.p).toList.isEmpty = false) := by
        by_cases hp : x.p.size = 0
        · left
          have := empty_true hp
          exact ⟨by rw [this]; rfl, this⟩
        · right
          refine ⟨empty_false hp, empty_false (fun e => HQ.out ⟨hp, e⟩)⟩
      have HFT : Hid (∀ w : World, Calls Try.prog 9 #[.agg #[.string x.d, .string x.p, .string x.t, .string x.g]] w fun e w' => e = .returned (.string (refText (famD x.d) (famPath x.d x.p) x.t x.g)) ∧ Below w.heap.size w w') := Lib.hid (fun w => famText_any x w HSH.out.1 HSH.out.2 (by have := HO.out; unfold R.none at this; exact of_decide_eq_false this) (fun hp e => HQ.out ⟨hp, e⟩))
      have HST : Hid (∀ w : World, Calls Try.prog 10 #[.agg #[.string (famD x.d), .string (famPath x.d x.p), .string x.t, .string x.g]] w fun e w' => e = .returned (.string (refText (famD x.d) (famPath x.d x.p) x.t x.g)) ∧ Below w.heap.size w w') := Lib.hid (fun w => refText_any ⟨famD x.d, famPath x.d x.p, x.t, x.g⟩ w (by
        have h1 := famD_le x.d
        have h2 := famPath_le x.d x.p
        have h3 := HSH.out.1
        unfold R.sum at h3 ⊢
        show (famD x.d).size + (famPath x.d x.p).size + x.t.size + x.g.size ≤ _
        omega))
      obtain ⟨z, hz⟩ : ∃ z, refText (famD x.d) (famPath x.d x.p) x.t x.g = z := ⟨_, rfl⟩
      rw [hz] at HFT HST
      clear hz
      rcases hpp with ⟨e1, e2⟩ | ⟨e1, e2⟩
      all_goals
        go_upto_region 6 with (first
          | (go_at_call 7; (with_reducible refine (short_any x _ HFIT.out true HS).mono ?_); rintro e w4 ⟨rfl, hb⟩; have hx := heap_below hb HX.out; have hy := heap_below hb HY.out; clear c0 c1 c2 c3 f0 f1 f2 f3; have c0 := row_cell hx 0 (.string x.d) rfl; have c1 := row_cell hx 1 (.string x.p) rfl; have c2 := row_cell hx 2 (.string x.t) rfl; have c3 := row_cell hx 3 (.string x.g) rfl; have f0 := row_cell hy 0 (.string (famD x.d)) rfl; have f1 := row_cell hy 1 (.string (famPath x.d x.p)) rfl; have f2 := row_cell hy 2 (.string x.t) rfl; have f3 := row_cell hy 3 (.string x.g) rfl; have HX4 := Lib.hid hx; have HY4 := Lib.hid hy; have HB4 := Lib.hid (Below.up HBW.out hb); clear hb hx hy)
          | (go_at_call 8; (with_reducible refine (tells_any x _).mono ?_); rintro e w5 ⟨⟨n, rfl, hn⟩, hb⟩; have hx := heap_below hb HX4.out; have hy := heap_below hb HY4.out; clear c0 c1 c2 c3 f0 f1 f2 f3; have c0 := row_cell hx 0 (.string x.d) rfl; have c1 := row_cell hx 1 (.string x.p) rfl; have c2 := row_cell hx 2 (.string x.t) rfl; have c3 := row_cell hx 3 (.string x.g) rfl; have f0 := row_cell hy 0 (.string (famD x.d)) rfl; have f1 := row_cell hy 1 (.string (famPath x.d x.p)) rfl; have f2 := row_cell hy 2 (.string x.t) rfl; have f3 := row_cell hy 3 (.string x.g) rfl; have HX5 := Lib.hid hx; have HY5 := Lib.hid hy; have HB5 := Lib.hid (Below.up HB4.out hb); have hn0 : ((n : Int) == 0) = false := (by rw [beq_eq_false_iff_ne]; intro e; have h0 : n = 0 := (by omega); have := hn.1 h0; rw [HO.out] at this; cases this); clear hb hn hx hy))
        clear hn0 e1 e2
        go_region_with (first
          | (go_at_call 9; (with_reducible refine (HFT.out _).mono ?_); rintro e wa ⟨rfl, hb⟩; (first | have HAa := Lib.hid (Below.up HAb.out hb) | have HAa := Lib.hid (Below.up (Below.refl w5.heap.size w5).drew hb)); have hx := heap_below HAa.out HX5.out; have hy := heap_below HAa.out HY5.out; clear c0 c1 c2 c3 f0 f1 f2 f3; have c0 := row_cell hx 0 (.string x.d) rfl; have c1 := row_cell hx 1 (.string x.p) rfl; have c2 := row_cell hx 2 (.string x.t) rfl; have c3 := row_cell hx 3 (.string x.g) rfl; have f0 := row_cell hy 0 (.string (famD x.d)) rfl; have f1 := row_cell hy 1 (.string (famPath x.d x.p)) rfl; have f2 := row_cell hy 2 (.string x.t) rfl; have f3 := row_cell hy 3 (.string x.g) rfl; clear hb hx hy)
          | (go_at_call 10; (with_reducible refine (HST.out _).mono ?_); rintro e wb ⟨rfl, hb⟩; (first | have HAb := Lib.hid (Below.up HAa.out hb) | have HAb := Lib.hid (Below.up (Below.refl w5.heap.size w5).drew hb)); have hx := heap_below HAb.out HX5.out; have hy := heap_below HAb.out HY5.out; clear c0 c1 c2 c3 f0 f1 f2 f3; have c0 := row_cell hx 0 (.string x.d) rfl; have c1 := row_cell hx 1 (.string x.p) rfl; have c2 := row_cell hx 2 (.string x.t) rfl; have c3 := row_cell hx 3 (.string x.g) rfl; have f0 := row_cell hy 0 (.string (famD x.d)) rfl; have f1 := row_cell hy 1 (.string (famPath x.d x.p)) rfl; have f2 := row_cell hy 2 (.string x.t) rfl; have f3 := row_cell hy 3 (.string x.g) rfl; clear hb hx hy)
          | fail)
        all_goals
          go_wp2
          go_ret
          first
            | exact ⟨rfl, Below.up HB5.out HAa.out⟩
            | exact ⟨rfl, Below.up HB5.out HAb.out⟩
    · obtain ⟨q1, q2⟩ := of_decide_eq_true hq0
      have e1 := empty_false q1
      have e2 := empty_true q2
      clear q1 q2 hq0
      go_wp2_with (first
        | (go_at_call 7; (with_reducible refine (short_any x _ HFIT.out true HS).mono ?_); rintro e w4 ⟨rfl, hb⟩; have hx := heap_below hb HX.out; have hy := heap_below hb HY.out; clear c0 c1 c2 c3 f0 f1 f2 f3; have c0 := row_cell hx 0 (.string x.d) rfl; have c1 := row_cell hx 1 (.string x.p) rfl; have c2 := row_cell hx 2 (.string x.t) rfl; have c3 := row_cell hx 3 (.string x.g) rfl; have f0 := row_cell hy 0 (.string (famD x.d)) rfl; have f1 := row_cell hy 1 (.string (famPath x.d x.p)) rfl; have f2 := row_cell hy 2 (.string x.t) rfl; have f3 := row_cell hy 3 (.string x.g) rfl; have HX4 := Lib.hid hx; have HY4 := Lib.hid hy; have HB4 := Lib.hid (Below.up HBW.out hb); clear hb hx hy)
        | (go_at_call 8; (with_reducible refine (tells_any x _).mono ?_); rintro e w5 ⟨⟨n, rfl, hn⟩, hb⟩; have hx := heap_below hb HX4.out; have hy := heap_below hb HY4.out; clear c0 c1 c2 c3 f0 f1 f2 f3; have c0 := row_cell hx 0 (.string x.d) rfl; have c1 := row_cell hx 1 (.string x.p) rfl; have c2 := row_cell hx 2 (.string x.t) rfl; have c3 := row_cell hx 3 (.string x.g) rfl; have f0 := row_cell hy 0 (.string (famD x.d)) rfl; have f1 := row_cell hy 1 (.string (famPath x.d x.p)) rfl; have f2 := row_cell hy 2 (.string x.t) rfl; have f3 := row_cell hy 3 (.string x.g) rfl; have HB5 := Lib.hid (Below.up HB4.out hb); have hn0 : ((n : Int) == 0) = false := (by rw [beq_eq_false_iff_ne]; intro e; have h0 : n = 0 := (by omega); have := hn.1 h0; rw [HO.out] at this; cases this); clear hb hn hx hy))
      all_goals (go_ret; exact ⟨rfl, HB5.out⟩)
theorem familiar_walk (x : R) (w : World) :
    Calls Try.prog 3 #[x.v] w fun e w' => e = .returned (.bool true) ∧ Below w.heap.size w w' := by
  by_cases hF : x.Fits
  · exact law_fits x w hF
  · have HF := Lib.hid hF
    clear hF
    show Calls Try.prog 3 #[.agg #[.string x.d, .string x.p, .string x.t, .string x.g]] w _
    go_enter Try.func3, Try.ntmps3
    go_wp2_with (go_at_call 5; (with_reducible refine (fits_no x _ HF.out).mono ?_); rintro e w1 ⟨rfl, hb⟩; have HB1 := Lib.hid (Below.up (below_alloc _ _) hb); clear hb)
    go_ret
    exact ⟨rfl, HB1.out⟩
end Go.Proofs.Ytlkdmbjagiilnaa
