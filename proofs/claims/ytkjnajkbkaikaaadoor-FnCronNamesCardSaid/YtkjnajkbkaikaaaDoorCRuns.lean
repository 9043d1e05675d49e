/-
  spec.CronRunsText.
-/
import Derived.Test.YtkjnajkbkaikaaaDoorCJoin
import Derived.Test.YtkjnajkbkaikaaaDoorCErr
import Derived.Deep.DeepCutAuto
import Derived.Deep.CutBlock
namespace Go.Proofs.YtkjnajkbkaikaaaDoor
open Go.RowKit
set_option maxRecDepth 100000
set_option linter.unusedVariables false

namespace M
/-- the runs of B's bits below V -/
def RunsTo (B V : Nat) (R : List (Nat × Nat)) : Prop := (∀ r ∈ R, r.1 ≤ r.2 ∧ r.2 ≤ 62 ∧ r.2 < V) ∧ ∀ i, i < V → (B.testBit i = true ↔ ∃ r ∈ R, r.1 ≤ i ∧ i ≤ r.2)
theorem RunsTo.nil (B : Nat) : RunsTo B 0 [] := ⟨(fun r hr => by cases hr), (fun i hi => by omega)⟩
theorem RunsTo.skip {B V : Nat} {R : List (Nat × Nat)} (h : RunsTo B V R) (hb : B.testBit V = false) : RunsTo B (V + 1) R := by
  refine ⟨fun r hr => ⟨(h.1 r hr).1, (h.1 r hr).2.1, by have := (h.1 r hr).2.2; omega⟩, fun i hi => ?_⟩
  by_cases e : i = V
  · subst e
    rw [hb]
    constructor
    · intro k; cases k
    · rintro ⟨r, hr, _, h2⟩
      have := (h.1 r hr).2.2
      omega
  · exact h.2 i (by omega)
theorem RunsTo.add {B V t : Nat} {R : List (Nat × Nat)} (h : RunsTo B V R) (h1 : V ≤ t) (h2 : t ≤ 62) (hb : ∀ j, V ≤ j → j ≤ t → B.testBit j = true) : RunsTo B (t + 1) (R ++ [(V, t)]) := by
  refine ⟨fun r hr => ?_, fun i hi => ?_⟩
  · rcases List.mem_append.1 hr with hr | hr
    · exact ⟨(h.1 r hr).1, (h.1 r hr).2.1, by have := (h.1 r hr).2.2; omega⟩
    · obtain rfl := List.mem_singleton.1 hr
      exact ⟨h1, h2, Nat.lt_succ_self _⟩
  · by_cases e : i < V
    · rw [h.2 i e]
      constructor
      · rintro ⟨r, hr, k⟩
        exact ⟨r, List.mem_append_left _ hr, k⟩
      · rintro ⟨r, hr, k⟩
        rcases List.mem_append.1 hr with hr | hr
        · exact ⟨r, hr, k⟩
        · obtain rfl := List.mem_singleton.1 hr
          have := k.1
          simp at this
          omega
    · constructor
      · intro _
        exact ⟨(V, t), List.mem_append_right _ (List.mem_singleton.2 rfl), by simp; omega, by simp; omega⟩
      · intro _
        exact hb i (by omega) (by omega)
theorem runText_len {r : Nat × Nat} (h1 : r.1 ≤ 62) (h2 : r.2 ≤ 62) : (runText r).length ≤ 1000 := by
  have hl : ∀ n, n ≤ 62 → (Lib.decDigits n).length ≤ 2 := by
    intro n hn
    by_cases h : n < 10
    · rw [Lib.decDigits_one h]; simp
    · rw [Lib.decDigits_two h (by omega)]; simp
  have a := hl r.1 h1
  have b := hl r.2 h2
  unfold runText
  split
  · omega
  · rw [List.length_append, List.length_cons]; omega
theorem bit_and (B n : Nat) (hB : B < 18446744073709551616) : Go.bits .and .u64 ((B : Int) / 2 ^ n) 1 = if B.testBit n then 1 else 0 := by
  have e : (B : Int) / 2 ^ n = ((B / 2 ^ n : Nat) : Int) := by simp
  have := and64 (a := B / 2 ^ n) (b := 1) (Nat.lt_of_le_of_lt (Nat.div_le_self _ _) hB) (by decide)
  rw [e]
  refine this.trans ?_
  rw [shr_and]
  split <;> rfl
end M
theorem OwnS.at {w : World} {base : Nat} {v : Value} {L : List ByteArray} (h : OwnS w base v L) (hL : L ≠ []) : ∃ g c, v = .slice (some ⟨g, 0, none⟩) L.length c ∧ SlAt w g L := by
  have h0 := h
  obtain ⟨h1, h2 | ⟨g, cap, cur, rfl, hg, hbk, hn, hc, hs, ht⟩⟩ := h
  · obtain ⟨rfl, hn⟩ := h2
    exact absurd (List.length_eq_zero_iff.1 hn) hL
  · refine ⟨g, cap, rfl, (Array.getElem?_eq_some_iff.1 hbk).1, fun i hi => ?_⟩
    have := World.ownsRow.cellAt (w := w) (base := base) (e := 9) (size := 1) (g := g) (n := L.length) (cap := cap) (xs := L.map Value.string) h0 i (by omega)
    rw [this]
    simp [hi]
theorem itoa_small (n : Nat) (w : World) (h : n ≤ 62) :
    Calls Tryd.prog 12 #[.int .i64 (n : Int)] w fun e w' => e = .returned (.string (dec n)) ∧ w = w' :=
  (Tryd.strconv_Itoa_small n (by omega) w).mono fun e w' ⟨he, hw⟩ => ⟨he, hw.symm⟩
theorem dec_small {n : Nat} (h : n ≤ 62) : (dec n).size ≤ 2 := by
  show (Lib.decDigits n).toArray.size ≤ 2
  rw [List.size_toArray]
  by_cases h' : n < 10
  · rw [Lib.decDigits_one h']; simp
  · rw [Lib.decDigits_two h' (by omega)]; simp
/-- at the head of the loop over the values -/
def RnRel (B : Nat) (w : World) (v i : Value) (wr : World) : Prop :=
  ∃ (V : Nat) (R : List (Nat × Nat)) (L : List ByteArray), i = .int .i64 (V : Int) ∧ V ≤ 63 ∧ OwnS wr w.heap.size v L ∧ L.map M.bs = R.map M.runText ∧ R.length ≤ V ∧ Below w.heap.size w wr ∧ M.RunsTo B V R
set_option maxHeartbeats 16000000 in
theorem cronRuns_any (B : Nat) (w : World) (hB : B < 18446744073709551616) (hne : ∃ i, i < 63 ∧ B.testBit i = true) :
    Calls Tryd.prog 19 #[.int .u64 (B : Int)] w fun e w' => ∃ J R, e = .returned (.string J) ∧ M.bs J = M.joinWith 44 (R.map M.runText) ∧ J.size ≤ 100000 ∧ M.RunsTo B 63 R ∧ Below w.heap.size w w' := by
  have HBB := Lib.hid hB
  have HNE := Lib.hid hne
  clear hB hne
  go_enter Tryd.func19, Tryd.ntmps19
  go_wp2
  go_loopw [3, 4] (fun v i wr => RnRel B w v i wr) (fun _ i _ => 63 - (intOf i).toNat)
  case atStart => exact ⟨0, [], [], rfl, by omega, OwnS.nil _ _, rfl, Nat.zero_le _, Below.refl _ _, M.RunsTo.nil B⟩
  case round =>
    obtain ⟨V, R, L, rfl, hV, hown, hL, hR, hb, hruns⟩ := hrel
    have HO := Lib.hid hown
    have HL := Lib.hid hL
    have HR := Lib.hid hR
    have HW := Lib.hid hb
    have HRUN := Lib.hid hruns
    clear hown hL hR hb hruns
    by_cases hlt : V ≤ 62
    · have hV64 : (V : Int) ≤ 64 := by omega
      have hV0 : (0 : Int) ≤ (V : Int) := by omega
      have hVi : (V : Int) ≤ 62 := by omega
      cases hbit : B.testBit V with
      | false =>
        have f1 : bits .and .u64 ((B : Int) / 2 ^ V) 1 = 0 := by rw [M.bit_and B V HBB.out, hbit]; rfl
        have HX := Lib.hid (HRUN.out.skip hbit)
        clear hbit
        go_wp2
        go_roundw
        case rel => exact ⟨V + 1, R, L, by go_num, by omega, HO.out, HL.out, by have := HR.out; omega, HW.out, HX.out⟩
        case measure => simp [intOf]; omega
      | true =>
        have f1 : bits .and .u64 ((B : Int) / 2 ^ V) 1 = 1 := by rw [M.bit_and B V HBB.out, hbit]; rfl
        have HBT := Lib.hid hbit
        clear hbit
        go_upto_block 2 with fail
        go_cut [5] (fun s5 wx => ∃ t : Nat, s5 = .int .i64 (t : Int) ∧ V ≤ t ∧ t ≤ 62 ∧ Hid (∀ j, V ≤ j → j ≤ t → B.testBit j = true) ∧ wr = wx)
        case first =>
          clear f1
          go_wp2
          go_loop [5] (fun l => ∃ t : Nat, l = .int .i64 (t : Int) ∧ V ≤ t ∧ t ≤ 62 ∧ Hid (∀ j, V ≤ j → j ≤ t → B.testBit j = true)) (fun l => 63 - (intOf l).toNat)
          case atStart => exact ⟨V, rfl, Nat.le_refl _, hlt, Lib.hid (fun j h1 h2 => by obtain rfl : j = V := (by omega); exact HBT.out)⟩
          case round =>
            obtain ⟨t, rfl, h1, h2, ha⟩ := hrel
            have ht1 : (t : Int) + 1 ≤ 64 := by omega
            by_cases ht : t < 62
            · have hti : (t : Int) < 62 := by omega
              cases hb2 : B.testBit (t + 1) with
              | false =>
                have f2 : bits .and .u64 ((B : Int) / 2 ^ (t + 1)) 1 = 0 := by rw [M.bit_and B (t + 1) HBB.out, hb2]; rfl
                clear hb2
                go_wp2
                go_meet
                exact ⟨t, rfl, h1, h2, ha, rfl⟩
              | true =>
                have f2 : bits .and .u64 ((B : Int) / 2 ^ (t + 1)) 1 = 1 := by rw [M.bit_and B (t + 1) HBB.out, hb2]; rfl
                have HX := Lib.hid (show ∀ j, V ≤ j → j ≤ t + 1 → B.testBit j = true from fun j k1 k2 => by
                  by_cases e : j = t + 1
                  · rw [e]; exact hb2
                  · exact ha.out j k1 (by omega))
                clear hb2
                go_wp2
                go_round
                case rel => exact ⟨t + 1, by go_num, by omega, by omega, HX⟩
                case measure => simp [intOf]; omega
            · have hti : ¬ (t : Int) < 62 := by omega
              go_wp2
              go_meet
              exact ⟨t, rfl, h1, h2, ha, rfl⟩
        case rest =>
        obtain ⟨t, rfl, h1, h2, ha, rfl⟩ := hcut
        have hLl : L.length ≤ 62 := by
          have a1 := HL.out
          have a2 := congrArg List.length a1
          rw [List.length_map, List.length_map] at a2
          have := HR.out
          omega
        have HX := Lib.hid (HRUN.out.add h1 h2 ha.out)
        clear f1 ha
        by_cases e : t = V
        · have x1 : ((t : Int) == (V : Int)) = true := by rw [beq_iff_eq, e]
          have HT := Lib.hid (show (L ++ [dec V]).map M.bs = (R ++ [(V, t)]).map M.runText by
            rw [List.map_append, List.map_append, HL.out]
            congr 1
            show [M.bs (dec V)] = [M.runText (V, t)]
            rw [dec_bs]
            unfold M.runText
            rw [if_pos e.symm])
          clear e
          go_wp2_with (first
            | (go_at_call 12; (with_reducible refine (itoa_small V _ hlt).mono ?_); rintro e w7 ⟨rfl, rfl⟩)
            | (at_builtin; refine append_str rfl _ _ rfl w.heap.size _ L rfl (HO.out.kept ((Below.refl _ _).alloc (Nat.le_refl _) _)) _ 1 (dec V) rfl ?c1 ?c2 ?c3 ?_; rotate_left 3; intro v' w1 hown1 hb1 hz1; have HO1 := Lib.hid hown1; have HB1 := Lib.hid hb1; clear hown1 hb1))
          case c1 => go_simp
          case c2 => omega
          case c3 => have := HW.out.size; simp; omega
          go_roundw
          case rel => exact ⟨t + 1, R ++ [(V, t)], L ++ [dec V], by go_num, by omega, HO1.out, HT.out, by rw [List.length_append]; have := HR.out; simp; omega, (HW.out.alloc HW.out.size _).trans HB1.out, HX.out⟩
          case measure => simp [intOf]; omega
        · have x1 : ((t : Int) == (V : Int)) = false := by rw [beq_eq_false_iff_ne]; omega
          have hz1 := dec_small hlt
          have hz2 := dec_small h2
          have hz45 : (⟨#[45]⟩ : ByteArray).size = 1 := rfl
          have a1 := add_ok (a := dec V) (b := ⟨#[45]⟩) (by omega)
          have a2 := add_ok (a := dec V ++ ⟨#[45]⟩) (b := dec t) (by rw [ByteArray.size_append]; omega)
          have HT := Lib.hid (show (L ++ [dec V ++ ⟨#[45]⟩ ++ dec t]).map M.bs = (R ++ [(V, t)]).map M.runText by
            rw [List.map_append, List.map_append, HL.out]
            congr 1
            show [M.bs (dec V ++ ⟨#[45]⟩ ++ dec t)] = [M.runText (V, t)]
            rw [M.bs_append, M.bs_append, dec_bs, dec_bs]
            unfold M.runText
            rw [if_neg (fun k => e k.symm)]
            simp [M.bs])
          clear e hz1 hz2 hz45
          go_wp2_with (first
            | (go_at_call 12; (with_reducible refine (itoa_small V _ hlt).mono ?_); rintro e w7 ⟨rfl, rfl⟩)
            | (go_at_call 12; (with_reducible refine (itoa_small t _ h2).mono ?_); rintro e w7 ⟨rfl, rfl⟩)
            | (at_builtin; refine append_str rfl _ _ rfl w.heap.size _ L rfl (HO.out.kept ((Below.refl _ _).alloc (Nat.le_refl _) _)) _ 1 (dec V ++ ⟨#[45]⟩ ++ dec t) rfl ?d1 ?d2 ?d3 ?_; rotate_left 3; intro v' w1 hown1 hb1 hz1; have HO1 := Lib.hid hown1; have HB1 := Lib.hid hb1; clear hown1 hb1))
          case d1 => go_simp
          case d2 => omega
          case d3 => have := HW.out.size; simp; omega
          go_roundw
          case rel => exact ⟨t + 1, R ++ [(V, t)], L ++ [dec V ++ ⟨#[45]⟩ ++ dec t], by go_num, by omega, HO1.out, HT.out, by rw [List.length_append]; have := HR.out; simp; omega, (HW.out.alloc HW.out.size _).trans HB1.out, HX.out⟩
          case measure => simp [intOf]; omega
    · have hVi : ¬ (V : Int) ≤ 62 := by omega
      obtain rfl : V = 63 := by omega
      have hLR : L.length = R.length := by
        have a2 := congrArg List.length HL.out
        rw [List.length_map, List.length_map] at a2
        exact a2
      have hL1 : L ≠ [] := by
        intro e
        obtain ⟨i, hi, hb⟩ := HNE.out
        obtain ⟨r, hr, _⟩ := (HRUN.out.2 i hi).1 hb
        rw [e] at hLR
        have : R = [] := List.length_eq_zero_iff.1 hLR.symm
        rw [this] at hr
        cases hr
      obtain ⟨g, c, rfl, hsl⟩ := HO.out.at hL1
      have HSL := Lib.hid hsl
      have HLL := Lib.hid (show L.length ≤ 1000 by have := HR.out; omega)
      have HSZ : Hid (∀ i (h : i < L.length), (L[i]).size ≤ 1000) := Lib.hid (fun i h => by
        have h1 : M.bs L[i] ∈ R.map M.runText := by rw [← HL.out]; exact List.mem_map.2 ⟨_, List.getElem_mem h, rfl⟩
        obtain ⟨r, hr, he⟩ := List.mem_map.1 h1
        have := HRUN.out.1 r hr
        have h2 := M.runText_len (r := r) (by omega) (by omega)
        rw [he, M.bs_length] at h2
        exact h2)
      have HJS := Lib.hid (show 1001 * L.length ≤ 100000 by have := HR.out; omega)
      clear hsl hL1 hLR
      go_wp2_with (go_at_call 40; (with_reducible refine (cronJoin_any g L.length c L _ rfl HSL.out HLL.out HSZ.out).mono ?_); rintro e w8 ⟨J, rfl, hJ, hJs, rfl⟩; have HJ := Lib.hid hJ; have HJ2 := Lib.hid hJs; clear hJ hJs)
      go_ret
      exact ⟨J, R, rfl, by rw [HJ.out, HL.out], Nat.le_trans HJ2.out HJS.out, HRUN.out, HW.out⟩
end Go.Proofs.YtkjnajkbkaikaaaDoor
