/-
  laws.refPlain, laws.matchAsked, FamiliarMatch, impl.RefMatch, laws.matchName; patterns that match a name.
-/
import Derived.Test.YtmjipdcohkiblaaDoorMatQ
import Derived.Test.YtmjipdcohkiblaaDoorMatP
import Derived.Test.YtmjipdcohkiblaaDoorRefI
namespace Go.Proofs.YtmjipdcohkiblaaDoor
open Go.RowKit
set_option maxRecDepth 100000
set_option linter.unusedVariables false

def lowB (s : ByteArray) : Bool := (M.bs s).all fun c => decide (c.toNat < 128)
theorem lowB_iff {s : ByteArray} : lowB s = true ↔ ∀ c ∈ M.bs s, c.toNat < 128 := by
  unfold lowB
  rw [List.all_eq_true]
  exact ⟨fun h c hc => of_decide_eq_true (h c hc), fun h c hc => decide_eq_true (h c hc)⟩
theorem plain_any (s : ByteArray) (w : World) (hs : s.size ≤ 140737488351232) :
    Calls Tryd.prog 7 #[.string s] w fun e w' => e = .returned (.bool (lowB s)) ∧ w = w' := by
  go_enter Tryd.func7, Tryd.ntmps7
  go_wp2
  go_loopw [3] (fun i wr => ∃ k : Nat, k ≤ s.size ∧ i = .int .i64 (k : Int) ∧ Hid (∀ c ∈ (M.bs s).take k, c.toNat < 128) ∧ wr = w) (fun i _ => s.size - (intOf i).toNat)
  case atStart => exact ⟨0, Nat.zero_le _, rfl, Lib.hid (fun c hc => by cases hc), rfl⟩
  case round =>
    obtain ⟨k, hk, rfl, HA, rfl⟩ := hrel
    by_cases hlt : k < s.size
    · have HT := Lib.hid (take_next hlt)
      by_cases hc : s[k].toNat < 128
      · have d : ¬ (128 : Int) ≤ (s[k].toNat : Int) := by omega
        have HC := Lib.hid hc
        clear hc
        go_wp2
        refine ⟨⟨k + 1, hlt, by go_num, Lib.hid (fun c h => ?_), by trivial⟩, by simp [intOf]; omega⟩
        rw [HT.out] at h
        rcases List.mem_append.1 h with h | h
        · exact HA.out c h
        · obtain rfl := List.mem_singleton.1 h
          exact HC.out
      · have d : (128 : Int) ≤ (s[k].toNat : Int) := by omega
        have HB := Lib.hid (show lowB s = false by
          cases h : lowB s with
          | false => rfl
          | true => exact absurd (lowB_iff.1 h s[k] (List.mem_of_getElem? (M.bs_get s k hlt))) hc)
        clear hc
        go_wp2
        go_ret
        exact ⟨by rw [HB.out]; rfl, by trivial⟩
    · have hk2 : k = s.size := by omega
      subst hk2
      have HB := Lib.hid (show lowB s = true by
        rw [lowB_iff]
        intro c hc
        exact HA.out c (by rw [List.take_of_length_le (by rw [M.bs_length]; exact Nat.le_refl _)]; exact hc))
      go_wp2
      go_ret
      exact ⟨by rw [HB.out]; rfl, by trivial⟩
def askedB (s : ByteArray) : Bool := decide (s.size ≤ 200 ∧ s.size ≠ 0) && lowB s
theorem asked_any (s : ByteArray) (w : World) (hs : s.size ≤ 2147483647) (b : Bool) (hb : Hid (askedB s = b)) :
    Calls Tryd.prog 4 #[.string s, .slice none 0 0] w fun e w' => e = .returned (.bool b) ∧ w = w' := by
  obtain ⟨c, hc⟩ : ∃ c, lowB s = c := ⟨_, rfl⟩
  have HP : Hid (∀ w : World, Calls Tryd.prog 7 #[.string s] w fun e w' => e = .returned (.bool c) ∧ w = w') := Lib.hid (fun w => by have := plain_any s w (by omega); rw [hc] at this; exact this)
  have HC := Lib.hid hc
  clear hc
  have hcase : (s.size ≤ 200 ∧ M.bs s ≠ []) ∨ (s.size ≤ 200 ∧ M.bs s = []) ∨ ¬ s.size ≤ 200 := by
    by_cases h1 : s.size ≤ 200
    · by_cases h2 : M.bs s = []
      · exact .inr (.inl ⟨h1, h2⟩)
      · exact .inl ⟨h1, h2⟩
    · exact .inr (.inr h1)
  rcases hcase with ⟨h1, h2⟩ | ⟨h1, h2⟩ | h1
  · have e1 := empty_f h2
    obtain rfl : c = b := by
      rw [← hb.out, ← HC.out]
      unfold askedB
      rw [decide_eq_true ⟨h1, fun h => h2 ((size_bs s).1 h)⟩, Bool.true_and]
    clear hb h2 HC
    go_enter Tryd.func4, Tryd.ntmps4
    go_wp2
    go_loopw [5, 12] (fun n i wr => n = .int .i64 (s.size : Int) ∧ i = .int .i64 0 ∧ wr = w) (fun _ _ _ => 0)
    case atStart => exact ⟨rfl, rfl, rfl⟩
    case round =>
      obtain ⟨rfl, rfl, rfl⟩ := hrel
      go_wp2_with (go_at_call 7; (with_reducible refine (HP.out _).mono ?_); rintro e w1 ⟨rfl, rfl⟩)
      go_ret
      exact ⟨rfl, by trivial⟩
  · have e1 := empty_t h2
    obtain rfl : b = false := by
      rw [← hb.out]
      unfold askedB
      rw [decide_eq_false (fun h => h.2 ((size_bs s).2 h2)), Bool.false_and]
    clear hb h2 HC
    go_enter Tryd.func4, Tryd.ntmps4
    go_wp2
    go_loopw [5, 12] (fun n i wr => n = .int .i64 (s.size : Int) ∧ i = .int .i64 0 ∧ wr = w) (fun _ _ _ => 0)
    case atStart => exact ⟨rfl, rfl, rfl⟩
    case round =>
      obtain ⟨rfl, rfl, rfl⟩ := hrel
      go_wp2
      go_ret
      exact ⟨rfl, by trivial⟩
  · obtain rfl : b = false := by
      rw [← hb.out]
      unfold askedB
      rw [decide_eq_false (fun h => h1 h.1), Bool.false_and]
    clear hb HC
    go_enter Tryd.func4, Tryd.ntmps4
    go_wp2
    go_loopw [5, 12] (fun n i wr => n = .int .i64 (s.size : Int) ∧ i = .int .i64 0 ∧ wr = w) (fun _ _ _ => 0)
    case atStart => exact ⟨rfl, rfl, rfl⟩
    case round =>
      obtain ⟨rfl, rfl, rfl⟩ := hrel
      go_wp2
      go_ret
      exact ⟨rfl, by trivial⟩
namespace M
theorem lits_match (a s : Bs) (J : List Mk) : matchAll (lits a ++ J) (a ++ s) = matchAll J s := by
  induction a with
  | nil => rfl
  | cons c r ih =>
    show ((c == c) && matchAll (lits r ++ J) (r ++ s)) = _
    rw [ih]
    simp
theorem lits_self (b : Bs) : matchAll (lits b) b = true := by
  have := lits_match b [] []
  rw [List.append_nil, List.append_nil] at this
  rw [this]
  rfl
theorem lits_len (a : Bs) : (lits a).length = a.length := by unfold lits; simp
end M
/-- one mark in the place of one byte -/
theorem st_mark {a b : M.Bs} {c : UInt8} (m : M.Mk) (hm : m.wf ∧ m.low) (hok : m.ok c = true) (ha : ∀ x ∈ a, x.toNat < 128) (hb : ∀ x ∈ b, x.toNat < 128) :
    MatSt (M.enc (M.lits a) ++ (m.enc ++ M.enc (M.lits b))) (a ++ c :: b) := by
  refine .inr (.inr (.inl ⟨M.lits a ++ (m :: M.lits b), ?_, ?_, ?_, ?_, ?_⟩))
  · simp
  · intro x hx
    rcases List.mem_append.1 hx with h | h
    · exact M.lits_wf ha x h
    · rcases List.mem_cons.1 h with rfl | h
      · exact hm
      · exact M.lits_wf hb x h
  · rw [M.enc_append, M.enc_cons]
  · rw [List.length_append, List.length_append, M.lits_len, List.length_cons, List.length_cons, M.lits_len]
  · rw [M.lits_match]
    show (m.ok c && M.matchAll (M.lits b) b) = true
    rw [hok, M.lits_self]
    rfl
/-- a star in the place of one byte -/
theorem st_star {a b : M.Bs} {c : UInt8} (hc : c ≠ 47) (ha : ∀ x ∈ a, x.toNat < 128) (hb : ∀ x ∈ b, x.toNat < 128) :
    MatSt (M.enc (M.lits a) ++ (42 :: M.enc (M.lits b))) (a ++ c :: b) := by
  have hok : StarOk (M.lits b) c b := ⟨M.lits_wf hb, M.lits_len b, M.lits_self b, hc⟩
  cases a with
  | nil => exact .inr (.inl ⟨M.lits b, c, b, rfl, rfl, hok⟩)
  | cons x r =>
    refine .inr (.inr (.inr ⟨M.lits (x :: r), M.lits b, x :: r, c, b, by simp [M.lits], M.lits_wf ha, rfl, rfl, M.lits_len _, ?_, hok⟩))
    have := M.lits_match (x :: r) (c :: b) []
    rw [List.append_nil] at this
    rw [this]
    rfl
theorem name_self (N : ByteArray) : refName (famD ⟨#[]⟩) (famPath ⟨#[]⟩ N) = N := by
  have h : M.bs (⟨#[]⟩ : ByteArray) ≠ M.bs hubB := by decide
  rw [(fam_out h N).1, (fam_out h N).2]
  rfl
theorem famMatch_any (P N : ByteArray) (w : World) (hz : P.size ≤ 2147483647) (hz2 : N.size ≤ 65536) (hN : ∀ x ∈ M.bs N, x.toNat < 128) (hm : MatSt (M.bs P) (M.bs N)) :
    Calls Tryd.prog 10 #[.string P, .iface 49 (.agg #[.string ⟨#[]⟩, .string N])] w fun e w' => e = .returned (.tuple #[.bool true, .nilIface]) ∧ Below w.heap.size w w' := by
  have HF : Hid (∀ w : World, Calls Tryd.prog 13 #[.iface 49 (.agg #[.string ⟨#[]⟩, .string N])] w fun e w' => e = .returned (.string N) ∧ Below w.heap.size w w') := Lib.hid (fun w => by have := famString_rep ⟨#[]⟩ N w (by show 0 + _ ≤ _; omega); rw [name_self] at this; exact this)
  have HMT : Hid (∀ w : World, Calls Tryd.prog 12 #[.string P, .string N] w fun e w' => e = .returned (.tuple #[.bool true, .nilIface]) ∧ Below w.heap.size w w') := Lib.hid (fun w => match_any P N w hz (by omega) hN hm)
  have ta := fun w => run_typeAssert_hasB (P := Tryd.prog) (t := 49) (asserted := 44) Tryd.underlying44 (by kernel_rfl) (.agg #[.string ⟨#[]⟩, .string N]) 34 w
  clear hz hz2 hN hm
  go_enter Tryd.func10, Tryd.ntmps10
  go_wp2_with (first
    | (go_at_call 13; (with_reducible refine (HF.out _).mono ?_); rintro e w1 ⟨rfl, hb⟩; have HB1 := Lib.hid hb; clear hb)
    | (go_at_call 12; (with_reducible refine (HMT.out _).mono ?_); rintro e w2 ⟨rfl, hb⟩; have HB2 := Lib.hid (Below.up HB1.out hb); clear hb))
  go_ret2
  exact ⟨rfl, HB2.out⟩
theorem refMatch_any (P N : ByteArray) (w : World) (hz : P.size ≤ 2147483647) (hz2 : N.size ≤ 65536) (hn : N.size ≠ 0) (hN : ∀ x ∈ M.bs N, x.toNat < 128) (hm : MatSt (M.bs P) (M.bs N)) :
    Calls Tryd.prog 8 #[.string P, .agg #[.string ⟨#[]⟩, .string N, .string ⟨#[]⟩, .string ⟨#[]⟩]] w fun e w' => e = .returned (.tuple #[.bool true, .bool true]) ∧ Below w.heap.size w w' := by
  have HBEST : Hid (∀ w : World, Calls Tryd.prog 15 #[.agg #[.iface 49 (.agg #[.string ⟨#[]⟩, .string N]), .string ⟨#[]⟩, .string ⟨#[]⟩]] w fun e w' => e = .returned (.iface 49 (.agg #[.string ⟨#[]⟩, .string N])) ∧ Below w.heap.size w w') := Lib.hid (fun w => best_rep ⟨#[]⟩ N ⟨#[]⟩ ⟨#[]⟩ w (by show 0 + _ ≤ _; omega) hn rfl rfl)
  have HFM : Hid (∀ w : World, Calls Tryd.prog 10 #[.string P, .iface 49 (.agg #[.string ⟨#[]⟩, .string N])] w fun e w' => e = .returned (.tuple #[.bool true, .nilIface]) ∧ Below w.heap.size w w') := Lib.hid (fun w => famMatch_any P N w hz hz2 hN hm)
  clear hz hz2 hn hN hm
  have HZZ : Hid (∀ w : World, Calls Tryd.prog 11 #[.string ⟨#[]⟩, .string N, .string ⟨#[]⟩, .string ⟨#[]⟩] w fun e w' => e = .returned (.iface 49 (.agg #[.string ⟨#[]⟩, .string N])) ∧ Below w.heap.size w w') := Lib.hid (fun w => by
    go_enter Tryd.func11, Tryd.ntmps11
    go_wp2_with (go_at_call 15; (with_reducible refine (HBEST.out _).mono ?_); rintro e w1 ⟨rfl, hb⟩; have HB1 := Lib.hid hb; clear hb)
    go_ret
    exact ⟨rfl, HB1.out⟩)
  have HREF : Hid (∀ w : World, Calls Tryd.prog 9 #[.agg #[.string ⟨#[]⟩, .string N, .string ⟨#[]⟩, .string ⟨#[]⟩]] w fun e w' => e = .returned (.iface 49 (.agg #[.string ⟨#[]⟩, .string N])) ∧ Below w.heap.size w w') := Lib.hid (fun w => by
    go_enter Tryd.func9, Tryd.ntmps9
    go_wp2_with (go_at_call 11; (with_reducible refine (HZZ.out _).mono ?_); rintro e w1 ⟨rfl, hb⟩; have HB1 := Lib.hid hb; clear hb)
    go_ret
    exact ⟨rfl, Below.up (below_alloc _ _) HB1.out⟩)
  go_enter Tryd.func8, Tryd.ntmps8
  go_wp2_with (first
    | (go_at_call 9; (with_reducible refine (HREF.out _).mono ?_); rintro e w1 ⟨rfl, hb⟩; have HB1 := Lib.hid (Below.up (below_alloc _ _) hb); clear hb)
    | (go_at_call 10; (with_reducible refine (HFM.out _).mono ?_); rintro e w2 ⟨rfl, hb⟩; have HB2 := Lib.hid (Below.up HB1.out hb); clear hb))
  go_region
  all_goals
    go_wp2
    go_ret2
    exact ⟨rfl, by first | exact HB2.out | exact HB2.out.drew⟩
theorem matchName_any (P N : ByteArray) (w : World) (hz : P.size ≤ 2147483647) (hz2 : N.size ≤ 65536) (hn : N.size ≠ 0) (hN : ∀ x ∈ M.bs N, x.toNat < 128) (hm : MatSt (M.bs P) (M.bs N)) :
    Calls Tryd.prog 5 #[.string P, .string N] w fun e w' => e = .returned (.tuple #[.bool true, .bool true]) ∧ Below w.heap.size w w' := by
  go_enter Tryd.func5, Tryd.ntmps5
  have HRM : Hid (∀ w : World, Calls Tryd.prog 8 #[.string P, .agg #[.string ⟨#[]⟩, .string N, .string ⟨#[]⟩, .string ⟨#[]⟩]] w fun e w' => e = .returned (.tuple #[.bool true, .bool true]) ∧ Below w.heap.size w w') := Lib.hid (fun w => refMatch_any P N w hz hz2 hn hN hm)
  clear hz hz2 hn hN hm
  go_wp2_with (go_at_call 8; (with_reducible refine (HRM.out _).mono ?_); rintro e w1 ⟨rfl, hb⟩; have HB1 := Lib.hid hb; clear hb)
  go_ret2
  exact ⟨rfl, HB1.out⟩
end Go.Proofs.YtmjipdcohkiblaaDoor
