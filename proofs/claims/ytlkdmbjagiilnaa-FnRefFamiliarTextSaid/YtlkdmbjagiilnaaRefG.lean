/-
  The reference's side: spec.RefFamiliarize, RefFamiliar, RefText, RefTells; laws.refShort, laws.zzFits7.
-/
import Derived.Test.YtlkdmbjagiilnaaRefF
namespace Go.Proofs.Ytlkdmbjagiilnaa
open Go.RowKit
set_option maxRecDepth 100000
set_option linter.unusedVariables false

set_option maxHeartbeats 2000000 in
theorem specFamiliarize_any (d p : ByteArray) (w : World) (hp : p.size ≤ 2147483647) :
    Calls Try.prog 13 #[.string d, .string p] w fun e w' => e = .returned (.tuple #[.string (famD d), .string (famPath d p)]) ∧ w = w' := by
  have lh := lit_hub d
  by_cases hd : M.bs d = M.bs hubB
  · obtain ⟨x1, x2⟩ := fam_in hd p
    rw [decide_eq_true hd] at lh
    have lh2 : (d.toList != [100, 111, 99, 107, 101, 114, 46, 105, 111]) = false := by rw [bne, lh]; rfl
    have HX := Lib.hid (And.intro x1 x2)
    clear x1 x2 hd
    cases hp8 : pre8 p with
    | false =>
      have HF := Lib.hid (famP_no hp8)
      by_cases h8 : 8 ≤ p.size
      · have hl := lit_off (p.extract 0 8)
        have hq : decide (M.bs (p.extract 0 8) = M.bs offB) = false := by rw [← hp8]; unfold pre8; simp [h8]
        rw [hq] at hl
        clear hq hp8
        go_enter Try.func13, Try.ntmps13
        go_wp2
        go_ret2
        exact ⟨by rw [HX.out.1, HX.out.2, HF.out]; rfl, rfl⟩
      · clear hp8
        go_enter Try.func13, Try.ntmps13
        go_wp2
        go_ret2
        exact ⟨by rw [HX.out.1, HX.out.2, HF.out]; rfl, rfl⟩
    | true =>
      have h8 := pre8_size hp8
      have hl := lit_off (p.extract 0 8)
      have hq : decide (M.bs (p.extract 0 8) = M.bs offB) = true := by rw [← hp8]; unfold pre8; simp [h8]
      rw [hq] at hl
      have HP8 := Lib.hid hp8
      have HQ := Lib.hid (show (p.extract 8 p.size).size ≤ 140737488351232 by rw [ByteArray.size_extract]; omega)
      clear hq hp8
      cases hs : M.slash (p.extract 8 p.size) with
      | true =>
        have HF := Lib.hid (famP_slash hs)
        have HS := Lib.hid hs
        clear hs
        go_enter Try.func13, Try.ntmps13
        go_wp2_with (go_at_call 20; (with_reducible refine (first_any _ _ HQ.out).mono ?_); rintro e w1 ⟨⟨i, rfl, hi⟩, rfl⟩; have hi0 : 0 ≤ i := hi.2 HS.out; clear hi)
        go_ret2
        exact ⟨by rw [HX.out.1, HX.out.2, HF.out]; rfl, rfl⟩
      | false =>
        have HF := Lib.hid (famP_yes HP8.out hs)
        have HS := Lib.hid hs
        clear hs
        go_enter Try.func13, Try.ntmps13
        go_wp2_with (go_at_call 20; (with_reducible refine (first_any _ _ HQ.out).mono ?_); rintro e w1 ⟨⟨i, rfl, hi⟩, rfl⟩; have hi0 : i < 0 := (by have h := HS.out; rcases Int.lt_or_le i 0 with q | q; exact q; rw [hi.1 q] at h; cases h); clear hi)
        go_ret2
        exact ⟨by rw [HX.out.1, HX.out.2, HF.out]; rfl, rfl⟩
  · obtain ⟨x1, x2⟩ := fam_out hd p
    rw [decide_eq_false hd] at lh
    have lh2 : (d.toList != [100, 111, 99, 107, 101, 114, 46, 105, 111]) = true := by rw [bne, lh]; rfl
    have HX := Lib.hid (And.intro x1 x2)
    clear x1 x2 hd
    go_enter Try.func13, Try.ntmps13
    go_wp2
    go_ret2
    exact ⟨by rw [HX.out.1, HX.out.2]; rfl, rfl⟩
set_option maxHeartbeats 2000000 in
theorem specFamiliar_any (x : R) (w : World) (hp : x.p.size ≤ 2147483647) :
    Calls Try.prog 6 #[.agg #[.string x.d, .string x.p, .string x.t, .string x.g]] w fun e w' => e = .returned (.agg #[.string (famD x.d), .string (famPath x.d x.p), .string x.t, .string x.g]) ∧ Below w.heap.size w w' := by
  go_enter Try.func6, Try.ntmps6
  go_wp2_with (go_at_call 13; (with_reducible refine (specFamiliarize_any x.d x.p _ hp).mono ?_); rintro e w1 ⟨rfl, rfl⟩)
  exact bodyPost_ret (results_cell_row rfl _ _ (w.heap.size + 1) _ _ (0, 0) _ rfl (alloc_at _ _ _ (by show w.heap.size + 1 = (w.heap.push _).size; simp)) Try.underlying23 rfl (by kernel_rfl)) rfl ⟨rfl, Below.up (below_alloc _ _) (below_alloc _ _)⟩
/-- sizes of a law's reference -/
def R.sum (x : R) : Nat := x.d.size + x.p.size + x.t.size + x.g.size
theorem famD_le (d : ByteArray) : (famD d).size ≤ d.size := by
  unfold famD
  split
  · exact Nat.zero_le _
  · exact Nat.le_refl _
theorem famPath_le (d p : ByteArray) : (famPath d p).size ≤ p.size := by
  unfold famPath famP
  split
  · split
    · rw [ByteArray.size_extract]; omega
    · exact Nat.le_refl _
  · exact Nat.le_refl _
set_option maxHeartbeats 4000000 in
theorem refText_any (x : R) (w : World) (hz : x.sum ≤ 65536) :
    Calls Try.prog 10 #[.agg #[.string x.d, .string x.p, .string x.t, .string x.g]] w fun e w' => e = .returned (.string (refText x.d x.p x.t x.g)) ∧ Below w.heap.size w w' := by
  unfold R.sum at hz
  have hname : (refName x.d x.p).size ≤ 65538 := by
    unfold refName
    split
    · omega
    · rw [ByteArray.size_append, ByteArray.size_append]; show _ + 1 + _ ≤ _; omega
  obtain ⟨nm, hnm⟩ : ∃ n, refName x.d x.p = n := ⟨_, rfl⟩
  have HC : Hid (∀ w : World, Calls Try.prog 16 #[.agg #[.string x.d, .string x.p, .string x.t, .string x.g]] w fun e w' => e = .returned (.string nm) ∧ Below w.heap.size w w') := Lib.hid (fun w => by have := specName_any x w (by omega); rw [hnm] at this; exact this)
  unfold refText
  rw [hnm] at hname ⊢
  have a1 := add_ok (a := ⟨#[58]⟩) (b := x.t) (by show 1 + _ ≤ _; omega)
  have a2 := add_ok (a := nm) (b := ⟨#[58]⟩ ++ x.t) (by rw [ByteArray.size_append]; show _ + (1 + _) ≤ _; omega)
  have a3 := add_ok (a := ⟨#[64]⟩) (b := x.g) (by show 1 + _ ≤ _; omega)
  have a4 := add_ok (a := nm) (b := ⟨#[64]⟩ ++ x.g) (by rw [ByteArray.size_append]; show _ + (1 + _) ≤ _; omega)
  have a5 := add_ok (a := nm ++ (⟨#[58]⟩ ++ x.t)) (b := ⟨#[64]⟩ ++ x.g) (by rw [ByteArray.size_append, ByteArray.size_append, ByteArray.size_append]; show _ + (1 + _) + (1 + _) ≤ _; omega)
  clear hname hnm hz
  have ARM : True := trivial
  by_cases hp : x.p.size = 0
  · have e1 := empty_true hp
    rw [if_pos hp]
    clear hp
    go_enter Try.func10, Try.ntmps10
    go_wp2
    go_ret
    exact ⟨rfl, below_alloc _ _⟩
  rw [if_neg hp]
  have e1 := empty_false hp
  clear hp
  have hbx := fun (w1 : World) (hb : Below (w.alloc (.cells #[.string x.d, .string x.p, .string x.t, .string x.g] 23)).heap.size (w.alloc (.cells #[.string x.d, .string x.p, .string x.t, .string x.g] 23)) w1) => heap_below hb (alloc_at w (.cells #[.string x.d, .string x.p, .string x.t, .string x.g] 23) _ rfl)
  have HBX := Lib.hid hbx
  clear hbx
  by_cases ht : x.t.size = 0
  · have e2 := empty_true ht
    rw [if_pos ht]
    clear ht
    by_cases hg : x.g.size = 0
    · have e3 := empty_true hg
      rw [if_pos hg]
      clear hg
      go_enter Try.func10, Try.ntmps10
      go_wp2_with (go_at_call 16; (with_reducible refine (HC.out _).mono ?_); rintro e w1 ⟨rfl, hb⟩; have hx := HBX.out _ hb; have c0 := row_cell hx 0 (.string x.d) rfl; have c1 := row_cell hx 1 (.string x.p) rfl; have c2 := row_cell hx 2 (.string x.t) rfl; have c3 := row_cell hx 3 (.string x.g) rfl; have HB1 := Lib.hid hb; clear hb hx)
      go_ret
      exact ⟨rfl, Below.up (below_alloc _ _) HB1.out⟩
    · have e3 := empty_false hg
      rw [if_neg hg]
      clear hg
      go_enter Try.func10, Try.ntmps10
      go_wp2_with (go_at_call 16; (with_reducible refine (HC.out _).mono ?_); rintro e w1 ⟨rfl, hb⟩; have hx := HBX.out _ hb; have c0 := row_cell hx 0 (.string x.d) rfl; have c1 := row_cell hx 1 (.string x.p) rfl; have c2 := row_cell hx 2 (.string x.t) rfl; have c3 := row_cell hx 3 (.string x.g) rfl; have HB1 := Lib.hid hb; clear hb hx)
      go_ret
      exact ⟨rfl, Below.up (below_alloc _ _) HB1.out⟩
  · have e2 := empty_false ht
    rw [if_neg ht]
    clear ht
    by_cases hg : x.g.size = 0
    · have e3 := empty_true hg
      rw [if_pos hg]
      clear hg
      go_enter Try.func10, Try.ntmps10
      go_wp2_with (go_at_call 16; (with_reducible refine (HC.out _).mono ?_); rintro e w1 ⟨rfl, hb⟩; have hx := HBX.out _ hb; have c0 := row_cell hx 0 (.string x.d) rfl; have c1 := row_cell hx 1 (.string x.p) rfl; have c2 := row_cell hx 2 (.string x.t) rfl; have c3 := row_cell hx 3 (.string x.g) rfl; have HB1 := Lib.hid hb; clear hb hx)
      go_ret
      exact ⟨rfl, Below.up (below_alloc _ _) HB1.out⟩
    · have e3 := empty_false hg
      rw [if_neg hg]
      clear hg
      go_enter Try.func10, Try.ntmps10
      go_wp2_with (go_at_call 16; (with_reducible refine (HC.out _).mono ?_); rintro e w1 ⟨rfl, hb⟩; have hx := HBX.out _ hb; have c0 := row_cell hx 0 (.string x.d) rfl; have c1 := row_cell hx 1 (.string x.p) rfl; have c2 := row_cell hx 2 (.string x.t) rfl; have c3 := row_cell hx 3 (.string x.g) rfl; have HB1 := Lib.hid hb; clear hb hx)
      go_ret
      exact ⟨rfl, Below.up (below_alloc _ _) HB1.out⟩
def R.Fits (x : R) : Prop := x.d.size ≤ 2147483647 ∧ x.p.size ≤ 2147483647 ∧ x.t.size ≤ 2147483647 ∧ x.g.size ≤ 2147483647
theorem fits_yes (x : R) (w : World) (h : x.Fits) : Calls Try.prog 5 #[.agg #[.string x.d, .string x.p, .string x.t, .string x.g]] w fun e w' => e = .returned (.bool true) ∧ Below w.heap.size w w' := by
  obtain ⟨h1, h2, h3, h4⟩ := h
  go_enter Try.func5, Try.ntmps5
  go_wp2
  go_ret
  exact ⟨rfl, below_alloc _ _⟩
theorem fits_no (x : R) (w : World) (h : ¬ x.Fits) : Calls Try.prog 5 #[.agg #[.string x.d, .string x.p, .string x.t, .string x.g]] w fun e w' => e = .returned (.bool false) ∧ Below w.heap.size w w' := by
  unfold R.Fits at h
  by_cases h1 : x.d.size ≤ 2147483647
  · by_cases h2 : x.p.size ≤ 2147483647
    · by_cases h3 : x.t.size ≤ 2147483647
      · have h4 : 2147483647 < x.g.size := by omega
        clear h
        go_enter Try.func5, Try.ntmps5
        go_wp2
        go_ret
        exact ⟨rfl, below_alloc _ _⟩
      · have h4 : 2147483647 < x.t.size := by omega
        clear h h3
        go_enter Try.func5, Try.ntmps5
        go_wp2
        go_ret
        exact ⟨rfl, below_alloc _ _⟩
    · have h4 : 2147483647 < x.p.size := by omega
      clear h h2
      go_enter Try.func5, Try.ntmps5
      go_wp2
      go_ret
      exact ⟨rfl, below_alloc _ _⟩
  · have h4 : 2147483647 < x.d.size := by omega
    clear h h1
    go_enter Try.func5, Try.ntmps5
    go_wp2
    go_ret
    exact ⟨rfl, below_alloc _ _⟩
/-- is it short, and has it a path if it has a domain? -/
def R.short (x : R) : Bool := decide (x.sum ≤ 65536 ∧ (x.p.size ≠ 0 ∨ x.d.size = 0))
theorem short_any (x : R) (w : World) (h : x.Fits) (b : Bool) (hb : Hid (x.short = b)) : Calls Try.prog 7 #[.agg #[.string x.d, .string x.p, .string x.t, .string x.g]] w fun e w' => e = .returned (.bool b) ∧ Below w.heap.size w w' := by
  obtain ⟨h1, h2, h3, h4⟩ := h
  by_cases hs : x.sum ≤ 65536
  · have hs2 : x.d.size + x.p.size + x.t.size + x.g.size ≤ 65536 := hs
    by_cases hp : x.p.size = 0
    · have e1 := empty_true hp
      by_cases hd : x.d.size = 0
      · have e2 := empty_true hd
        obtain rfl : b = true := by rw [← hb.out]; unfold R.short; rw [decide_eq_true_eq]; exact ⟨hs, .inr hd⟩
        clear hs hp hd hb
        go_enter Try.func7, Try.ntmps7
        go_wp2
        go_ret
        exact ⟨rfl, below_alloc _ _⟩
      · have e2 := empty_false hd
        obtain rfl : b = false := by rw [← hb.out]; unfold R.short; rw [decide_eq_false_iff_not]; rintro ⟨_, q | q⟩; exact q hp; exact hd q
        clear hs hp hd hb
        go_enter Try.func7, Try.ntmps7
        go_wp2
        go_ret
        exact ⟨rfl, below_alloc _ _⟩
    · have e1 := empty_false hp
      obtain rfl : b = true := by rw [← hb.out]; unfold R.short; rw [decide_eq_true_eq]; exact ⟨hs, .inl hp⟩
      clear hs hp hb
      go_enter Try.func7, Try.ntmps7
      go_wp2
      go_ret
      exact ⟨rfl, below_alloc _ _⟩
  · have hs2 : ¬ x.d.size + x.p.size + x.t.size + x.g.size ≤ 65536 := hs
    obtain rfl : b = false := by rw [← hb.out]; unfold R.short; rw [decide_eq_false_iff_not]; rintro ⟨q, _⟩; exact hs q
    clear hs hb
    go_enter Try.func7, Try.ntmps7
    go_wp2
    go_ret
    exact ⟨rfl, below_alloc _ _⟩
/-- is there nothing to tell? -/
def R.none (x : R) : Bool := decide (x.p.size = 0 ∧ x.g.size = 0)
def TellRes (x : R) (w : World) (e : Ending) (w' : World) : Prop := (∃ n : Nat, e = .returned (.int .i64 (n : Int)) ∧ (n = 0 ↔ x.none = true)) ∧ Below w.heap.size w w'
theorem tells_any (x : R) (w : World) : Calls Try.prog 8 #[.agg #[.string x.d, .string x.p, .string x.t, .string x.g]] w (TellRes x w) := by
  by_cases hp : x.p.size = 0
  · have e1 := empty_true hp
    by_cases hg : x.g.size = 0
    · have e2 := empty_true hg
      have H := Lib.hid (show x.none = true by unfold R.none; rw [decide_eq_true_eq]; exact ⟨hp, hg⟩)
      clear hp hg
      go_enter Try.func8, Try.ntmps8
      go_wp2
      go_ret
      exact ⟨⟨0, rfl, ⟨fun _ => H.out, fun _ => rfl⟩⟩, below_alloc _ _⟩
    · have e2 := empty_false hg
      have H := Lib.hid (show x.none = false by unfold R.none; rw [decide_eq_false_iff_not]; exact fun q => hg q.2)
      clear hp hg
      go_enter Try.func8, Try.ntmps8
      go_wp2
      go_ret
      exact ⟨⟨4, rfl, ⟨(fun q => by cases q), (fun q => by rw [H.out] at q; cases q)⟩⟩, below_alloc _ _⟩
  · have e1 := empty_false hp
    have H := Lib.hid (show x.none = false by unfold R.none; rw [decide_eq_false_iff_not]; exact fun q => hp q.1)
    clear hp
    by_cases hg : x.g.size = 0
    · have e2 := empty_true hg
      clear hg
      by_cases ht : x.t.size = 0
      · have e3 := empty_true ht
        clear ht
        go_enter Try.func8, Try.ntmps8
        go_wp2
        go_ret
        exact ⟨⟨1, rfl, ⟨(fun q => by cases q), (fun q => by rw [H.out] at q; cases q)⟩⟩, below_alloc _ _⟩
      · have e3 := empty_false ht
        clear ht
        go_enter Try.func8, Try.ntmps8
        go_wp2
        go_ret
        exact ⟨⟨3, rfl, ⟨(fun q => by cases q), (fun q => by rw [H.out] at q; cases q)⟩⟩, below_alloc _ _⟩
    · have e2 := empty_false hg
      clear hg
      by_cases ht : x.t.size = 0
      · have e3 := empty_true ht
        clear ht
        go_enter Try.func8, Try.ntmps8
        go_wp2
        go_ret
        exact ⟨⟨5, rfl, ⟨(fun q => by cases q), (fun q => by rw [H.out] at q; cases q)⟩⟩, below_alloc _ _⟩
      · have e3 := empty_false ht
        clear ht
        go_enter Try.func8, Try.ntmps8
        go_wp2
        go_ret
        exact ⟨⟨7, rfl, ⟨(fun q => by cases q), (fun q => by rw [H.out] at q; cases q)⟩⟩, below_alloc _ _⟩
end Go.Proofs.Ytlkdmbjagiilnaa
