/-
  strings.HasPrefix, strings.TrimPrefix at the official namespace; familiarizeName; spec.RefFamiliarize.
-/
import Derived.Test.YtmjipdcohkiblaaDoorRefW
namespace Go.Proofs.YtmjipdcohkiblaaDoor
open Go.RowKit
set_option maxRecDepth 100000
set_option linter.unusedVariables false

theorem lit_off (s : ByteArray) : (s.toList == [108, 105, 98, 114, 97, 114, 121, 47]) = decide (M.bs s = M.bs offB) := by
  rw [toList_bs, Bool.eq_iff_iff, beq_iff_eq, decide_eq_true_eq]
  rfl
theorem lit_hub (s : ByteArray) : (s.toList == [100, 111, 99, 107, 101, 114, 46, 105, 111]) = decide (M.bs s = M.bs hubB) := by
  rw [toList_bs, Bool.eq_iff_iff, beq_iff_eq, decide_eq_true_eq]
  rfl
def pre8 (s : ByteArray) : Bool := decide (8 ≤ s.size ∧ M.bs (s.extract 0 8) = M.bs offB)
theorem hasPre_any (s : ByteArray) (w : World) (hs : s.size ≤ 2147483647) (b : Bool) (hb : Hid (pre8 s = b)) :
    Calls Tryd.prog 45 #[.string s, .string ⟨#[108, 105, 98, 114, 97, 114, 121, 47]⟩] w fun e w' => e = .returned (.bool b) ∧ w = w' := by
  by_cases h8 : 8 ≤ s.size
  · have hl := lit_off (s.extract 0 8)
    have hq : decide (M.bs (s.extract 0 8) = M.bs offB) = b := by rw [← hb.out]; unfold pre8; simp [h8]
    rw [hq] at hl
    clear hq hb
    go_enter Tryd.func45, Tryd.ntmps45
    go_wp2
    go_ret
    exact ⟨by rfl, rfl⟩
  · have hq : b = false := by rw [← hb.out]; unfold pre8; simp [h8]
    subst hq
    clear hb
    go_enter Tryd.func45, Tryd.ntmps45
    go_wp2
    go_ret
    exact ⟨rfl, rfl⟩
theorem hasPrefix_any (s : ByteArray) (w : World) (hs : s.size ≤ 2147483647) (b : Bool) (hb : Hid (pre8 s = b)) :
    Calls Tryd.prog 42 #[.string s, .string ⟨#[108, 105, 98, 114, 97, 114, 121, 47]⟩] w fun e w' => e = .returned (.bool b) ∧ w = w' := by
  go_enter Tryd.func42, Tryd.ntmps42
  go_wp2_with (go_at_call 45; (with_reducible refine (hasPre_any s _ hs b hb).mono ?_); rintro e w1 ⟨rfl, rfl⟩)
  go_ret
  exact ⟨rfl, rfl⟩
theorem trimPrefix_any (s : ByteArray) (w : World) (hs : s.size ≤ 2147483647) (hb : Hid (pre8 s = true)) (h8 : 8 ≤ s.size) :
    Calls Tryd.prog 43 #[.string s, .string ⟨#[108, 105, 98, 114, 97, 114, 121, 47]⟩] w fun e w' => e = .returned (.string (s.extract 8 s.size)) ∧ w = w' := by
  have HT : Hid (∀ w : World, Calls Tryd.prog 46 #[.string s, .string ⟨#[108, 105, 98, 114, 97, 114, 121, 47]⟩] w fun e w' => e = .returned (.string (s.extract 8 s.size)) ∧ w = w') := Lib.hid (fun w => by
    go_enter Tryd.func46, Tryd.ntmps46
    go_wp2_with (go_at_call 45; (with_reducible refine (hasPre_any s _ hs true hb).mono ?_); rintro e w1 ⟨rfl, rfl⟩)
    go_ret
    exact ⟨rfl, rfl⟩)
  go_enter Tryd.func43, Tryd.ntmps43
  go_wp2_with (go_at_call 46; (with_reducible refine (HT.out _).mono ?_); rintro e w1 ⟨rfl, rfl⟩)
  go_ret
  exact ⟨rfl, rfl⟩
theorem famP_no {p : ByteArray} (h : pre8 p = false) : famP p = p := by
  unfold famP pre8 at *
  rw [decide_eq_false_iff_not] at h
  rw [if_neg (fun q => h ⟨q.1, q.2.1⟩)]
theorem famP_slash {p : ByteArray} (h : M.slash (p.extract 8 p.size) = true) : famP p = p := by
  unfold famP
  rw [if_neg (fun q => by rw [q.2.2] at h; cases h)]
theorem famP_yes {p : ByteArray} (h : pre8 p = true) (h2 : M.slash (p.extract 8 p.size) = false) : famP p = p.extract 8 p.size := by
  unfold famP pre8 at *
  rw [decide_eq_true_eq] at h
  rw [if_pos ⟨h.1, h.2, h2⟩]
theorem pre8_size {p : ByteArray} (h : pre8 p = true) : 8 ≤ p.size := by
  unfold pre8 at h
  rw [decide_eq_true_eq] at h
  exact h.1
/-- what a familiar name is made of -/
theorem fam_out {d : ByteArray} (h : M.bs d ≠ M.bs hubB) (p : ByteArray) : famD d = d ∧ famPath d p = p := ⟨if_neg h, if_neg h⟩
theorem fam_in {d : ByteArray} (h : M.bs d = M.bs hubB) (p : ByteArray) : famD d = ⟨#[]⟩ ∧ famPath d p = famP p := ⟨if_pos h, if_pos h⟩
theorem loose_of {w : World} {N : Nat} {t : TypeId} {cs : Array Value} (h : w.heap[N]? = some (.cells cs t (0, 0))) (j : Nat) : w.frozen? ⟨N, j, none⟩ = false := by
  simp [World.frozen?, h]
theorem heap_size_set (w : World) (a : Addr) (v : Value) : (w.setCell a v).heap.size = w.heap.size := by simp [World.setCell]
theorem oth_set {W : World} {N M j : Nat} {t : TypeId} {cs : Array Value} {v : Value} (hne : N ≠ M) (h : W.heap[M]? = some (.cells cs t (0, 0))) : (W.setCell ⟨N, j, none⟩ v).heap[M]? = some (.cells cs t (0, 0)) := by
  rw [heap_setCell_other W ⟨N, j, none⟩ M v (fun e => hne e.symm)]
  exact h
theorem fam_post {fn : Func} {p : Tmp} (h : fn.results = #[.cell p 49]) {R : Ending → World → Prop} {a : Act} {W : World} (N2 : Nat) (x y u v : Value) (hd : a.defers = []) (hp : a.tmps.getD p undef = .pointer (some ⟨N2, 0, none⟩))
    (h2 : W.heap[N2]? = some (.cells #[u, v] 49 (0, 0))) (hR : R (.returned (.agg #[x, y])) ((W.setCell ⟨N2, 0, none⟩ x).setCell ⟨N2, 1, none⟩ y)) : bodyPost Tryd.prog fn R .ret a ((W.setCell ⟨N2, 0, none⟩ x).setCell ⟨N2, 1, none⟩ y) := by
  have h0 := heap_setCell_same W N2 0 _ _ x h2
  have h1 := heap_setCell_same _ N2 1 _ _ y h0
  have h3 : ((W.setCell ⟨N2, 0, none⟩ x).setCell ⟨N2, 1, none⟩ y).heap[N2]? = some (.cells #[x, y] 49 (0, 0)) := by simpa using h1
  exact bodyPost_ret (results_cell_row h _ _ N2 _ _ (0, 0) _ hp h3 Tryd.underlying49 rfl (by kernel_rfl)) hd hR
theorem keep_set {W w5 : World} {N : Nat} {t : TypeId} {x y v : Value} (h : W.heap[N]? = some (.cells #[x, y] t (0, 0))) (b : Below (W.setCell ⟨N, 0, none⟩ v).heap.size (W.setCell ⟨N, 0, none⟩ v) w5) : w5.heap[N]? = some (.cells #[v, y] t (0, 0)) := by
  refine heap_below b ?_
  have := heap_setCell_same W N 0 _ _ v h
  simpa using this
theorem keep_oth {W w5 : World} {N M : Nat} {t : TypeId} {x y v : Value} (hne : N ≠ M) (h : W.heap[M]? = some (.cells #[x, y] t (0, 0))) (b : Below (W.setCell ⟨N, 0, none⟩ v).heap.size (W.setCell ⟨N, 0, none⟩ v) w5) : w5.heap[M]? = some (.cells #[x, y] t (0, 0)) := by
  refine heap_below b ?_
  rw [heap_setCell_other W ⟨N, 0, none⟩ M v (fun e => hne e.symm)]
  exact h
def FamRes (d p : ByteArray) (w : World) (e : Ending) (w' : World) : Prop := e = .returned (.agg #[.string (famD d), .string (famPath d p)]) ∧ Below w.heap.size w w'
theorem domain_any (d p : ByteArray) (w : World) : Calls Tryd.prog 37 #[.agg #[.string d, .string p]] w fun e w' => e = .returned (.string d) ∧ Below w.heap.size w w' := by
  go_enter Tryd.func37, Tryd.ntmps37
  go_wp2
  go_ret
  exact ⟨rfl, below_alloc _ _⟩
theorem path_any (d p : ByteArray) (w : World) : Calls Tryd.prog 59 #[.agg #[.string d, .string p]] w fun e w' => e = .returned (.string p) ∧ Below w.heap.size w w' := by
  go_enter Tryd.func59, Tryd.ntmps59
  go_wp2
  go_ret
  exact ⟨rfl, below_alloc _ _⟩
theorem familiarize_any (d p : ByteArray) (w : World) (hp : p.size ≤ 2147483647) :
    Calls Tryd.prog 41 #[.iface 49 (.agg #[.string d, .string p])] w (FamRes d p w) := by
  go_enter Tryd.func41, Tryd.ntmps41
  go_upto_region 2 with (first
    | (go_at_call 37; (with_reducible refine (domain_any d p _).mono ?_); rintro e w1 ⟨rfl, hb⟩; have HB1 := Lib.hid hb; clear hb)
    | (go_at_call 59; (with_reducible refine (path_any d p _).mono ?_); rintro e w2 ⟨rfl, hb⟩; have HB2 := Lib.hid hb; clear hb))
  have h3 := alloc_at w2 (.cells #[.string d, .string p] 49) _ rfl
  have h2 : (w2.alloc (.cells #[.string d, .string p] 49)).heap[w.heap.size]? = some (.cells #[.string ⟨#[]⟩, .string ⟨#[]⟩] 49) := heap_below (below_alloc _ _) (heap_below HB2.out (heap_below HB1.out (alloc_at _ _ _ rfl)))
  have hB : Below w.heap.size w (w2.alloc (.cells #[.string d, .string p] 49)) := Below.up (Below.up (Below.up (below_alloc _ _) HB1.out) HB2.out) (below_alloc _ _)
  have hn : w.heap.size < w2.heap.size := by
    have a := HB1.out.size
    have b := HB2.out.size
    have c : (w.alloc (.cells #[.string ⟨#[]⟩, .string ⟨#[]⟩] 49)).heap.size = w.heap.size + 1 := by show (w.heap.push _).size = _; simp
    omega
  obtain ⟨N3, hN3⟩ : ∃ n, w2.heap.size = n := ⟨_, rfl⟩
  obtain ⟨N2, hN2⟩ : ∃ n, w.heap.size = n := ⟨_, rfl⟩
  generalize hW : (w2.alloc (.cells #[.string d, .string p] 49)) = W at *
  rw [hN3] at h3 hn ⊢
  rw [hN2] at h2 hn ⊢
  have c0 := row_cell h3 0 (.string d) rfl
  have c1 := row_cell h3 1 (.string p) rfl
  have l0 := loose_of h3 0
  have l1 := loose_of h3 1
  have d0 := row_cell h2 0 (.string ⟨#[]⟩) rfl
  have d1 := row_cell h2 1 (.string ⟨#[]⟩) rfl
  have m0 := loose_of h2 0
  have m1 := loose_of h2 1
  have hne : N2 ≠ N3 := by omega
  have hne2 : N3 ≠ N2 := by omega
  have HB := Lib.hid hB
  have HH3 := Lib.hid h3
  have HH2 := Lib.hid h2
  have HNE := Lib.hid hne2
  have HN2 := Lib.hid (show w.heap.size ≤ N2 by omega)
  have HN3 := Lib.hid (show w.heap.size ≤ N3 by omega)
  have lh := lit_hub d
  clear HB1 HB2 h3 h2 hB hn hN3 hN2 hW
  by_cases hd : M.bs d = M.bs hubB
  · obtain ⟨x1, x2⟩ := fam_in hd p
    rw [decide_eq_true hd] at lh
    have HX := Lib.hid (And.intro x1 x2)
    clear x1 x2 hd
    cases hp8 : pre8 p with
    | false =>
      have H8 := Lib.hid hp8
      have HF := Lib.hid (famP_no hp8)
      clear hp8
      go_wp2_with (go_at_call 42; (with_reducible refine (hasPrefix_any p _ hp false H8).mono ?_); rintro e w4 ⟨rfl, rfl⟩)
      refine fam_post rfl N2 (.string ⟨#[]⟩) (.string p) _ _ rfl rfl (oth_set HNE.out HH2.out) ?_
      refine ⟨by rw [HX.out.1, HX.out.2, HF.out], ?_⟩
      exact ((HB.out.setCell (p := ⟨N3, 0, none⟩) HN3.out _).setCell (p := ⟨N2, 0, none⟩) HN2.out _).setCell (p := ⟨N2, 1, none⟩) HN2.out _
    | true =>
      have H8 := Lib.hid hp8
      have hp9 := pre8_size hp8
      have hq : (p.extract 8 p.size).size ≤ 2147483647 := by rw [ByteArray.size_extract]; omega
      have HP8 := Lib.hid hp8
      have HQ := Lib.hid hq
      have HP9 := Lib.hid hp9
      clear hp8 hq hp9
      cases hs : M.slash (p.extract 8 p.size) with
      | true =>
        have HS := Lib.hid hs
        have HF := Lib.hid (famP_slash hs)
        clear hs
        go_wp2_with (first
          | (go_at_call 42; (with_reducible refine (hasPrefix_any p _ hp true H8).mono ?_); rintro e w4 ⟨rfl, rfl⟩)
          | (go_at_call 43; (with_reducible refine (trimPrefix_any p _ hp H8 HP9.out).mono ?_); rintro e w4 ⟨rfl, rfl⟩)
          | (go_at_call 44; (with_reducible refine (contains_any _ _ HQ.out true HS).mono ?_); rintro e w5 ⟨rfl, hb⟩; have k3 := keep_set HH3.out hb; have k2 := keep_oth HNE.out HH2.out hb; have HB5 := Lib.hid (HB.out.trans (((Below.refl w.heap.size W).setCell (p := ⟨N3, 0, none⟩) HN3.out _).trans (hb.mono (by rw [heap_size_set]; exact HB.out.size)))); clear hb c0 c1 l0 l1 d0 d1 m0 m1; have c0 := row_cell k3 0 (.string ⟨#[]⟩) rfl; have c1 := row_cell k3 1 (.string p) rfl; have l0 := loose_of k3 0; have l1 := loose_of k3 1; have d0 := row_cell k2 0 (.string ⟨#[]⟩) rfl; have d1 := row_cell k2 1 (.string ⟨#[]⟩) rfl; have m0 := loose_of k2 0; have m1 := loose_of k2 1; have HK2 := Lib.hid k2; clear k2 k3))
        refine fam_post rfl N2 (.string ⟨#[]⟩) (.string p) _ _ rfl rfl HK2.out ?_
        refine ⟨by rw [HX.out.1, HX.out.2, HF.out], ?_⟩
        exact (HB5.out.setCell (p := ⟨N2, 0, none⟩) HN2.out _).setCell (p := ⟨N2, 1, none⟩) HN2.out _
      | false =>
        have HS := Lib.hid hs
        have HF := Lib.hid (famP_yes HP8.out hs)
        clear hs
        go_wp2_with (first
          | (go_at_call 42; (with_reducible refine (hasPrefix_any p _ hp true H8).mono ?_); rintro e w4 ⟨rfl, rfl⟩)
          | (go_at_call 43; (with_reducible refine (trimPrefix_any p _ hp H8 HP9.out).mono ?_); rintro e w4 ⟨rfl, rfl⟩)
          | (go_at_call 44; (with_reducible refine (contains_any _ _ HQ.out false HS).mono ?_); rintro e w5 ⟨rfl, hb⟩; have k3 := keep_set HH3.out hb; have k2 := keep_oth HNE.out HH2.out hb; have HB5 := Lib.hid (HB.out.trans (((Below.refl w.heap.size W).setCell (p := ⟨N3, 0, none⟩) HN3.out _).trans (hb.mono (by rw [heap_size_set]; exact HB.out.size)))); clear hb c0 c1 l0 l1 d0 d1 m0 m1; have c0 := row_cell k3 0 (.string ⟨#[]⟩) rfl; have c1 := row_cell k3 1 (.string p) rfl; have l0 := loose_of k3 0; have l1 := loose_of k3 1; have d0 := row_cell k2 0 (.string ⟨#[]⟩) rfl; have d1 := row_cell k2 1 (.string ⟨#[]⟩) rfl; have m0 := loose_of k2 0; have m1 := loose_of k2 1; have HK2 := Lib.hid k2; clear k2 k3))
        refine fam_post rfl N2 (.string ⟨#[]⟩) (.string (p.extract 8 p.size)) _ _ rfl rfl (oth_set HNE.out HK2.out) ?_
        refine ⟨by rw [HX.out.1, HX.out.2, HF.out], ?_⟩
        exact ((HB5.out.setCell (p := ⟨N3, 1, none⟩) HN3.out _).setCell (p := ⟨N2, 0, none⟩) HN2.out _).setCell (p := ⟨N2, 1, none⟩) HN2.out _
  · obtain ⟨x1, x2⟩ := fam_out hd p
    rw [decide_eq_false hd] at lh
    have HX := Lib.hid (And.intro x1 x2)
    clear x1 x2 hd
    go_wp2
    refine fam_post rfl N2 (.string d) (.string p) _ _ rfl rfl HH2.out ?_
    refine ⟨by rw [HX.out.1, HX.out.2], ?_⟩
    exact (HB.out.setCell (p := ⟨N2, 0, none⟩) HN2.out _).setCell (p := ⟨N2, 1, none⟩) HN2.out _
end Go.Proofs.YtmjipdcohkiblaaDoor
