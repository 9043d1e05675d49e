/-
  spec.CronUnion.
-/
import Derived.Test.YtjipjhpehfbpkaaDoorCSet
namespace Go.Proofs.YtjipjhpehfbpkaaDoor
open Go.RowKit
set_option maxRecDepth 100000
set_option linter.unusedVariables false

/-- the values of a set, as an array by value -/
def tailA (f : Nat → Bool) : Array Value := ((setL f).drop 1).toArray
theorem wpList_tail_load {ops : Array Oper} {rest : List Oper} {op : Oper} {a : Act} {w : World} {Q : Exit → Act → World → Prop} (hgd : op.guard = none) (x : Operand) (ho : op.op = .load 25 x)
    (N : Nat) (f : Nat → Bool) (hx : a.eval x = .pointer (some ⟨N, 1, none⟩)) (h : SetAt w N f)
    (hK : wpList Tryd.prog ops Q rest (a.put op.dst (.agg (tailA f))) w) : wpList Tryd.prog ops Q (op :: rest) a w :=
  wpList_load_mid hgd _ x ho N 1 hx ((setL f).drop 1) _ (fun j v hv => by
    rw [List.getElem?_drop] at hv
    have := h.has _ _ hv
    rw [Nat.zero_add] at this
    exact this) Tryd.underlying25 rfl (by rw [List.length_drop, setL_len]; kernel_rfl) hK
theorem bool_size : (Tryd.prog.info? 4).map (·.size) = some 1 := by kernel_rfl
theorem tail_index (f : Nat → Bool) (k : Nat) (hk : k < 63) (w : World) : (Instr.index 25 (.agg (tailA f)) (.int .i64 (k : Int))).run Tryd.prog w = .ok (.bool (f (k + 1))) w := by
  have hg : (tailA f)[k]? = some (.bool (f (k + 1))) := by
    unfold tailA
    simp only [List.getElem?_toArray, List.getElem?_drop]
    rw [Nat.add_comm]
    exact setL_get f (k + 1) (by omega)
  have hi : 0 ≤ (k : Int) ∧ (k : Int) < 63 := by omega
  have hj : ¬ 63 ≤ k := by omega
  cases hq : Tryd.prog.info? 4 with
  | none => have := bool_size; rw [hq] at this; cases this
  | some i =>
    have hs : i.size = 1 := by have := bool_size; rw [hq] at this; simpa using this
    simp [Instr.index, asIntOf, run_underlying Tryd.underlying25, hi, hj, sizeOf, typeInfo, hq, hs, part, isAgg, run_underlying Tryd.underlying4, hg, go_sem]
/-- the set behind k rounds -/
def uniF (f g : Nat → Bool) (k : Nat) : Nat → Bool := fun i => if 1 ≤ i ∧ i ≤ k then f i || g i else f i
theorem uniF_0 (f g : Nat → Bool) : uniF f g 0 = f := by
  funext i
  unfold uniF
  rw [if_neg (by omega)]
theorem uniF_ge (f g : Nat → Bool) {k i : Nat} (h : k + 1 ≤ i) : uniF f g k i = f i := by
  unfold uniF
  rw [if_neg (by omega)]
structure UniSt (N0 : Nat) (f g : Nat → Bool) (k : Nat) (w wr : World) : Prop where
  at0 : SetAt wr N0 (uniF f g k)
  at1 : SetAt wr (N0 + 1) g
  at2 : SetAt wr (N0 + 1 + 1) noneF
  bel : Below w.heap.size w wr
theorem UniSt.step {N0 : Nat} {f g : Nat → Bool} {k : Nat} {w wr : World} (h : UniSt N0 f g k w wr) (hN : w.heap.size = N0) (hk : k < 63) (b : Bool) (hb : b = (f (k + 1) || g (k + 1))) :
    UniSt N0 f g (k + 1) w (wr.setCell ⟨N0, 1 + k, none⟩ (.bool b)) := by
  refine ⟨?_, h.at1.other (by omega) _ _, h.at2.other (by omega) _ _, h.bel.setCell (by rw [hN]; exact Nat.le_refl _) _⟩
  have := h.at0.set (1 + k) (by omega) b
  have e : (fun i => if i = 1 + k then b else uniF f g k i) = uniF f g (k + 1) := by
    funext i
    by_cases q : i = 1 + k
    · subst q
      rw [if_pos rfl, hb]
      unfold uniF
      rw [if_pos (by omega), Nat.add_comm]
    · rw [if_neg q]
      unfold uniF
      by_cases z : 1 ≤ i ∧ i ≤ k
      · rw [if_pos z, if_pos (by omega)]
      · rw [if_neg z, if_neg (by omega)]
  rw [e] at this
  exact this
set_option maxHeartbeats 2000000 in
theorem union_any (f g : Nat → Bool) (w : World) : Calls Tryd.prog 20 #[.agg (setL f).toArray, .agg (setL g).toArray] w fun e w' => e = .returned (setV (fun i => f i || g i)) ∧ Below w.heap.size w w' := by
  go_enter Tryd.func20, Tryd.ntmps20
  go_upto_region 1 with fail
  have S0 : Hid (SetAt (((w.alloc (.cells (setL f).toArray 27)).alloc (.cells (setL g).toArray 27)).alloc (.cells (setL noneF).toArray 27)) w.heap.size f) := Lib.hid (((SetAt.new w f _ rfl).alloc _).alloc _)
  have S1 : Hid (SetAt (((w.alloc (.cells (setL f).toArray 27)).alloc (.cells (setL g).toArray 27)).alloc (.cells (setL noneF).toArray 27)) (w.heap.size + 1) g) := Lib.hid ((by have := SetAt.new (w.alloc (.cells (setL f).toArray 27)) g 27 rfl; rw [heap_size_alloc] at this; exact this : SetAt _ (w.heap.size + 1) g).alloc _)
  have S2 : Hid (SetAt (((w.alloc (.cells (setL f).toArray 27)).alloc (.cells (setL g).toArray 27)).alloc (.cells (setL noneF).toArray 27)) (w.heap.size + 1 + 1) noneF) := Lib.hid (by have := SetAt.new ((w.alloc (.cells (setL f).toArray 27)).alloc (.cells (setL g).toArray 27)) noneF 27 rfl; rw [heap_size_alloc, heap_size_alloc] at this; exact this)
  have B0 : Hid (Below w.heap.size w (((w.alloc (.cells (setL f).toArray 27)).alloc (.cells (setL g).toArray 27)).alloc (.cells (setL noneF).toArray 27))) := Lib.hid (((below_alloc _ _).alloc (by rw [heap_size_alloc]; omega) _).alloc (by rw [heap_size_alloc, heap_size_alloc]; omega) _)
  generalize hw3 : (((w.alloc (.cells (setL f).toArray 27)).alloc (.cells (setL g).toArray 27)).alloc (.cells (setL noneF).toArray 27)) = w3 at *
  simp only [zero_set] at *
  rw [hw3]
  clear hw3
  obtain ⟨N0, h0⟩ : ∃ n, w.heap.size = n := ⟨_, rfl⟩
  rw [h0] at S0 S1 S2 ⊢
  have H0 := Lib.hid h0
  clear h0
  go_wp2_with (with_reducible refine wpList_tail_load rfl _ rfl (N0 + 1) g rfl S1.out ?_)
  go_loopw [9] (fun i wr => ∃ k : Nat, k ≤ 63 ∧ i = .int .i64 (k : Int) ∧ Hid (UniSt N0 f g k w wr)) (fun i _ => 63 - (intOf i).toNat)
  case atStart => exact ⟨0, by omega, rfl, Lib.hid ⟨by rw [uniF_0]; exact S0.out, S1.out, S2.out, B0.out⟩⟩
  case round =>
    obtain ⟨k, hk, rfl, HR⟩ := hrel
    clear S0 S1 S2 B0
    by_cases hlt : k < 63
    · have hki : (k : Int) < 63 := by omega
      have hk0 : (0 : Int) ≤ (k : Int) := by omega
      have ix := fun w => tail_index g k hlt w
      obtain ⟨a, ha⟩ : ∃ a, f (k + 1) = a := ⟨_, rfl⟩
      obtain ⟨b, hb⟩ : ∃ b, g (k + 1) = b := ⟨_, rfl⟩
      have c0 : wr.cell? ⟨N0, 1 + k, none⟩ = some (.bool a) := by
        have := HR.out.at0.cell (k + 1) (by omega)
        rw [uniF_ge _ _ (Nat.le_refl _), ha] at this
        rw [Nat.add_comm]
        exact this
      have l0 : wr.frozen? ⟨N0, 1 + k, none⟩ = false := HR.out.at0.loose _
      simp only [hb] at ix
      have HA := Lib.hid ha
      have HB := Lib.hid hb
      clear ha hb
      cases a
      all_goals
        go_wp2
        refine ⟨⟨k + 1, by omega, by go_num, Lib.hid (HR.out.step H0.out hlt _ ?_)⟩, by simp [intOf]; omega⟩
        rw [HA.out, HB.out]
        rfl
    · have hk3 : k = 63 := by omega
      subst hk3
      obtain ⟨a, ha⟩ : ∃ a, f 0 = a := ⟨_, rfl⟩
      obtain ⟨b, hb⟩ : ∃ b, g 0 = b := ⟨_, rfl⟩
      have c0 : wr.cell? ⟨N0, 0, none⟩ = some (.bool a) := by
        have := HR.out.at0.cell 0 (by omega)
        rw [← ha]
        exact this
      have c1 : wr.cell? ⟨N0 + 1, 0, none⟩ = some (.bool b) := by
        have := HR.out.at1.cell 0 (by omega)
        rw [← hb]
        exact this
      have l0 : wr.frozen? ⟨N0, 0, none⟩ = false := HR.out.at0.loose _
      have H1 : ∀ c, c = (a || b) → Hid (SetAt (wr.setCell ⟨N0, 0, none⟩ (.bool c)) N0 (fun i => f i || g i)) := fun c hc => Lib.hid (by
        have h := HR.out.at0.set 0 (by omega) c
        refine ⟨h.lt, ?_, h.loose⟩
        have e : setL (fun i => if i = 0 then c else uniF f g 63 i) = setL (fun i => f i || g i) := setL_congr (fun i hi => by
          by_cases q : i = 0
          · subst q
            rw [if_pos rfl, hc, ha, hb]
          · rw [if_neg q]
            unfold uniF
            rw [if_pos (by omega)])
        rw [← e]
        exact h.has)
      have H2 : Hid (∀ c, SetAt (wr.setCell ⟨N0, 0, none⟩ (.bool c)) (N0 + 1 + 1) noneF) := Lib.hid (fun c => HR.out.at2.other (by omega) _ _)
      have H4 : Hid (∀ c, Below w.heap.size w (wr.setCell ⟨N0, 0, none⟩ (.bool c))) := Lib.hid (fun c => HR.out.bel.setCell (by rw [H0.out]; exact Nat.le_refl _) _)
      have H5 : Hid (w.heap.size ≤ N0 + 1 + 1) := Lib.hid (by rw [H0.out]; omega)
      clear ha hb
      obtain ⟨u, hu⟩ : ∃ u, (fun i => f i || g i) = u := ⟨_, rfl⟩
      rw [hu] at H1
      have HU := Lib.hid hu
      clear hu
      cases a
      all_goals
        first | replace H1 := H1 b rfl | replace H1 := H1 true rfl
        go_wp2_with (first
          | (with_reducible refine wpList_set_load rfl _ rfl N0 u rfl H1.out ?_)
          | (refine wpList_set_store rfl _ _ rfl (N0 + 1 + 1) noneF u (by kernel_rfl) (by kernel_rfl) (H2.out _) ?_; intro W hW; have HW := Lib.hid (And.intro hW.it (hW.bel H5.out (H4.out _))); clear hW))
        refine bodyPost_ret (results_set1 rfl _ _ (N0 + 1 + 1) u rfl HW.out.1) rfl ⟨by rw [HU.out], HW.out.2⟩
end Go.Proofs.YtjipjhpehfbpkaaDoor
