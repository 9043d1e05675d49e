/-
  spec.Compares in plain terms; one term's check says the same of every release.
-/
import Derived.Test.YtagmdhinbkponaaDoorBaseC
namespace Go.Proofs.YtagmdhinbkponaaDoor
open Go.RowKit
set_option maxRecDepth 100000
set_option linter.unusedVariables false

def T.caretN (t : T) : Nat := if t.a ≠ 0 then 1 else if t.b ≠ 0 then 2 else if t.c ≠ 0 then 3 else t.g.toNat
def T.upper (t : T) (x : V) : Int := if t.g = 3 then x.cmp t.ver else x.numsK t.ver t.g.toNat
def T.comp (t : T) (x : V) : Bool :=
  if t.op = 0 then decide (t.upper x = 0) && (decide (t.g = 3) || decide (x.cmp t.ver ≥ 0))
  else if t.op = 1 then decide (t.upper x ≠ 0)
  else if t.op = 2 then decide (t.upper x > 0)
  else if t.op = 3 then decide (x.cmp t.ver < 0)
  else if t.op = 4 then decide (x.cmp t.ver ≥ 0)
  else if t.op = 5 then decide (t.upper x ≤ 0)
  else if t.op = 6 then decide (x.cmp t.ver ≥ 0) && decide (x.numsK t.ver (min 2 t.g.toNat) = 0)
  else decide (x.cmp t.ver ≥ 0) && decide (x.numsK t.ver t.caretN = 0)
theorem numsK_0 (x y : V) : x.numsK y 0 = 0 := by simp [V.numsK, V.nk]
theorem numsK_1 (x y : V) : x.numsK y 1 = M.seg x.a y.a := by
  unfold V.numsK
  simp only [V.nk, V.num]
  by_cases h : M.seg x.a y.a = 0 <;> simp [h]
theorem numsK_2 (x y : V) : x.numsK y 2 = if M.seg x.a y.a ≠ 0 then M.seg x.a y.a else M.seg x.b y.b := by
  unfold V.numsK
  simp only [V.nk, V.num]
  by_cases h : M.seg x.a y.a = 0 <;> by_cases h2 : M.seg x.b y.b = 0 <;> simp [h, h2]
theorem seg_zero {a b : Nat} : M.seg a b = 0 ↔ a = b := M.seg_cmp.iff a b
theorem seg_pos {a b : Nat} : M.seg a b > 0 ↔ b < a := by
  unfold M.seg
  split
  · constructor <;> intro h <;> omega
  · split
    · constructor <;> intro h <;> omega
    · constructor <;> intro h <;> omega
theorem seg_le {a b : Nat} : M.seg a b ≤ 0 ↔ a ≤ b := by
  have := @seg_pos a b
  omega
theorem numsK1_zero {x y : V} : x.numsK y 1 = 0 ↔ x.a = y.a := by rw [numsK_1]; exact seg_zero
theorem numsK2_zero {x y : V} : x.numsK y 2 = 0 ↔ x.a = y.a ∧ x.b = y.b := by
  rw [numsK_2]
  by_cases h : M.seg x.a y.a = 0
  · rw [if_neg (by simp [h]), seg_zero]
    exact ⟨fun k => ⟨seg_zero.1 h, k⟩, fun k => k.2⟩
  · rw [if_pos h]
    exact ⟨fun k => absurd k h, fun k => absurd (seg_zero.2 k.1) h⟩
theorem numsK3_zero {x y : V} : x.numsK y 3 = 0 ↔ x.a = y.a ∧ x.b = y.b ∧ x.c = y.c := by
  rw [numsK_3]
  refine ⟨nums_same, fun ⟨h1, h2, h3⟩ => ?_⟩
  unfold V.nums3
  rw [h1, h2, h3]
  simp [M.seg_cmp.refl]
theorem numsK2_pos {x y : V} : x.numsK y 2 > 0 ↔ y.a < x.a ∨ (x.a = y.a ∧ y.b < x.b) := by
  rw [numsK_2]
  by_cases h : M.seg x.a y.a = 0
  · rw [if_neg (by simp [h]), seg_pos]
    have := seg_zero.1 h
    omega
  · rw [if_pos h, seg_pos]
    have : x.a ≠ y.a := fun k => h (seg_zero.2 k)
    omega
theorem dec_eq {p q : Prop} [Decidable p] [Decidable q] (h : p ↔ q) : decide p = decide q := by
  by_cases hp : p
  · rw [decide_eq_true hp, decide_eq_true (h.1 hp)]
  · rw [decide_eq_false hp, decide_eq_false (fun k => hp (h.2 k))]
theorem beq_nat (a b : Nat) : (a == b) = decide (a = b) := by
  by_cases h : a = b
  · subst h; simp
  · simp [h]
theorem dec_bool {b : Bool} {p : Prop} [Decidable p] (h : b = true ↔ p) : b = decide p := by
  rw [Bool.eq_iff_iff, decide_eq_true_eq]
  exact h
theorem tilde_comp (t : T) (x : V) (hg : t.g = 0 ∨ t.g = 1 ∨ t.g = 2 ∨ t.g = 3) (h0 : t.g = 0 → t.a = 0 ∧ t.b = 0 ∧ t.c = 0) (h3 : t.g = 3 → ¬ (t.a = 0 ∧ t.b = 0 ∧ t.c = 0)) :
    t.tilde x = (decide (x.cmp t.ver ≥ 0) && decide (x.numsK t.ver (min 2 t.g.toNat) = 0)) := by
  obtain ⟨op, g, a, b, c, p⟩ := t
  simp only at hg h0 h3
  unfold T.tilde
  have e : (!decide (x.cmp (T.ver ⟨op, g, a, b, c, p⟩) < 0)) = decide (x.cmp (T.ver ⟨op, g, a, b, c, p⟩) ≥ 0) := by
    rw [← decide_not]; exact dec_eq (by omega)
  rw [e]
  congr 1
  rcases hg with rfl | rfl | rfl | rfl
  · obtain ⟨rfl, rfl, rfl⟩ := h0 rfl
    rw [show min 2 (0 : Int).toNat = 0 from rfl, numsK_0]
    rfl
  · rw [show min 2 (1 : Int).toNat = 1 from rfl, dec_eq numsK1_zero]
    refine dec_bool ?_
    simp [T.minor, T.ver]
  · rw [show min 2 (2 : Int).toNat = 2 from rfl, dec_eq numsK2_zero]
    refine dec_bool ?_
    simp [T.minor, T.patch, T.ver]
  · rw [show min 2 (3 : Int).toNat = 2 from rfl, dec_eq numsK2_zero]
    refine dec_bool ?_
    have := h3 rfl
    simp [T.minor, T.patch, T.ver]
    omega
theorem dirty_0 (op : Int) (a b c : Nat) (p : ByteArray) : T.dirty ⟨op, 0, a, b, c, p⟩ = true ∧ T.minor ⟨op, 0, a, b, c, p⟩ = false ∧ T.patch ⟨op, 0, a, b, c, p⟩ = false := ⟨rfl, rfl, rfl⟩
theorem dirty_1 (op : Int) (a b c : Nat) (p : ByteArray) : T.dirty ⟨op, 1, a, b, c, p⟩ = true ∧ T.minor ⟨op, 1, a, b, c, p⟩ = true ∧ T.patch ⟨op, 1, a, b, c, p⟩ = false := ⟨rfl, rfl, rfl⟩
theorem dirty_2 (op : Int) (a b c : Nat) (p : ByteArray) : T.dirty ⟨op, 2, a, b, c, p⟩ = true ∧ T.minor ⟨op, 2, a, b, c, p⟩ = false ∧ T.patch ⟨op, 2, a, b, c, p⟩ = true := ⟨rfl, rfl, rfl⟩
theorem dirty_3 (op : Int) (a b c : Nat) (p : ByteArray) : T.dirty ⟨op, 3, a, b, c, p⟩ = false ∧ T.minor ⟨op, 3, a, b, c, p⟩ = false ∧ T.patch ⟨op, 3, a, b, c, p⟩ = false := ⟨rfl, rfl, rfl⟩
theorem caret_comp (t : T) (x : V) (hg : t.g = 1 ∨ t.g = 2 ∨ t.g = 3) (h1 : t.g = 1 → t.b = 0 ∧ t.c = 0) (h2 : t.g = 2 → t.c = 0) :
    t.caret x = (decide (x.cmp t.ver ≥ 0) && decide (x.numsK t.ver t.caretN = 0)) := by
  obtain ⟨op, g, a, b, c, p⟩ := t
  simp only at hg h1 h2
  unfold T.caret
  have e : (!decide (x.cmp (T.ver ⟨op, g, a, b, c, p⟩) < 0)) = decide (x.cmp (T.ver ⟨op, g, a, b, c, p⟩) ≥ 0) := by
    rw [← decide_not]; exact dec_eq (by omega)
  rw [e]
  congr 1
  by_cases ha : a = 0
  · by_cases hb : b = 0
    · by_cases hc : c = 0
      · rcases hg with rfl | rfl | rfl
        · have k : T.caretN ⟨op, 1, a, b, c, p⟩ = 1 := by unfold T.caretN; simp [ha, hb, hc]
          rw [k, dec_eq numsK1_zero]
          refine dec_bool ?_
          simp [T.minor, T.ver]
        · have k : T.caretN ⟨op, 2, a, b, c, p⟩ = 2 := by unfold T.caretN; simp [ha, hb, hc]
          rw [k, dec_eq numsK2_zero]
          refine dec_bool ?_
          simp [T.minor, T.patch, T.ver, ha, hb]
        · have k : T.caretN ⟨op, 3, a, b, c, p⟩ = 3 := by unfold T.caretN; simp [ha, hb, hc]
          rw [k, dec_eq numsK3_zero]
          refine dec_bool ?_
          simp [T.minor, T.patch, T.ver, ha, hb, hc]
          omega
      · rcases hg with rfl | rfl | rfl
        · exact absurd (h1 rfl).2 hc
        · exact absurd (h2 rfl) hc
        · have k : T.caretN ⟨op, 3, a, b, c, p⟩ = 3 := by unfold T.caretN; simp [ha, hb, hc]
          rw [k, dec_eq numsK3_zero]
          refine dec_bool ?_
          simp [T.minor, T.patch, T.ver, ha, hb]
          omega
    · rcases hg with rfl | rfl | rfl
      · exact absurd (h1 rfl).1 hb
      all_goals
        have k : ∀ g : Int, T.caretN ⟨op, g, a, b, c, p⟩ = 2 := fun g => by unfold T.caretN; simp [ha, hb]
        rw [k, dec_eq numsK2_zero]
        refine dec_bool ?_
        have hb1 : 0 < b := by omega
        simp [T.minor, T.patch, T.ver, ha, hb1]
  · have k : T.caretN ⟨op, g, a, b, c, p⟩ = 1 := by unfold T.caretN; simp [ha]
    rw [k, dec_eq numsK1_zero]
    refine dec_bool ?_
    have ha1 : 0 < a := by omega
    simp [T.ver, ha1]
theorem above_comp (t : T) (x : V) (hg : t.g = 1 ∨ t.g = 2 ∨ t.g = 3) : t.above x = decide (t.upper x > 0) := by
  obtain ⟨op, g, a, b, c, p⟩ := t
  simp only at hg
  unfold T.above T.upper
  rcases hg with rfl | rfl | rfl
  · refine dec_bool ?_
    rw [show (1 : Int).toNat = 1 from rfl, numsK_1]
    simp only [T.dirty, T.minor, T.patch]
    simp
    have h := @seg_pos x.a (T.ver ⟨op, 1, a, b, c, p⟩).a
    simp [T.ver] at h ⊢
    omega
  · refine dec_bool ?_
    rw [show (2 : Int).toNat = 2 from rfl]
    simp only [T.dirty, T.minor, T.patch]
    simp
    have h := @numsK2_pos x (T.ver ⟨op, 2, a, b, c, p⟩)
    simp [T.ver] at h ⊢
    omega
  · refine dec_bool ?_
    simp only [T.dirty, T.minor, T.patch]
    simp
    have := V.cmp_range x (T.ver ⟨op, 3, a, b, c, p⟩)
    omega
theorem most_comp (t : T) (x : V) (hg : t.g = 1 ∨ t.g = 2 ∨ t.g = 3) : t.most x = decide (t.upper x ≤ 0) := by
  obtain ⟨op, g, a, b, c, p⟩ := t
  simp only at hg
  unfold T.most T.upper
  rcases hg with rfl | rfl | rfl
  · refine dec_bool ?_
    rw [show (1 : Int).toNat = 1 from rfl, numsK_1]
    simp only [T.dirty, T.minor]
    simp
    rw [seg_le]
    simp [T.ver]
  · refine dec_bool ?_
    have h := @numsK2_pos x (T.ver ⟨op, 2, a, b, c, p⟩)
    rw [show (2 : Int).toNat = 2 from rfl]
    simp only [T.dirty, T.minor]
    simp
    simp [T.ver] at h ⊢
    omega
  · refine dec_bool ?_
    simp only [T.dirty, T.minor]
    simp
theorem equal_comp (t : T) (x : V) (hg : t.g = 0 ∨ t.g = 1 ∨ t.g = 2 ∨ t.g = 3) (h0 : t.g = 0 → t.a = 0 ∧ t.b = 0 ∧ t.c = 0) :
    t.equal x = (decide (t.upper x = 0) && (decide (t.g = 3) || decide (x.cmp t.ver ≥ 0))) := by
  unfold T.equal T.upper
  by_cases h3 : t.g = 3
  · have hd : t.dirty = false := by unfold T.dirty; rw [h3]; rfl
    rw [hd, if_neg (by decide), if_pos h3, decide_eq_true h3]
    simp
  · have hd : t.dirty = true := by
      unfold T.dirty
      rw [decide_eq_true (by omega), decide_eq_true (by omega)]
      rfl
    rw [hd, if_pos rfl, if_neg h3, decide_eq_false h3, Bool.false_or, tilde_comp t x hg h0 (fun k => absurd k h3), Bool.and_comm]
    rw [show min 2 t.g.toNat = t.g.toNat by omega]
theorem not_comp (t : T) (x : V) (hg : t.g = 1 ∨ t.g = 2 ∨ t.g = 3) (h2 : t.g = 2 → M.bs x.p = [] ∧ M.bs t.p = []) : t.not x = decide (t.upper x ≠ 0) := by
  obtain ⟨op, g, a, b, c, p⟩ := t
  simp only at hg h2
  unfold T.not T.upper
  rcases hg with rfl | rfl | rfl
  · refine dec_bool ?_
    rw [show (1 : Int).toNat = 1 from rfl]
    have h := @numsK1_zero x (T.ver ⟨op, 1, a, b, c, p⟩)
    simp only [T.dirty, T.minor, T.patch]
    simp [T.ver] at h ⊢
    rw [h]
    omega
  · refine dec_bool ?_
    obtain ⟨h5, h6⟩ := h2 rfl
    rw [show (2 : Int).toNat = 2 from rfl]
    have h := @numsK2_zero x (T.ver ⟨op, 2, a, b, c, p⟩)
    simp only [T.dirty, T.minor, T.patch]
    simp [T.ver, h5, h6] at h ⊢
    rw [h]
    omega
  · refine dec_bool ?_
    simp only [T.dirty]
    simp
/-- what a good term's check says of a release is what spec.Compares says; of a prerelease too, unless != stands ahead of two numbers -/
theorem hold_comp (t : T) (x : V) (hg : t.Good) (hx : M.bs x.p = [] ∨ t.op ≠ 1) : t.hold x = t.comp x := by
  obtain ⟨g1, g2, g3, g4, g5, g6, g7, g8⟩ := hg
  have z0 : t.g = 0 → t.a = 0 ∧ t.b = 0 ∧ t.c = 0 := fun h => ⟨g7 (by omega), g6 (by omega), (g5 (by omega)).1⟩
  unfold T.hold T.comp
  by_cases o0 : t.op = 0
  · rw [if_pos o0, if_pos o0]; exact equal_comp t x g1 z0
  rw [if_neg o0, if_neg o0]
  by_cases o1 : t.op = 1
  · rw [if_pos o1, if_pos o1]
    have hx1 : M.bs x.p = [] := by rcases hx with h | h; · exact h
                                   · exact absurd o1 h
    refine not_comp t x ?_ fun h => ⟨hx1, (g5 (by omega)).2⟩
    rcases g1 with h | h
    · have := g3 h; omega
    · exact h
  rw [if_neg o1, if_neg o1]
  by_cases o2 : t.op = 2
  · rw [if_pos o2, if_pos o2]
    refine above_comp t x ?_
    rcases g1 with h | h
    · have := g3 h; omega
    · exact h
  rw [if_neg o2, if_neg o2]
  by_cases o3 : t.op = 3
  · rw [if_pos o3, if_pos o3]
  rw [if_neg o3, if_neg o3]
  by_cases o4 : t.op = 4
  · rw [if_pos o4, if_pos o4]
  rw [if_neg o4, if_neg o4]
  by_cases o5 : t.op = 5
  · rw [if_pos o5, if_pos o5]
    refine most_comp t x ?_
    rcases g1 with h | h
    · have := g3 h; omega
    · exact h
  rw [if_neg o5, if_neg o5]
  by_cases o6 : t.op = 6
  · rw [if_pos o6, if_pos o6]
    exact tilde_comp t x g1 z0 fun h3 hz => g4 ⟨h3, o6, hz⟩
  rw [if_neg o6, if_neg o6]
  refine caret_comp t x ?_ (fun h => ⟨g6 (by omega), (g5 (by omega)).1⟩) (fun h => (g5 (by omega)).1)
  rcases g1 with h | h
  · have := g3 h; omega
  · exact h
end Go.Proofs.YtagmdhinbkponaaDoor
