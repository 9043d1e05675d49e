/-
  What the printer's items mean: plain facts.
-/
import Derived.Test.YtjipjhpehfbpkaaDoorCStar
import Derived.Test.YtjipjhpehfbpkaaDoorCQuest
namespace Go.Proofs.YtjipjhpehfbpkaaDoor
open Go.RowKit
set_option linter.unusedVariables false
namespace M
/-- no sign stands in the text -/
def Cl (p : Bs) : Prop := ∀ c ∈ p, (48 ≤ c.toNat ∧ c.toNat ≤ 57) ∨ (65 ≤ c.toNat ∧ c.toNat < 128)
theorem Cl.ne {p : Bs} (h : Cl p) (x : UInt8) (hx : x.toNat < 48 ∨ (57 < x.toNat ∧ x.toNat < 65)) : ∀ c ∈ p, c ≠ x := by
  intro c hc e
  subst e
  have := h c hc
  omega
theorem Cl.noStar {p : Bs} (h : Cl p) : ¬ (p = [42] ∨ p = [63]) := by
  rintro (rfl | rfl)
  · exact h.ne 42 (by decide) 42 (by simp) rfl
  · exact h.ne 63 (by decide) 63 (by simp) rfl
theorem vone {b : Bd} {p : Bs} {v : Nat} (h : Cl p) (hi : ion b.nm p = some v) : item b p = fin b v v 1 false :=
  item_bare (splitOn_none 47 p (h.ne 47 (by decide))) (by rw [splitOn_none 45 p (h.ne 45 (by decide))]; exact ends_1 h.noStar hi)
theorem vby {b : Bd} {p d : Bs} {v n : Nat} (h : Cl p) (hi : ion b.nm p = some v) (hd : digits d = true) (hn : num d = some n) : item b (p ++ 47 :: d) = fin b v b.mx n false := by
  have e45 := splitOn_none 45 p (h.ne 45 (by decide))
  have := item_by (b := b) (l := p ++ 47 :: d) (h := p) (t := d) (by rw [splitOn_first 47 p d (h.ne 47 (by decide)), splitOn_none 47 d (digits_ne hd 47 rfl)]) (by rw [e45]; exact ends_1 h.noStar hi) hn
  rw [this, e45]
  rfl
theorem vstar {b : Bd} {d : Bs} {n : Nat} (hd : digits d = true) (hn : num d = some n) : item b (42 :: 47 :: d) = fin b b.mn b.mx n (decide (n ≤ 1)) := by
  have e45 : splitOn 45 [42] = [[42]] := splitOn_none 45 [42] (by decide)
  have := item_by (b := b) (l := [42] ++ 47 :: d) (h := [42]) (t := d) (by rw [splitOn_first 47 [42] d (by decide), splitOn_none 47 d (digits_ne hd 47 rfl)]) (by rw [e45]; exact ends_star (.inl rfl)) hn
  rw [e45] at this
  exact this
theorem vsplit {p q : Bs} (h : Cl p) (hq : Cl q) : splitOn 45 (p ++ 45 :: q) = [p, q] := by
  rw [splitOn_first 45 p q (h.ne 45 (by decide)), splitOn_none 45 q (hq.ne 45 (by decide))]
theorem vno47 {p q : Bs} (h : Cl p) (hq : Cl q) : ∀ c ∈ p ++ 45 :: q, c ≠ 47 := by
  intro c hc
  rcases List.mem_append.1 hc with h1 | h1
  · exact h.ne 47 (by decide) c h1
  · rcases List.mem_cons.1 h1 with rfl | h1
    · decide
    · exact hq.ne 47 (by decide) c h1
theorem vends {b : Bd} {p q : Bs} {s e : Nat} (h : Cl p) (hq : Cl q) (hs : ion b.nm p = some s) (he : ion b.nm q = some e) : ends b (splitOn 45 (p ++ 45 :: q)) = some (s, e, false) := by
  rw [vsplit h hq, ends_2 h.noStar hs, he]
theorem vrange {b : Bd} {p q : Bs} {s e : Nat} (h : Cl p) (hq : Cl q) (hs : ion b.nm p = some s) (he : ion b.nm q = some e) : item b (p ++ 45 :: q) = fin b s e 1 false :=
  item_bare (splitOn_none 47 _ (vno47 h hq)) (vends h hq hs he)
theorem vstep {b : Bd} {p q d : Bs} {s e n : Nat} (h : Cl p) (hq : Cl q) (hs : ion b.nm p = some s) (he : ion b.nm q = some e) (hd : digits d = true) (hn : num d = some n) : item b (p ++ 45 :: q ++ 47 :: d) = fin b s e n false := by
  have := item_by (b := b) (l := p ++ 45 :: q ++ 47 :: d) (h := p ++ 45 :: q) (t := d) (by rw [splitOn_first 47 _ d (vno47 h hq), splitOn_none 47 d (digits_ne hd 47 rfl)]) (vends h hq hs he) hn
  rw [this, vsplit h hq]
  rfl
/-- bounds that hold make a mask -/
theorem fin_ok {b : Bd} {s e st : Nat} (h1 : b.mn ≤ s) (h2 : s ≤ e) (h3 : e ≤ b.mx) (h4 : 1 ≤ st) : fin b s e st false = some (gbits s e st) := by
  unfold fin
  rw [if_neg (by omega)]
  simp
end M
end Go.Proofs.YtjipjhpehfbpkaaDoor
