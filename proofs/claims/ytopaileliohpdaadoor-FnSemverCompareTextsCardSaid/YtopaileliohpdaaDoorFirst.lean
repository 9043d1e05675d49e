/-
  Behind a common head the first identifiers that differ decide: plain facts.
-/
import Derived.Test.YtopaileliohpdaaDoorCmp
namespace Go.Proofs.YtopaileliohpdaaDoor
namespace M
def headed (h a : Bs) : Bs := if h = [] then a else h ++ 46 :: a
def tailed (r : Bs) : Bs := if r = [] then [] else 46 :: r
theorem cmpL_common {α : Type} (f : α → α → Int) (hz : ∀ a, f a a = 0) (a b : α) (r t : List α) (hab : f a b ≠ 0) : ∀ h : List α, cmpL f (h ++ a :: r) (h ++ b :: t) = f a b
  | [] => by simp only [List.nil_append, cmpL, if_neg hab]
  | c :: h => by
    simp only [List.cons_append, cmpL, hz, if_true]
    exact cmpL_common f hz a b r t hab h
theorem id_dots {a : Bs} (h : validId a = true) : ∀ c ∈ a, c ≠ 46 := by
  simp only [validId, Bool.and_eq_true, List.all_eq_true] at h
  intro c hc e
  have := h.2 c hc
  rw [e] at this
  exact absurd this (by decide)
theorem split_headed (h a r : Bs) (ha : ∀ c ∈ a, c ≠ 46) : splitOn 46 (headed h a ++ tailed r) = (if h = [] then [] else splitOn 46 h) ++ a :: (if r = [] then [] else splitOn 46 r) := by
  unfold headed tailed
  by_cases h1 : h = [] <;> by_cases h2 : r = []
  · rw [if_pos h1, if_pos h2, if_pos h1, if_pos h2, List.append_nil, splitOn_none 46 a ha]; rfl
  · rw [if_pos h1, if_neg h2, if_pos h1, if_neg h2, splitOn_append, splitOn_none 46 a ha]; rfl
  · rw [if_neg h1, if_pos h2, if_neg h1, if_pos h2, List.append_nil, splitOn_append, splitOn_none 46 a ha]
  · rw [if_neg h1, if_neg h2, if_neg h1, if_neg h2, List.append_assoc, List.cons_append, splitOn_append, splitOn_append, splitOn_none 46 a ha]; rfl
theorem first_cmp (h a b ra rb : Bs) (ha : validId a = true) (hb : validId b = true) (hne : a ≠ b) : cmpPre (headed h a ++ tailed ra) (headed h b ++ tailed rb) = partSpec a b := by
  unfold cmpPre
  rw [split_headed h a ra (id_dots ha), split_headed h b rb (id_dots hb)]
  exact cmpL_common partSpec (fun x => (partSpec_cmp.iff x x).2 rfl) a b _ _ (fun e => hne (partSpec_cmp.zero e)) _
theorem headed_ne (h a r : Bs) (ha : a ≠ []) : headed h a ++ tailed r ≠ [] := by
  unfold headed
  by_cases h1 : h = []
  · rw [if_pos h1]; cases a with | nil => exact absurd rfl ha | cons _ _ => simp
  · rw [if_neg h1]; simp
end M
end Go.Proofs.YtopaileliohpdaaDoor
