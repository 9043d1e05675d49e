/-
  Lists of items of cron fields: plain facts, no program in sight.
-/
import Derived.Test.YtjipjhpehfbpkaaDoorCItem
namespace Go.Proofs.YtjipjhpehfbpkaaDoor
namespace M
set_option linter.unusedVariables false

def fieldL (b : Bd) : Nat → List Bs → Option Nat
  | acc, [] => some acc
  | acc, p :: r => match item b p with
    | none => none
    | some x => fieldL b (acc ||| x) r
/-- the pieces that a comma leaves, without the empty ones -/
def pieces (l : Bs) : List Bs := (splitOn 44 l).filter fun p => !p.isEmpty
def field (b : Bd) (l : Bs) : Option Nat := fieldL b 0 (pieces l)
theorem fieldL_append (b : Bd) : ∀ (p q : List Bs) (acc : Nat), fieldL b acc (p ++ q) = match fieldL b acc p with | none => none | some x => fieldL b x q
  | [], q, acc => rfl
  | x :: p, q, acc => by
    rw [List.cons_append, fieldL, fieldL]
    cases item b x with
    | none => rfl
    | some y => exact fieldL_append b p q _
/-- texts joined by commas, none empty and none with a comma: these are the pieces -/
theorem pieces_join : ∀ (L : List Bs), (∀ p ∈ L, p ≠ [] ∧ ∀ c ∈ p, c ≠ 44) → pieces (joinWith 44 L) = L
  | [], _ => rfl
  | [p], h => by
    obtain ⟨h1, h2⟩ := h p List.mem_cons_self
    unfold pieces joinWith
    rw [splitOn_none 44 p h2]
    cases p with
    | nil => exact absurd rfl h1
    | cons _ _ => rfl
  | p :: q :: r, h => by
    obtain ⟨h1, h2⟩ := h p List.mem_cons_self
    have ih := pieces_join (q :: r) (fun x hx => h x (List.mem_cons_of_mem _ hx))
    unfold pieces at ih ⊢
    have e : joinWith 44 (p :: q :: r) = p ++ 44 :: joinWith 44 (q :: r) := rfl
    rw [e, splitOn_first 44 p _ h2, List.filter_cons, ih]
    cases p with
    | nil => exact absurd rfl h1
    | cons _ _ => rfl

/-! runs -/
/-- the text of a run -/
def runText (r : Nat × Nat) : Bs := if r.1 = r.2 then Lib.decDigits r.1 else Lib.decDigits r.1 ++ 45 :: Lib.decDigits r.2
theorem runText_free (r : Nat × Nat) : runText r ≠ [] ∧ ∀ c ∈ runText r, c ≠ 44 := by
  unfold runText
  split
  · exact ⟨(dec_spec _).2.1, digits_ne (dec_digits _) 44 rfl⟩
  · refine ⟨fun h => (dec_spec r.1).2.1 (List.append_eq_nil_iff.1 h).1, ?_⟩
    intro c hc
    rcases List.mem_append.1 hc with h | h
    · exact digits_ne (dec_digits _) 44 rfl c h
    · rcases List.mem_cons.1 h with rfl | h
      · decide
      · exact digits_ne (dec_digits _) 44 rfl c h
theorem item_run {b : Bd} (hb : NoDig b.nm) {r : Nat × Nat} (h1 : b.mn ≤ r.1) (h2 : r.1 ≤ r.2) (h3 : r.2 ≤ b.mx) (h4 : r.2 < 9223372036854775808) :
    item b (runText r) = some (gbits r.1 r.2 1) := by
  have hf : fin b r.1 r.2 1 false = some (gbits r.1 r.2 1) := by
    unfold fin
    rw [if_neg (by omega)]
    simp
  unfold runText
  split
  · rename_i e
    rw [item_one hb (dec_digits _) (dec_num (by omega))]
    rw [← e] at hf
    rw [hf, e]
  · rw [item_range hb (dec_digits _) (dec_digits _) (dec_num (by omega)) (dec_num h4), hf]
/-- the bits of some runs -/
def runBits (acc : Nat) (R : List (Nat × Nat)) : Nat := R.foldl (fun a r => a ||| gbits r.1 r.2 1) acc
theorem runBits_test (i : Nat) (hi : i < 64) : ∀ (R : List (Nat × Nat)) (acc : Nat), (runBits acc R).testBit i = (acc.testBit i || R.any fun r => decide (r.1 ≤ i ∧ i ≤ r.2))
  | [], acc => by simp [runBits]
  | r :: R, acc => by
    unfold runBits
    rw [List.foldl_cons]
    have := runBits_test i hi R (acc ||| gbits r.1 r.2 1)
    unfold runBits at this
    rw [this, Nat.testBit_or, gbits_test, List.any_cons, Bool.or_assoc]
    congr 2
    rw [Bool.eq_iff_iff, decide_eq_true_eq, decide_eq_true_eq]
    constructor
    · rintro ⟨_, a, b, _⟩; exact ⟨a, b⟩
    · rintro ⟨a, b⟩; exact ⟨hi, a, b, Nat.mod_one _⟩
theorem runBits_lt : ∀ (R : List (Nat × Nat)) (acc : Nat), acc < 2 ^ 64 → runBits acc R < 2 ^ 64
  | [], acc, h => h
  | r :: R, acc, h => by
    unfold runBits
    rw [List.foldl_cons]
    exact runBits_lt R _ (Nat.or_lt_two_pow h (gbits_lt64 _ _ _))
theorem fieldL_runs {b : Bd} (hb : NoDig b.nm) : ∀ (R : List (Nat × Nat)) (acc : Nat), (∀ r ∈ R, b.mn ≤ r.1 ∧ r.1 ≤ r.2 ∧ r.2 ≤ b.mx ∧ r.2 < 9223372036854775808) → fieldL b acc (R.map runText) = some (runBits acc R)
  | [], acc, _ => rfl
  | r :: R, acc, h => by
    obtain ⟨h1, h2, h3, h4⟩ := h r List.mem_cons_self
    rw [List.map_cons, fieldL, item_run hb h1 h2 h3 h4]
    exact fieldL_runs hb R _ (fun x hx => h x (List.mem_cons_of_mem _ hx))
/-- a set written as its runs is read back -/
theorem field_runs {b : Bd} (hb : NoDig b.nm) (hm : b.mx ≤ 62) (bits : Nat) (R : List (Nat × Nat)) (hlt : bits < 2 ^ 64)
    (hR : ∀ r ∈ R, b.mn ≤ r.1 ∧ r.1 ≤ r.2 ∧ r.2 ≤ b.mx) (hin : ∀ i, i < 64 → (bits.testBit i = true ↔ ∃ r ∈ R, r.1 ≤ i ∧ i ≤ r.2)) :
    field b (joinWith 44 (R.map runText)) = some bits := by
  unfold field
  rw [pieces_join _ (by
    intro p hp
    obtain ⟨r, _, rfl⟩ := List.mem_map.1 hp
    exact runText_free r), fieldL_runs hb R 0 (fun r hr => by have := hR r hr; omega)]
  congr 1
  apply Nat.eq_of_testBit_eq
  intro i
  by_cases hi : i < 64
  · rw [runBits_test i hi, Nat.zero_testBit, Bool.false_or, Bool.eq_iff_iff, hin i hi, List.any_eq_true]
    constructor
    · rintro ⟨r, hr, h⟩; exact ⟨r, hr, by simpa using h⟩
    · rintro ⟨r, hr, h⟩; exact ⟨r, hr, by simpa using h⟩
  · have h1 : runBits 0 R < 2 ^ 64 := runBits_lt R 0 (by decide)
    have h2 : 2 ^ 64 ≤ 2 ^ i := Nat.pow_le_pow_right (by omega) (by omega)
    rw [Nat.testBit_lt_two_pow (by omega), Nat.testBit_lt_two_pow (by omega)]
end M
end Go.Proofs.YtjipjhpehfbpkaaDoor
