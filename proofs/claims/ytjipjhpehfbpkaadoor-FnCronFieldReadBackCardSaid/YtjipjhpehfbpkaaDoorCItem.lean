/-
  Items of cron fields: plain facts, no program in sight.
-/
import Derived.Test.YtjipjhpehfbpkaaDoorCMath
import Derived.Lib.ItoaMem
namespace Go.Proofs.YtjipjhpehfbpkaaDoor
namespace M
set_option linter.unusedVariables false

/-- the values low, low + step .. up to high, as bits -/
def gbitsTo (mn mx st : Nat) : Nat → Nat
  | 0 => 0
  | k + 1 => if mn ≤ k ∧ k ≤ mx ∧ (k - mn) % st = 0 then gbitsTo mn mx st k ||| 2 ^ k else gbitsTo mn mx st k
def gbits (mn mx st : Nat) : Nat := gbitsTo mn mx st 64
theorem gbitsTo_test (mn mx st i : Nat) : ∀ n, (gbitsTo mn mx st n).testBit i = decide (i < n ∧ mn ≤ i ∧ i ≤ mx ∧ (i - mn) % st = 0)
  | 0 => by simp [gbitsTo]
  | n + 1 => by
    have ih := gbitsTo_test mn mx st i n
    unfold gbitsTo
    split
    · rename_i h
      rw [Nat.testBit_or, ih, Nat.testBit_two_pow, Bool.eq_iff_iff]
      simp only [Bool.or_eq_true, decide_eq_true_eq]
      constructor
      · rintro (⟨a, b⟩ | rfl)
        · exact ⟨by omega, b⟩
        · exact ⟨by omega, h⟩
      · rintro ⟨a, b⟩
        by_cases e : n = i
        · exact .inr e
        · exact .inl ⟨by omega, b⟩
    · rename_i h
      rw [ih, Bool.eq_iff_iff]
      simp only [decide_eq_true_eq]
      constructor
      · rintro ⟨a, b⟩
        exact ⟨by omega, b⟩
      · rintro ⟨a, b⟩
        refine ⟨?_, b⟩
        by_cases e : i = n
        · subst e; exact absurd b h
        · omega
theorem gbits_test (mn mx st i : Nat) : (gbits mn mx st).testBit i = decide (i < 64 ∧ mn ≤ i ∧ i ≤ mx ∧ (i - mn) % st = 0) := gbitsTo_test mn mx st i 64
theorem lt_of_test {a n : Nat} (h : ∀ i, n ≤ i → a.testBit i = false) : a < 2 ^ n := Nat.lt_pow_two_of_testBit a h
theorem gbits_lt (mn mx st : Nat) (h : mx ≤ 62) : gbits mn mx st < 9223372036854775808 := by
  have : gbits mn mx st < 2 ^ 63 := lt_of_test (fun i hi => by
    rw [gbits_test, decide_eq_false_iff_not]
    omega)
  exact this
theorem gbits_lt64 (mn mx st : Nat) : gbits mn mx st < 18446744073709551616 := by
  have : gbits mn mx st < 2 ^ 64 := lt_of_test (fun i hi => by
    rw [gbits_test, decide_eq_false_iff_not]
    omega)
  exact this

/-- bounds of a field: its least and its greatest value, its names (of letters in small) -/
structure Bd where
  mn : Nat
  mx : Nat
  nm : Option (Bs → Option Nat)
def ion (nm : Option (Bs → Option Nat)) (l : Bs) : Option Nat := match nm with
  | some f => match f l with
    | some v => some v
    | none => num l
  | none => num l
def ends (b : Bd) (lh : List Bs) : Option (Nat × Nat × Bool) := match lh with
  | [] => none
  | a :: r => if a = [42] ∨ a = [63] then some (b.mn, b.mx, true) else
    match ion b.nm a with
    | none => none
    | some s => match r with
      | [] => some (s, s, false)
      | [c] => match ion b.nm c with
        | none => none
        | some e => some (s, e, false)
      | _ => none
def fin (b : Bd) (s e st : Nat) (star : Bool) : Option Nat :=
  if s < b.mn ∨ b.mx < e ∨ e < s ∨ st = 0 then none else some (gbits s e st ||| (if star then 9223372036854775808 else 0))
def item (b : Bd) (l : Bs) : Option Nat := match splitOn 47 l with
  | [] => none
  | h :: t => match ends b (splitOn 45 h) with
    | none => none
    | some (s, e, star) => match t with
      | [] => fin b s e 1 star
      | [k] => match num k with
        | none => none
        | some st => fin b s (if (splitOn 45 h).length = 1 then b.mx else e) st (star && decide (st ≤ 1))
      | _ => none

/-! numerals -/
theorem ofNat_toNat {n : Nat} (h : n < 256) : (UInt8.ofNat n).toNat = n := by simp; omega
theorem dec_spec (u : Nat) : (Lib.decDigits u).all isDig = true ∧ Lib.decDigits u ≠ [] ∧ val (Lib.decDigits u) = u := by
  induction u using Nat.strongRecOn with
  | _ u ih =>
    by_cases h : u < 10
    · rw [Lib.decDigits_one h]
      have hd : isDig (UInt8.ofNat (48 + u)) = true := dig_iff.2 (by rw [ofNat_toNat (by omega)]; omega)
      refine ⟨by rw [List.all_cons, hd]; rfl, by simp, ?_⟩
      simp only [val, valFrom, List.foldl_cons, List.foldl_nil]
      rw [ofNat_toNat (by omega)]
      omega
    · have e : Lib.decDigits u = Lib.decDigits (u / 10) ++ [UInt8.ofNat (48 + u % 10)] := by rw [Lib.decDigits, dif_neg h]
      obtain ⟨a, b, c⟩ := ih (u / 10) (by omega)
      have hd : isDig (UInt8.ofNat (48 + u % 10)) = true := dig_iff.2 (by rw [ofNat_toNat (by omega)]; omega)
      rw [e]
      refine ⟨by rw [List.all_append, a, List.all_cons, hd]; rfl, by simp, ?_⟩
      unfold val valFrom at *
      rw [List.foldl_append, c]
      simp only [List.foldl_cons, List.foldl_nil]
      rw [ofNat_toNat (by omega)]
      omega
theorem dec_digits (u : Nat) : digits (Lib.decDigits u) = true := by
  obtain ⟨a, b, _⟩ := dec_spec u
  unfold digits
  rw [a, Bool.and_true]
  cases h : Lib.decDigits u with
  | nil => exact absurd h b
  | cons _ _ => rfl
theorem dec_val (u : Nat) : val (Lib.decDigits u) = u := (dec_spec u).2.2
theorem dec_num {u : Nat} (h : u < 9223372036854775808) : num (Lib.decDigits u) = some u := by
  have := num_digits (dec_digits u) (by rw [dec_val]; exact h)
  rw [dec_val] at this
  exact this
theorem dig_ne {p : Bs} (h : p.all isDig = true) (x : UInt8) (hx : isDig x = false) : ∀ c ∈ p, c ≠ x := by
  rw [List.all_eq_true] at h
  intro c hc e
  subst e
  rw [h _ hc] at hx
  cases hx
theorem digits_ne {p : Bs} (h : digits p = true) (x : UInt8) (hx : isDig x = false) : ∀ c ∈ p, c ≠ x := by
  simp only [digits, Bool.and_eq_true] at h
  exact dig_ne h.2 x hx
/-- names have no digits alone -/
def NoDig (nm : Option (Bs → Option Nat)) : Prop := ∀ f, nm = some f → ∀ l, digits l = true → f l = none
theorem ion_dig {nm : Option (Bs → Option Nat)} (h : NoDig nm) {l : Bs} (hl : digits l = true) : ion nm l = num l := by
  unfold ion
  split
  · rename_i f
    rw [h f rfl l hl]
  · rfl
theorem not_star {p : Bs} (h : digits p = true) : ¬ (p = [42] ∨ p = [63]) := by
  rintro (rfl | rfl) <;> cases h
theorem ends_two {b : Bd} (hb : NoDig b.nm) {p q : Bs} {s e : Nat} (hp : digits p = true) (hq : digits q = true) (hs : num p = some s) (he : num q = some e) : ends b [p, q] = some (s, e, false) := by
  show (if p = [42] ∨ p = [63] then some (b.mn, b.mx, true) else match ion b.nm p with | none => none | some s => (match ion b.nm q with | none => none | some e => some (s, e, false))) = _
  rw [if_neg (not_star hp), ion_dig hb hp, ion_dig hb hq, hs, he]
theorem ends_lone {b : Bd} (hb : NoDig b.nm) {p : Bs} {s : Nat} (hp : digits p = true) (hs : num p = some s) : ends b [p] = some (s, s, false) := by
  show (if p = [42] ∨ p = [63] then some (b.mn, b.mx, true) else match ion b.nm p with | none => none | some s => some (s, s, false)) = _
  rw [if_neg (not_star hp), ion_dig hb hp, hs]
/-- a range of two numerals, without a step -/
theorem item_range {b : Bd} (hb : NoDig b.nm) {p q : Bs} {s e : Nat} (hp : digits p = true) (hq : digits q = true) (hs : num p = some s) (he : num q = some e) :
    item b (p ++ 45 :: q) = fin b s e 1 false := by
  have h47 : splitOn 47 (p ++ 45 :: q) = [p ++ 45 :: q] := splitOn_none 47 _ (by
    intro c hc
    rcases List.mem_append.1 hc with h | h
    · exact digits_ne hp 47 rfl c h
    · rcases List.mem_cons.1 h with rfl | h
      · decide
      · exact digits_ne hq 47 rfl c h)
  have h45 : splitOn 45 (p ++ 45 :: q) = [p, q] := by rw [splitOn_first 45 p q (digits_ne hp 45 rfl), splitOn_none 45 q (digits_ne hq 45 rfl)]
  unfold item
  rw [h47]
  simp only [h45, ends_two hb hp hq hs he]
theorem split_step {p q k : Bs} (hp : digits p = true) (hq : digits q = true) : splitOn 47 (p ++ 45 :: q ++ 47 :: k) = (p ++ 45 :: q) :: splitOn 47 k := by
  refine splitOn_first 47 _ k ?_
  intro c hc
  rcases List.mem_append.1 hc with h | h
  · exact digits_ne hp 47 rfl c h
  · rcases List.mem_cons.1 h with rfl | h
    · decide
    · exact digits_ne hq 47 rfl c h
/-- .. with a step behind it -/
theorem item_step {b : Bd} (hb : NoDig b.nm) {p q k : Bs} {s e : Nat} (hp : digits p = true) (hq : digits q = true) (hs : num p = some s) (he : num q = some e) :
    item b (p ++ 45 :: q ++ 47 :: k) = (match splitOn 47 k with | [k1] => (match num k1 with | none => none | some st => fin b s e st false) | _ => none) := by
  have h45 : splitOn 45 (p ++ 45 :: q) = [p, q] := by rw [splitOn_first 45 p q (digits_ne hp 45 rfl), splitOn_none 45 q (digits_ne hq 45 rfl)]
  unfold item
  rw [split_step hp hq]
  simp only [h45, ends_two hb hp hq hs he]
  cases h : splitOn 47 k with
  | nil => exact absurd h (splitOn_ne 47 k)
  | cons k1 t =>
    cases t with
    | nil => simp
    | cons _ _ => rfl
/-- one numeral -/
theorem item_one {b : Bd} (hb : NoDig b.nm) {p : Bs} {s : Nat} (hp : digits p = true) (hs : num p = some s) : item b p = fin b s s 1 false := by
  unfold item
  rw [splitOn_none 47 p (digits_ne hp 47 rfl)]
  simp only [splitOn_none 45 p (digits_ne hp 45 rfl), ends_lone hb hp hs]
end M
end Go.Proofs.YtjipjhpehfbpkaaDoor
