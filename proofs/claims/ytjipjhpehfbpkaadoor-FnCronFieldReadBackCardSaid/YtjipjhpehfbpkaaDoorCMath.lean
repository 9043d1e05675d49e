/-
  Numbers of cron fields: plain facts, no program in sight.
-/
import Derived.Test.YtjipjhpehfbpkaaDoorPre
import Derived.Lib.AtoiAll
namespace Go.Proofs.YtjipjhpehfbpkaaDoor
namespace M
set_option linter.unusedVariables false

/-- the number that mustParseInt reads, if it reads one -/
def num (l : Bs) : Option Nat := match Lib.atoiAll l with
  | .ok v => if 0 ≤ v then some v.toNat else none
  | _ => none
theorem dig_iff {c : UInt8} : isDig c = true ↔ 48 ≤ c.toNat ∧ c.toNat ≤ 57 := by
  simp only [isDig, Bool.and_eq_true, decide_eq_true_eq, UInt8.le_iff_toNat_le]
  exact Iff.rfl
theorem uint10_ok : ∀ (p : Bs) (n : Nat), p.all isDig = true → valFrom n p < 18446744073709551616 → Lib.parseUint10 n p = .ok (valFrom n p)
  | [], n, _, _ => rfl
  | c :: r, n, hd, hv => by
    simp only [List.all_cons, Bool.and_eq_true] at hd
    have h1 := dig_iff.1 hd.1
    rw [valFrom_cons] at hv ⊢
    have h2 : n * 10 + (c.toNat - 48) ≤ valFrom (n * 10 + (c.toNat - 48)) r := by
      rw [valFrom_eq]
      have : 1 ≤ 10 ^ r.length := Nat.pos_of_ne_zero (by simp)
      have := Nat.mul_le_mul_left (n * 10 + (c.toNat - 48)) this
      omega
    rw [Lib.parseUint10, if_pos h1, if_neg (by omega), if_neg (by omega)]
    exact uint10_ok r _ hd.2 hv
theorem uint10_digits : ∀ (p : Bs) (n u : Nat), Lib.parseUint10 n p = .ok u → p.all isDig = true ∧ u = valFrom n p
  | [], n, u, h => by
    simp only [Lib.parseUint10] at h
    injection h with h
    exact ⟨rfl, h.symm⟩
  | c :: r, n, u, h => by
    simp only [Lib.parseUint10] at h
    split at h
    · rename_i hd
      split at h
      · cases h
      · split at h
        · cases h
        · obtain ⟨a, b⟩ := uint10_digits r _ u h
          exact ⟨by rw [List.all_cons, a, dig_iff.2 hd]; rfl, by rw [b, valFrom_cons]⟩
    · cases h
theorem mag_ok {p : Bs} (h : digits p = true) (hv : val p < 18446744073709551616) : Lib.parseMag p = .ok (val p) := by
  simp only [digits, Bool.and_eq_true, Bool.not_eq_true'] at h
  unfold Lib.parseMag
  rw [if_neg (by intro e; rw [e] at h; cases h.1)]
  exact uint10_ok p 0 h.2 hv
theorem mag_digits {p : Bs} {u : Nat} (h : Lib.parseMag p = .ok u) : digits p = true ∧ u = val p := by
  unfold Lib.parseMag at h
  split at h
  · cases h
  · rename_i hne
    obtain ⟨a, b⟩ := uint10_digits p 0 u h
    exact ⟨by simp only [digits, a, Bool.and_true, Bool.not_eq_true']; cases p with | nil => exact absurd rfl hne | cons _ _ => rfl, b⟩
/-- digits are their number -/
theorem num_digits {p : Bs} (h : digits p = true) (hv : val p < 9223372036854775808) : num p = some (val p) := by
  have hm := mag_ok h (by omega)
  cases p with
  | nil => cases h
  | cons c r =>
    have hd : 48 ≤ c.toNat ∧ c.toNat ≤ 57 := by
      simp only [digits, Bool.and_eq_true, List.all_cons] at h
      exact dig_iff.1 h.2.1
    unfold num Lib.atoiAll
    simp only
    rw [if_neg (by omega), hm]
    simp only
    rw [if_neg (by omega), if_neg (by omega), if_neg (by omega)]
    simp only
    rw [if_pos (by omega)]
    rfl
theorem val_lt9 {p : Bs} (h : digits p = true) (hl : p.length ≤ 18) : val p < 9223372036854775808 := by
  simp only [digits, Bool.and_eq_true] at h
  have h1 := val_lt p h.2
  have h2 : 10 ^ p.length ≤ 10 ^ 18 := Nat.pow_le_pow_right (by omega) hl
  omega
def zeros (p : Bs) : Bool := p.all (· == 48)
/-- is the sign ahead left open? -/
def opens (l : Bs) : Bool := match l with
  | [] => false
  | c :: r => c == 43 || (c == 45 && zeros r)
/-- what the reference says of a number: its verdict, and it as far as it is told apart -/
def huge : Nat := 1099511627776
def snum (l : Bs) : Nat × Nat :=
  let t := if opens l then l.tail else l
  if digits t then (min (val t) huge, if opens l then 2 else 1) else (0, 0)
theorem snum_fine {l : Bs} (h : (snum l).2 = 1) : digits l = true ∧ opens l = false := by
  unfold snum at h
  cases ho : opens l with
  | true =>
    rw [ho] at h
    simp only [if_true] at h
    split at h <;> cases h
  | false =>
    rw [ho] at h
    simp only [Bool.false_eq_true, if_false] at h
    split at h
    · exact ⟨by assumption, rfl⟩
    · cases h
theorem zeros_val : ∀ (p : Bs) (n : Nat), p.all isDig = true → valFrom n p = 0 → n = 0 ∧ zeros p = true
  | [], n, _, h => ⟨h, rfl⟩
  | c :: r, n, hd, h => by
    simp only [List.all_cons, Bool.and_eq_true] at hd
    rw [valFrom_cons] at h
    obtain ⟨a, b⟩ := zeros_val r _ hd.2 h
    have h1 := dig_iff.1 hd.1
    refine ⟨by omega, ?_⟩
    unfold zeros at *
    rw [List.all_cons, b, Bool.and_true]
    have : c.toNat = 48 := by omega
    have : c = 48 := UInt8.toNat_inj.1 this
    rw [this]; rfl
theorem digits_of_zeros {p : Bs} (h : zeros p = true) (hn : p ≠ []) : digits p = true := by
  unfold digits
  have : p.all isDig = true := by
    unfold zeros at h
    rw [List.all_eq_true] at h ⊢
    intro c hc
    have := h c hc
    rw [beq_iff_eq] at this
    rw [this]; rfl
  rw [this, Bool.and_true]
  cases p with
  | nil => exact absurd rfl hn
  | cons _ _ => rfl
/-- what the reference calls wrong is not read -/
theorem num_bad {l : Bs} (h : (snum l).2 = 0) : num l = none := by
  have hd : digits (if opens l then l.tail else l) = false := by
    unfold snum at h
    simp only at h
    cases hq : digits (if opens l = true then l.tail else l) with
    | false => rfl
    | true =>
      rw [hq] at h
      simp only [if_true] at h
      split at h <;> cases h
  cases l with
  | nil => rfl
  | cons c r =>
    have no_ok : ∀ {t : Bs} {u : Nat}, digits t = false → Lib.parseMag t = .ok u → False := fun h1 h2 => by rw [(mag_digits h2).1] at h1; cases h1
    unfold num Lib.atoiAll
    simp only
    by_cases h43 : c.toNat = 43
    · have hc : c = 43 := UInt8.toNat_inj.1 h43
      have ho : opens (c :: r) = true := by rw [hc]; rfl
      rw [ho] at hd
      rw [if_pos (.inl h43)]
      cases hp : Lib.parseMag r with
      | ok u => exact (no_ok hd hp).elim
      | _ => rfl
    · by_cases h45 : c.toNat = 45
      · have hc : c = 45 := UInt8.toNat_inj.1 h45
        rw [if_pos (.inr h45)]
        cases hp : Lib.parseMag r with
        | ok u =>
          obtain ⟨g1, g2⟩ := mag_digits hp
          simp only
          rw [if_neg (by intro k; exact k.1 h45)]
          by_cases hu : 9223372036854775808 < u
          · rw [if_pos ⟨h45, hu⟩]
          · rw [if_neg (by intro k; exact hu k.2), if_pos h45]
            simp only
            by_cases h0 : u = 0
            · exfalso
              simp only [digits, Bool.and_eq_true] at g1
              have hz := (zeros_val r 0 g1.2 (by rw [h0] at g2; exact g2.symm)).2
              have ho : opens (c :: r) = true := by rw [hc]; simp [opens, hz]
              rw [ho] at hd
              simp only [if_true, List.tail_cons] at hd
              unfold digits at hd
              rw [g1.1, g1.2] at hd
              cases hd
            · rw [if_neg (by omega)]
        | _ => rfl
      · have ho : opens (c :: r) = false := by
          show (c == 43 || (c == 45 && zeros r)) = false
          have a1 : (c == 43) = false := by rw [beq_eq_false_iff_ne]; intro e; rw [e] at h43; exact h43 rfl
          have a2 : (c == 45) = false := by rw [beq_eq_false_iff_ne]; intro e; rw [e] at h45; exact h45 rfl
          rw [a1, a2]; rfl
        rw [ho] at hd
        rw [if_neg (by omega)]
        cases hp : Lib.parseMag (c :: r) with
        | ok u => exact (no_ok hd hp).elim
        | _ => rfl
theorem val_append (a b : Bs) : val (a ++ b) = val a * 10 ^ b.length + val b := by
  unfold val
  have : valFrom 0 (a ++ b) = valFrom (valFrom 0 a) b := by unfold valFrom; rw [List.foldl_append]
  rw [this, valFrom_eq]
theorem digits_append {a b : Bs} (ha : digits a = true) (hb : digits b = true) : digits (a ++ b) = true := by
  simp only [digits, Bool.and_eq_true, List.all_append] at *
  refine ⟨?_, ha.2, hb.2⟩
  cases a with
  | nil => cases ha.1
  | cons _ _ => rfl
end M
end Go.Proofs.YtjipjhpehfbpkaaDoor
