/-
  Familiar names of references: plain facts, no program in sight.
-/
import Derived.Test.YtmjipdcohkiblaaDoorMath
import Derived.Lib.FieldsP
import Derived.Lib.DecodeN
namespace Go.Proofs.YtmjipdcohkiblaaDoor
namespace M
set_option linter.unusedVariables false

/-! runes: a slash among them -/
theorem decodeN_slash (n b0 b1 b2 b3 : Nat) (h : (Lib.decodeN n b0 b1 b2 b3).1 = 47) : b0 = 47 ∧ (Lib.decodeN n b0 b1 b2 b3).2 = 1 := by
  unfold Lib.decodeN at *
  by_cases c0 : b0 < 128
  · rw [if_pos c0] at *; exact ⟨h, rfl⟩
  rw [if_neg c0] at h
  exfalso
  repeat' split at h
  all_goals (simp only at h; omega)
theorem decodeN_low (n b0 b1 b2 b3 : Nat) (h : b0 < 128) : Lib.decodeN n b0 b1 b2 b3 = (b0, 1) := by unfold Lib.decodeN; rw [if_pos h]
theorem decodeN_rest (n b0 b1 b2 b3 : Nat) : (1 < (Lib.decodeN n b0 b1 b2 b3).2 → b1 / 64 = 2) ∧ (2 < (Lib.decodeN n b0 b1 b2 b3).2 → b2 / 64 = 2) ∧ (3 < (Lib.decodeN n b0 b1 b2 b3).2 → b3 / 64 = 2) ∧ (Lib.decodeN n b0 b1 b2 b3).2 ≤ 4 := by
  unfold Lib.decodeN
  repeat' split
  all_goals (simp only; omega)
theorem decodeN_le (n b0 b1 b2 b3 : Nat) (hn : 1 ≤ n) : (Lib.decodeN n b0 b1 b2 b3).2 ≤ n ∧ 1 ≤ (Lib.decodeN n b0 b1 b2 b3).2 := by
  unfold Lib.decodeN
  repeat' split
  all_goals (simp only; omega)
/-- a rune at pos: a slash just where the byte is one; else no slash in it -/
theorem slash_at (s : ByteArray) (pos : Nat) (h : pos < s.size) :
    pos + (Utf8.decode s pos).2 ≤ s.size ∧ 1 ≤ (Utf8.decode s pos).2 ∧
    ((Utf8.decode s pos).1 = 47 → s.get! pos = 47) ∧
    ((Utf8.decode s pos).1 ≠ 47 → ∀ j, pos ≤ j → j < pos + (Utf8.decode s pos).2 → s.get! j ≠ 47) := by
  rw [Lib.decode_at]
  have h1 := decodeN_le (s.size - pos) (s.get! pos).toNat (s.get! (pos + 1)).toNat (s.get! (pos + 2)).toNat (s.get! (pos + 3)).toNat (by omega)
  have h2 := decodeN_rest (s.size - pos) (s.get! pos).toNat (s.get! (pos + 1)).toNat (s.get! (pos + 2)).toNat (s.get! (pos + 3)).toNat
  have h3 := decodeN_slash (s.size - pos) (s.get! pos).toNat (s.get! (pos + 1)).toNat (s.get! (pos + 2)).toNat (s.get! (pos + 3)).toNat
  refine ⟨by omega, h1.2, fun e => UInt8.toNat_inj.1 (h3 e).1, fun hne j hj1 hj2 e => ?_⟩
  have e' : (s.get! j).toNat = 47 := by rw [e]; rfl
  by_cases j0 : j = pos
  · subst j0
    exact hne (by rw [decodeN_low _ _ _ _ _ (by omega)]; exact e')
  by_cases j1 : j = pos + 1
  · subst j1
    have := h2.1 (by omega)
    omega
  by_cases j2 : j = pos + 2
  · subst j2
    have := h2.2.1 (by omega)
    omega
  · obtain rfl : j = pos + 3 := by have := h2.2.2.2; omega
    have := h2.2.2.1 (by omega)
    omega
/-- has the text a slash? -/
def slash (s : ByteArray) : Bool := (List.range s.size).any fun j => s.get! j == 47
theorem slash_yes {s : ByteArray} {j : Nat} (h : j < s.size) (e : s.get! j = 47) : slash s = true := by
  unfold slash
  rw [List.any_eq_true]
  exact ⟨j, List.mem_range.2 h, by rw [e]; rfl⟩
theorem slash_no {s : ByteArray} (h : ∀ j, j < s.size → s.get! j ≠ 47) : slash s = false := by
  unfold slash
  rw [List.any_eq_false]
  intro j hj
  have := h j (List.mem_range.1 hj)
  simpa using this
end M
/-! familiar names -/
def hubB : ByteArray := ⟨#[100, 111, 99, 107, 101, 114, 46, 105, 111]⟩
def offB : ByteArray := ⟨#[108, 105, 98, 114, 97, 114, 121, 47]⟩
/-- the path within the default domain -/
def famP (p : ByteArray) : ByteArray := if 8 ≤ p.size ∧ M.bs (p.extract 0 8) = M.bs offB ∧ M.slash (p.extract 8 p.size) = false then p.extract 8 p.size else p
def famD (d : ByteArray) : ByteArray := if M.bs d = M.bs hubB then ⟨#[]⟩ else d
def famPath (d p : ByteArray) : ByteArray := if M.bs d = M.bs hubB then famP p else p
/-- a reference's name and its text -/
def refName (d p : ByteArray) : ByteArray := if d.size = 0 then p else d ++ ⟨#[47]⟩ ++ p
def refText (d p t g : ByteArray) : ByteArray :=
  if p.size = 0 then g else
    if t.size = 0 then (if g.size = 0 then refName d p else refName d p ++ (⟨#[64]⟩ ++ g)) else
      if g.size = 0 then refName d p ++ (⟨#[58]⟩ ++ t) else refName d p ++ (⟨#[58]⟩ ++ t) ++ (⟨#[64]⟩ ++ g)
end Go.Proofs.YtmjipdcohkiblaaDoor
