/-
  Patterns of path.Match: plain facts, no program in sight. A chunk is a list of marks, each for one byte.
-/
import Derived.Test.YtmjipdcohkiblaaDoorMath
namespace Go.Proofs.YtmjipdcohkiblaaDoor
namespace M
set_option linter.unusedVariables false

/-- a mark: a byte (with a backslash ahead of it or without), any byte but a slash, a class of one byte -/
inductive Mk where
  | lit (c : UInt8) (esc : Bool)
  | any
  | cls (c : UInt8)
def special (c : UInt8) : Bool := c == 42 || c == 63 || c == 91 || c == 92
def Mk.enc : Mk → Bs
  | .lit c true => [92, c]
  | .lit c false => [c]
  | .any => [63]
  | .cls c => [91, 92, c, 93]
/-- a byte without a backslash is no sign of patterns -/
def Mk.wf : Mk → Prop
  | .lit c false => special c = false
  | _ => True
/-- its byte is of ASCII -/
def Mk.low : Mk → Prop
  | .lit c _ => c.toNat < 128
  | .any => True
  | .cls c => c.toNat < 128
def Mk.ok : Mk → UInt8 → Bool
  | .lit c _, x => x == c
  | .any, x => x != 47
  | .cls c, x => x == c
def enc (I : List Mk) : Bs := I.flatMap Mk.enc
/-- do the marks match the beginning? -/
def matchAll : List Mk → Bs → Bool
  | [], _ => true
  | _ :: _, [] => false
  | i :: I, x :: s => i.ok x && matchAll I s
theorem enc_cons (i : Mk) (I : List Mk) : enc (i :: I) = i.enc ++ enc I := rfl
theorem enc_append (I J : List Mk) : enc (I ++ J) = enc I ++ enc J := by unfold enc; rw [List.flatMap_append]
theorem special_no {c : UInt8} (h : special c = false) : c ≠ 42 ∧ c ≠ 63 ∧ c ≠ 91 ∧ c ≠ 92 := by
  unfold special at h
  simp only [Bool.or_eq_false_iff, beq_eq_false_iff_ne] at h
  exact ⟨h.1.1.1, h.1.1.2, h.1.2, h.2⟩
/-- scanChunk's loop: where it stops, from place i on, within a class or not -/
def scanF (l : Bs) : Nat → Nat → Bool → Nat
  | 0, i, _ => i
  | f + 1, i, b =>
    match l[i]? with
    | none => i
    | some c =>
      if c = 92 then (if i + 1 < l.length then scanF l f (i + 2) b else scanF l f (i + 1) b)
      else if c = 91 then scanF l f (i + 1) true
      else if c = 93 then scanF l f (i + 1) false
      else if c = 42 ∧ b = false then i
      else scanF l f (i + 1) b
theorem scanF_end (l : Bs) (f i : Nat) (b : Bool) (h : l.length ≤ i) : scanF l f i b = i := by
  cases f with
  | zero => rfl
  | succ f => unfold scanF; rw [List.getElem?_eq_none h]
theorem get_mid (pre : Bs) (c : UInt8) (r : Bs) : (pre ++ c :: r)[pre.length]? = some c := by simp
theorem scanF_lit (pre : Bs) (c : UInt8) (r : Bs) (f : Nat) (h1 : c ≠ 92) (h2 : c ≠ 91) (h3 : c ≠ 42) : scanF (pre ++ c :: r) (f + 1) pre.length false = scanF ((pre ++ [c]) ++ r) f (pre ++ [c]).length false := by
  have e : pre ++ c :: r = (pre ++ [c]) ++ r := by simp
  have hl : (pre ++ [c]).length = pre.length + 1 := by simp
  rw [scanF, get_mid]
  simp only
  rw [if_neg h1, if_neg h2, hl, ← e]
  split
  · rfl
  · rw [if_neg (fun q => h3 q.1)]
theorem scanF_esc (pre : Bs) (c : UInt8) (r : Bs) (f : Nat) (b : Bool) : scanF (pre ++ 92 :: c :: r) (f + 1) pre.length b = scanF ((pre ++ [92, c]) ++ r) f (pre ++ [92, c]).length b := by
  have e : pre ++ 92 :: c :: r = (pre ++ [92, c]) ++ r := by simp
  have hl : (pre ++ [92, c]).length = pre.length + 2 := by simp
  rw [scanF, get_mid]
  simp only
  rw [if_pos trivial, if_pos (by simp), hl, ← e]
theorem scanF_open (pre : Bs) (r : Bs) (f : Nat) (b : Bool) : scanF (pre ++ 91 :: r) (f + 1) pre.length b = scanF ((pre ++ [91]) ++ r) f (pre ++ [91]).length true := by
  have e : pre ++ 91 :: r = (pre ++ [91]) ++ r := by simp
  have hl : (pre ++ [91]).length = pre.length + 1 := by simp
  rw [scanF, get_mid]
  simp only
  rw [if_neg (by decide), if_pos trivial, hl, ← e]
theorem scanF_shut (pre : Bs) (r : Bs) (f : Nat) (b : Bool) : scanF (pre ++ 93 :: r) (f + 1) pre.length b = scanF ((pre ++ [93]) ++ r) f (pre ++ [93]).length false := by
  have e : pre ++ 93 :: r = (pre ++ [93]) ++ r := by simp
  have hl : (pre ++ [93]).length = pre.length + 1 := by simp
  rw [scanF, get_mid]
  simp only
  rw [if_neg (by decide), if_neg (by decide), if_pos trivial, hl, ← e]
/-- the scan goes to the marks' end where a star or nothing follows -/
theorem scan_marks (rest : Bs) (hr : rest = [] ∨ ∃ r, rest = 42 :: r) : ∀ (I : List Mk), (∀ m ∈ I, m.wf) → ∀ (pre : Bs) (f : Nat), (enc I ++ rest).length ≤ f → scanF (pre ++ (enc I ++ rest)) f pre.length false = pre.length + (enc I).length
  | [], _, pre, f, hf => by
    show scanF (pre ++ ([] ++ rest)) f pre.length false = pre.length + 0
    rw [List.nil_append]
    rcases hr with rfl | ⟨r, rfl⟩
    · exact scanF_end _ _ _ _ (by simp)
    · cases f with
      | zero => rfl
      | succ f =>
        rw [scanF, get_mid]
        simp only
        rw [if_neg (by decide), if_neg (by decide), if_neg (by decide), if_pos (by decide)]
        rfl
  | m :: I, hw, pre, f, hf => by
    have ih := scan_marks rest hr I (fun x hx => hw x (List.mem_cons_of_mem _ hx))
    have hm := hw m List.mem_cons_self
    rw [enc_cons] at hf ⊢
    cases m with
    | lit c e =>
      cases e with
      | false =>
        obtain ⟨s1, s2, s3, s4⟩ := special_no hm
        cases f with
        | zero => simp [Mk.enc] at hf
        | succ f =>
          show scanF (pre ++ (([c] ++ enc I) ++ rest)) (f + 1) pre.length false = pre.length + ([c] ++ enc I).length
          rw [List.append_assoc]
          show scanF (pre ++ c :: (enc I ++ rest)) (f + 1) pre.length false = _
          rw [scanF_lit _ _ _ _ s4 s3 s1, ih _ _ (by simp [Mk.enc] at hf ⊢; omega)]
          simp
          omega
      | true =>
        cases f with
        | zero => simp [Mk.enc] at hf
        | succ f =>
          show scanF (pre ++ (([92, c] ++ enc I) ++ rest)) (f + 1) pre.length false = pre.length + ([92, c] ++ enc I).length
          rw [List.append_assoc]
          show scanF (pre ++ 92 :: c :: (enc I ++ rest)) (f + 1) pre.length false = _
          rw [scanF_esc, ih _ _ (by simp [Mk.enc] at hf ⊢; omega)]
          simp
          omega
    | any =>
      cases f with
      | zero => simp [Mk.enc] at hf
      | succ f =>
        show scanF (pre ++ (([63] ++ enc I) ++ rest)) (f + 1) pre.length false = pre.length + ([63] ++ enc I).length
        rw [List.append_assoc]
        show scanF (pre ++ 63 :: (enc I ++ rest)) (f + 1) pre.length false = _
        rw [scanF_lit _ _ _ _ (by decide) (by decide) (by decide), ih _ _ (by simp [Mk.enc] at hf ⊢; omega)]
        simp
        omega
    | cls c =>
      obtain ⟨f, rfl⟩ : ∃ g, f = g + 3 := ⟨f - 3, by simp [Mk.enc] at hf; omega⟩
      show scanF (pre ++ (([91, 92, c, 93] ++ enc I) ++ rest)) (f + 3) pre.length false = pre.length + ([91, 92, c, 93] ++ enc I).length
      rw [List.append_assoc]
      show scanF (pre ++ 91 :: (92 :: c :: 93 :: (enc I ++ rest))) (f + 2 + 1) pre.length false = _
      rw [scanF_open, scanF_esc, scanF_shut, ih _ _ (by simp [Mk.enc] at hf ⊢; omega)]
      simp
      omega
theorem matchAll_len : ∀ (I : List Mk) (s : Bs), matchAll I s = true → I.length ≤ s.length
  | [], s, _ => Nat.zero_le _
  | _ :: _, [], h => by cases h
  | i :: I, x :: s, h => by
    unfold matchAll at h
    rw [Bool.and_eq_true] at h
    have := matchAll_len I s h.2
    simp only [List.length_cons]
    omega
end M
end Go.Proofs.YtmjipdcohkiblaaDoor
