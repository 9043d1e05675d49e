/-
  The order of prereleases (clause 11 of Semantic Versioning): pieces that are numbers, other pieces, lists of pieces. Plain facts: no program in sight.
-/
import Derived.Test.YtjipjhpehfbpkaaDoorMath
namespace Go.Proofs.YtjipjhpehfbpkaaDoor
namespace M

/-- strings byte by byte -/
abbrev less : Bs → Bs → Bool := Op.bytesLess
theorem less_irrefl : ∀ a : Bs, less a a = false
  | [] => rfl
  | c :: r => by
    simp only [less, Op.bytesLess, Bool.or_eq_false_iff, decide_eq_false_iff_not, Bool.and_eq_false_iff]
    exact ⟨UInt8.lt_irrefl c, .inr (less_irrefl r)⟩
theorem less_trans : ∀ a b c : Bs, less a b = true → less b c = true → less a c = true
  | [], [], c, h, _ => by simp [less, Op.bytesLess] at h
  | [], b :: y, [], _, h => by simp [less, Op.bytesLess] at h
  | [], b :: y, c :: z, _, _ => by simp [less, Op.bytesLess]
  | a :: x, [], c, h, _ => by simp [less, Op.bytesLess] at h
  | a :: x, b :: y, [], _, h => by simp [less, Op.bytesLess] at h
  | a :: x, b :: y, c :: z, h1, h2 => by
    simp only [less, Op.bytesLess, Bool.or_eq_true, decide_eq_true_eq, Bool.and_eq_true, beq_iff_eq] at h1 h2 ⊢
    rcases h1 with h1 | ⟨rfl, h1⟩
    · rcases h2 with h2 | ⟨rfl, h2⟩
      · exact .inl (UInt8.lt_trans h1 h2)
      · exact .inl h1
    · rcases h2 with h2 | ⟨rfl, h2⟩
      · exact .inl h2
      · exact .inr ⟨rfl, less_trans x y z h1 h2⟩
theorem less_total : ∀ a b : Bs, a ≠ b → less a b = true ∨ less b a = true
  | [], [], h => absurd rfl h
  | [], b :: y, _ => by simp [less, Op.bytesLess]
  | a :: x, [], _ => by simp [less, Op.bytesLess]
  | a :: x, b :: y, h => by
    simp only [less, Op.bytesLess, Bool.or_eq_true, decide_eq_true_eq, Bool.and_eq_true, beq_iff_eq]
    rcases Nat.lt_trichotomy a.toNat b.toNat with h1 | h1 | h1
    · exact .inl (.inl h1)
    · have e : a = b := UInt8.toNat_inj.1 h1
      subst e
      rcases less_total x y (fun e => h (by rw [e])) with h2 | h2
      · exact .inl (.inr ⟨rfl, h2⟩)
      · exact .inr (.inr ⟨rfl, h2⟩)
    · exact .inr (.inl h1)
theorem less_asymm {a b : Bs} (h : less a b = true) : less b a = false := by
  cases e : less b a with
  | false => rfl
  | true =>
    have := less_trans a b a h e
    rw [less_irrefl] at this
    cases this

/-- a number's value -/
def valFrom (n : Nat) (p : Bs) : Nat := p.foldl (fun n c => n * 10 + (c.toNat - 48)) n
def val (p : Bs) : Nat := valFrom 0 p
theorem valFrom_cons (n : Nat) (c : UInt8) (r : Bs) : valFrom n (c :: r) = valFrom (n * 10 + (c.toNat - 48)) r := by
  unfold valFrom
  rw [List.foldl_cons]
theorem valFrom_eq (p : Bs) : ∀ n : Nat, valFrom n p = n * 10 ^ p.length + valFrom 0 p := by
  induction p with
  | nil => intro n; simp [valFrom]
  | cons c r ih =>
    intro n
    rw [valFrom_cons, ih, valFrom_cons 0, ih (0 * 10 + (c.toNat - 48))]
    simp only [List.length_cons, Nat.pow_succ]
    rw [Nat.add_mul, Nat.zero_mul, Nat.zero_add, Nat.mul_assoc, Nat.mul_comm 10, Nat.add_assoc]
theorem val_cons (c : UInt8) (r : Bs) : val (c :: r) = (c.toNat - 48) * 10 ^ r.length + val r := by
  unfold val
  rw [valFrom_cons, valFrom_eq, Nat.zero_mul, Nat.zero_add]
theorem dig_le {c : UInt8} (h : isDig c = true) : 48 ≤ c.toNat ∧ c.toNat ≤ 57 := by
  simp only [isDig, Bool.and_eq_true, decide_eq_true_eq, UInt8.le_iff_toNat_le] at h
  have e1 : (48 : UInt8).toNat = 48 := rfl
  have e2 : (57 : UInt8).toNat = 57 := rfl
  omega
theorem val_lt : ∀ p : Bs, p.all isDig = true → val p < 10 ^ p.length
  | [], _ => by simp [val, valFrom]
  | c :: r, h => by
    rw [List.all_cons, Bool.and_eq_true] at h
    have h1 := dig_le h.1
    have h2 := val_lt r h.2
    rw [val_cons, List.length_cons, Nat.pow_succ]
    have h3 : (c.toNat - 48) * 10 ^ r.length ≤ 9 * 10 ^ r.length := Nat.mul_le_mul_right _ (by omega)
    omega
/-- of numbers of one length the lesser one is less byte by byte -/
theorem val_less : ∀ a b : Bs, a.all isDig = true → b.all isDig = true → a.length = b.length → (val a < val b ↔ less a b = true)
  | [], [], _, _, _ => by simp [val, valFrom, less, Op.bytesLess]
  | a :: x, b :: y, ha, hb, hl => by
    rw [List.all_cons, Bool.and_eq_true] at ha hb
    have h1 := dig_le ha.1
    have h2 := dig_le hb.1
    have h3 := val_lt x ha.2
    have h4 := val_lt y hb.2
    have hl' : x.length = y.length := by simpa using hl
    have ih := val_less x y ha.2 hb.2 hl'
    rw [val_cons, val_cons, hl']
    rw [hl'] at h3
    simp only [less, Op.bytesLess, Bool.or_eq_true, decide_eq_true_eq, Bool.and_eq_true, beq_iff_eq]
    have hlt : a < b ↔ a.toNat < b.toNat := Iff.rfl
    rcases Nat.lt_trichotomy a.toNat b.toNat with h | h | h
    · have : (a.toNat - 48 + 1) * 10 ^ y.length ≤ (b.toNat - 48) * 10 ^ y.length := Nat.mul_le_mul_right _ (by omega)
      rw [Nat.add_mul, Nat.one_mul] at this
      exact ⟨fun _ => .inl h, fun _ => by omega⟩
    · have e : a = b := UInt8.toNat_inj.1 h
      subst e
      constructor
      · intro h'
        exact .inr ⟨rfl, ih.1 (by omega)⟩
      · rintro (h' | ⟨_, h'⟩)
        · exact absurd h' (UInt8.lt_irrefl a)
        · have := ih.2 h'; omega
    · have : (b.toNat - 48 + 1) * 10 ^ y.length ≤ (a.toNat - 48) * 10 ^ y.length := Nat.mul_le_mul_right _ (by omega)
      rw [Nat.add_mul, Nat.one_mul] at this
      constructor
      · intro h'; omega
      · rintro (h' | ⟨rfl, _⟩)
        · have : a.toNat < b.toNat := h'; omega
        · omega
/-- a number without a leading zero is at least 10 to its length less one -/
theorem val_ge (p : Bs) (h : p.all isDig = true) (hz : zeroNum p = false) (hl : 2 ≤ p.length) : 10 ^ (p.length - 1) ≤ val p := by
  cases p with
  | nil => simp at hl
  | cons c r =>
    rw [List.all_cons, Bool.and_eq_true] at h
    have h1 := dig_le h.1
    have h2 : c ≠ 48 := by
      rintro rfl
      have hl' : 1 < r.length + 1 := by simp at hl; omega
      have hr : r ≠ [] := by rintro rfl; simp at hl
      simp [zeroNum, digits, h.1, h.2, hr] at hz
    have h3 : c.toNat ≠ 48 := fun e => h2 (UInt8.toNat_inj.1 e)
    rw [val_cons]
    simp only [List.length_cons, Nat.add_sub_cancel]
    have : 1 * 10 ^ r.length ≤ (c.toNat - 48) * 10 ^ r.length := Nat.mul_le_mul_right _ (by omega)
    omega
theorem val_shorter {a b : Bs} (ha : digits a = true) (hb : digits b = true) (hz : zeroNum b = false) (hl : a.length < b.length) : val a < val b := by
  simp only [digits, Bool.and_eq_true, Bool.not_eq_true'] at ha hb
  have h1 := val_lt a ha.2
  have hla : 1 ≤ a.length := by cases a with | nil => simp at ha | cons _ _ => simp
  have h2 := val_ge b hb.2 hz (by omega)
  have h3 : 10 ^ a.length ≤ 10 ^ (b.length - 1) := Nat.pow_le_pow_right (by omega) (by omega)
  omega

/-- a valid piece of a prerelease -/
def okPiece (p : Bs) : Bool := validId p && !zeroNum p
theorem okPiece_parts {p : Bs} (h : okPiece p = true) : p ≠ [] ∧ zeroNum p = false := by
  simp only [okPiece, validId, Bool.and_eq_true, Bool.not_eq_true'] at h
  refine ⟨fun e => ?_, h.2⟩
  rw [e] at h
  simp at h

/-- two pieces as the package compares them -/
def part (s o : Bs) : Int :=
  if s = o then 0 else if s = [] then -1 else if o = [] then 1
  else if digits s = true then (if digits o = true then (if val o < val s then 1 else -1) else -1)
  else if digits o = true then 1 else if less s o = true then -1 else 1
/-- two pieces by clause 11 -/
def partSpec (s o : Bs) : Int :=
  if s = o then 0
  else if digits s = true ∧ digits o = true ∧ s.length ≠ o.length then (if s.length < o.length then -1 else 1)
  else if digits s ≠ digits o then (if digits s = true then -1 else 1)
  else if less s o = true then -1 else 1

theorem part_spec {s o : Bs} (hs : okPiece s = true) (ho : okPiece o = true) : part s o = partSpec s o := by
  obtain ⟨s1, s2⟩ := okPiece_parts hs
  obtain ⟨o1, o2⟩ := okPiece_parts ho
  unfold part partSpec
  by_cases e : s = o
  · rw [if_pos e, if_pos e]
  rw [if_neg e, if_neg e, if_neg s1, if_neg o1]
  by_cases d1 : digits s = true
  · by_cases d2 : digits o = true
    · rw [if_pos d1, if_pos d2]
      by_cases hl : s.length = o.length
      · have a1 : s.all isDig = true := by simp only [digits, Bool.and_eq_true] at d1; exact d1.2
        have a2 : o.all isDig = true := by simp only [digits, Bool.and_eq_true] at d2; exact d2.2
        have h1 := val_less s o a1 a2 hl
        have h2 := val_less o s a2 a1 hl.symm
        have c1 : ¬ (digits s = true ∧ digits o = true ∧ s.length ≠ o.length) := fun h => h.2.2 hl
        have c2 : ¬ (digits s ≠ digits o) := fun h => h (d1.trans d2.symm)
        rcases less_total s o e with h | h
        · have := h1.2 h
          rw [if_neg (by omega : ¬ val o < val s), if_neg c1, if_neg c2, if_pos h]
        · rw [if_pos (h2.2 h), if_neg c1, if_neg c2, if_neg (by rw [less_asymm h]; simp)]
      · have c1 : digits s = true ∧ digits o = true ∧ s.length ≠ o.length := ⟨d1, d2, hl⟩
        rcases Nat.lt_or_ge s.length o.length with h | h
        · have := val_shorter d1 d2 o2 h
          rw [if_neg (by omega : ¬ val o < val s), if_pos c1, if_pos h]
        · rw [if_pos (val_shorter d2 d1 s2 (by omega)), if_pos c1, if_neg (by omega)]
    · have c1 : ¬ (digits s = true ∧ digits o = true ∧ s.length ≠ o.length) := fun h => d2 h.2.1
      have c2 : digits s ≠ digits o := fun h => d2 (h.symm.trans d1)
      rw [if_pos d1, if_neg d2, if_neg c1, if_pos c2, if_pos d1]
  · have c1 : ¬ (digits s = true ∧ digits o = true ∧ s.length ≠ o.length) := fun h => d1 h.1
    by_cases d2 : digits o = true
    · have c2 : digits s ≠ digits o := fun h => d1 (h.trans d2)
      rw [if_neg d1, if_pos d2, if_neg c1, if_pos c2, if_neg d1]
    · have c2 : ¬ (digits s ≠ digits o) := fun h => h (by simp only [Bool.not_eq_true] at d1 d2; rw [d1, d2])
      rw [if_neg d1, if_neg d2, if_neg c1, if_neg c2]

/-- below, of two pieces -/
def lt (s o : Bs) : Prop := (digits s = true ∧ digits o = true ∧ s.length < o.length) ∨ (digits s = true ∧ digits o = false) ∨
  ((digits s = digits o ∧ (digits s = true → s.length = o.length)) ∧ less s o = true)
theorem lt_irrefl (a : Bs) : ¬ lt a a := by
  rintro (⟨_, _, h⟩ | ⟨h1, h2⟩ | ⟨_, h⟩)
  · omega
  · rw [h1] at h2; cases h2
  · rw [less_irrefl] at h; cases h
theorem lt_trans {a b c : Bs} (h1 : lt a b) (h2 : lt b c) : lt a c := by
  unfold lt at *
  rcases h1 with ⟨p1, p2, p3⟩ | ⟨p1, p2⟩ | ⟨⟨p1, p2⟩, p3⟩ <;> rcases h2 with ⟨q1, q2, q3⟩ | ⟨q1, q2⟩ | ⟨⟨q1, q2⟩, q3⟩
  · exact .inl ⟨p1, q2, by omega⟩
  · exact .inr (.inl ⟨p1, q2⟩)
  · refine .inl ⟨p1, by rw [← q1]; exact p2, ?_⟩
    have := q2 p2
    omega
  · rw [p2] at q1; cases q1
  · rw [p2] at q1; cases q1
  · exact .inr (.inl ⟨p1, by rw [← q1]; exact p2⟩)
  · refine .inl ⟨by rw [p1]; exact q1, q2, ?_⟩
    have := p2 (by rw [p1]; exact q1)
    omega
  · exact .inr (.inl ⟨by rw [p1]; exact q1, q2⟩)
  · refine .inr (.inr ⟨⟨p1.trans q1, fun h => ?_⟩, less_trans a b c p3 q3⟩)
    have := p2 h
    have := q2 (by rw [← p1]; exact h)
    omega
theorem lt_total {a b : Bs} (h : a ≠ b) : lt a b ∨ lt b a := by
  unfold lt
  cases ha : digits a with
  | true =>
    cases hb : digits b with
    | true =>
      rcases Nat.lt_trichotomy a.length b.length with h1 | h1 | h1
      · exact .inl (.inl ⟨rfl, rfl, h1⟩)
      · rcases less_total a b h with h2 | h2
        · exact .inl (.inr (.inr ⟨⟨rfl, fun _ => h1⟩, h2⟩))
        · exact .inr (.inr (.inr ⟨⟨rfl, fun _ => h1.symm⟩, h2⟩))
      · exact .inr (.inl ⟨rfl, rfl, h1⟩)
    | false => exact .inl (.inr (.inl ⟨rfl, rfl⟩))
  | false =>
    cases hb : digits b with
    | true => exact .inr (.inr (.inl ⟨rfl, rfl⟩))
    | false =>
      rcases less_total a b h with h2 | h2
      · exact .inl (.inr (.inr ⟨⟨rfl, fun h => by cases h⟩, h2⟩))
      · exact .inr (.inr (.inr ⟨⟨rfl, fun h => by cases h⟩, h2⟩))
theorem partSpec_eq (a : Bs) : partSpec a a = 0 := by simp [partSpec]
theorem partSpec_lt {a b : Bs} (h : lt a b) : partSpec a b = -1 := by
  have hne : a ≠ b := by rintro rfl; exact lt_irrefl a h
  unfold partSpec
  rw [if_neg hne]
  rcases h with ⟨p1, p2, p3⟩ | ⟨p1, p2⟩ | ⟨⟨p1, p2⟩, p3⟩
  · rw [if_pos ⟨p1, p2, by omega⟩, if_pos p3]
  · rw [if_neg (by rw [p2]; simp), if_pos (by rw [p1, p2]; simp), if_pos p1]
  · rw [if_neg (fun hc => hc.2.2 (p2 hc.1)), if_neg (by simp [p1]), if_pos p3]
theorem partSpec_gt {a b : Bs} (h : lt b a) : partSpec a b = 1 := by
  have hne : a ≠ b := by rintro rfl; exact lt_irrefl a h
  unfold partSpec
  rw [if_neg hne]
  rcases h with ⟨p1, p2, p3⟩ | ⟨p1, p2⟩ | ⟨⟨p1, p2⟩, p3⟩
  · rw [if_pos ⟨p2, p1, by omega⟩, if_neg (by omega)]
  · rw [if_neg (by rw [p2]; simp), if_pos (by rw [p1, p2]; simp), if_neg (by rw [p2]; simp)]
  · rw [if_neg (fun hc => hc.2.2 (p2 hc.2.1).symm), if_neg (by simp [p1]), if_neg (by rw [less_asymm p3]; simp)]

/-- a comparison that is a total order -/
structure IsCmp {α : Type} (f : α → α → Int) : Prop where
  refl : ∀ a, f a a = 0
  cases : ∀ a b, a ≠ b → (f a b = -1 ∧ f b a = 1) ∨ (f a b = 1 ∧ f b a = -1)
  trans : ∀ a b c, f a b = -1 → f b c = -1 → f a c = -1
theorem partSpec_cmp : IsCmp partSpec := by
  refine ⟨partSpec_eq, fun a b h => ?_, fun a b c h1 h2 => ?_⟩
  · rcases lt_total h with h | h
    · exact .inl ⟨partSpec_lt h, partSpec_gt h⟩
    · exact .inr ⟨partSpec_gt h, partSpec_lt h⟩
  · have g : ∀ x y, partSpec x y = -1 → lt x y := fun x y h => by
      by_cases e : x = y
      · subst e; rw [partSpec_eq] at h; cases h
      · rcases lt_total e with h' | h'
        · exact h'
        · rw [partSpec_gt h'] at h; cases h
    exact partSpec_lt (lt_trans (g a b h1) (g b c h2))

/-- lists, the first that differ deciding; what ends first is below -/
def cmpL {α : Type} (f : α → α → Int) : List α → List α → Int
  | [], [] => 0
  | [], _ :: _ => -1
  | _ :: _, [] => 1
  | s :: r, o :: t => if f s o = 0 then cmpL f r t else f s o
theorem IsCmp.zero {α : Type} {f : α → α → Int} (h : IsCmp f) {a b : α} (e : f a b = 0) : a = b := by
  refine Classical.byContradiction fun hne => ?_
  rcases h.cases a b hne with ⟨h1, _⟩ | ⟨h1, _⟩ <;> rw [h1] at e <;> cases e
theorem IsCmp.list {α : Type} {f : α → α → Int} (h : IsCmp f) : IsCmp (cmpL f) := by
  refine ⟨fun a => ?_, fun a => ?_, fun a => ?_⟩
  · induction a with
    | nil => rfl
    | cons x r ih => rw [cmpL, if_pos (h.refl x), ih]
  · induction a with
    | nil => intro b hb; cases b with
      | nil => exact absurd rfl hb
      | cons y t => exact .inl ⟨rfl, rfl⟩
    | cons x r ih => intro b hb; cases b with
      | nil => exact .inr ⟨rfl, rfl⟩
      | cons y t =>
        by_cases e : x = y
        · subst e
          rw [cmpL, cmpL, if_pos (h.refl x), if_pos (h.refl x)]
          exact ih t (fun e => hb (by rw [e]))
        · rw [cmpL, cmpL]
          rcases h.cases x y e with ⟨h1, h2⟩ | ⟨h1, h2⟩
          · rw [h1, h2]; exact .inl ⟨rfl, rfl⟩
          · rw [h1, h2]; exact .inr ⟨rfl, rfl⟩
  · induction a with
    | nil => intro b c h1 h2; cases b with
      | nil => cases h1
      | cons y t => cases c with
        | nil => cases h2
        | cons z u => rfl
    | cons x r ih => intro b c h1 h2; cases b with
      | nil => cases h1
      | cons y t => cases c with
        | nil => cases h2
        | cons z u =>
          rw [cmpL] at h1 h2 ⊢
          by_cases e1 : f x y = 0
          · have := h.zero e1
            subst this
            rw [if_pos (h.refl x)] at h1
            by_cases e2 : f x z = 0
            · rw [if_pos e2] at h2 ⊢
              exact ih t u h1 h2
            · rw [if_neg e2] at h2 ⊢
              exact h2
          · rw [if_neg e1] at h1
            by_cases e2 : f y z = 0
            · have := h.zero e2
              subst this
              rw [if_neg e1]
              exact h1
            · rw [if_neg e2] at h2
              have h3 := h.trans x y z h1 h2
              rw [h3]
              rfl

/-- what a total order says of three -/
theorem IsCmp.neg {α : Type} {f : α → α → Int} (h : IsCmp f) (a b : α) : f b a = -f a b := by
  by_cases e : a = b
  · subst e; rw [h.refl]; rfl
  · rcases h.cases a b e with ⟨h1, h2⟩ | ⟨h1, h2⟩ <;> rw [h1, h2] <;> rfl
theorem IsCmp.range {α : Type} {f : α → α → Int} (h : IsCmp f) (a b : α) : f a b = -1 ∨ f a b = 0 ∨ f a b = 1 := by
  by_cases e : a = b
  · subst e; rw [h.refl]; simp
  · rcases h.cases a b e with ⟨h1, h2⟩ | ⟨h1, h2⟩ <;> rw [h1] <;> simp
theorem IsCmp.iff {α : Type} {f : α → α → Int} (h : IsCmp f) (a b : α) : f a b = 0 ↔ a = b := ⟨h.zero, fun e => by subst e; exact h.refl a⟩
theorem IsCmp.le {α : Type} {f : α → α → Int} (h : IsCmp f) {a b c : α} (h1 : f a b ≤ 0) (h2 : f b c ≤ 0) : f a c ≤ 0 ∧ (f a c = 0 → a = b ∧ b = c) := by
  rcases h.range a b with e1 | e1 | e1
  · rcases h.range b c with e2 | e2 | e2
    · rw [h.trans a b c e1 e2]
      exact ⟨by omega, fun h => by cases h⟩
    · have := h.zero e2; subst this
      rw [e1]
      exact ⟨by omega, fun h => by cases h⟩
    · omega
  · have := h.zero e1; subst this
    refine ⟨h2, fun h3 => ⟨rfl, h.zero h3⟩⟩
  · omega

/-- the prereleases themselves -/
def cmpPre (a b : Bs) : Int := cmpL partSpec (splitOn 46 a) (splitOn 46 b)
theorem cmpPre_cmp : IsCmp cmpPre := by
  have h := partSpec_cmp.list
  exact ⟨fun a => h.refl _, fun a b e => h.cases _ _ (fun e' => e (split_inj 46 e')), fun a b c h1 h2 => h.trans _ _ _ h1 h2⟩
end M
end Go.Proofs.YtjipjhpehfbpkaaDoor
