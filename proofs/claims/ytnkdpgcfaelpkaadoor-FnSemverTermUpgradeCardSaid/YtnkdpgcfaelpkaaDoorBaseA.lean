/-
  Math, Pre, Str, Own, Ids, Split, Sent, Num, Val, Cmp, Only, Check, Short.
-/
import Derived.WalkKit
import Derived.Test.YtnkdpgcfaelpkaaDoorChecked
import Derived.Handy
import Derived.Lib.Hide
import Derived.OwnWalk
import Derived.Stop.LaidErr
import Derived.MakeChecks
import Derived.Below
import Derived.Test.YtnkdpgcfaelpkaaDoorShelf
import Derived.WalkLawsBesides
import Derived.Lib.AtoiErrMem
import Derived.Deep.RegionWith
import Derived.Deep.LoopGhost
import Derived.Lib.OthersKept
/-
  Plain facts on lists of bytes: parting at a byte, classes of bytes. No program in sight.
-/
namespace Go.Proofs.YtnkdpgcfaelpkaaDoor
namespace M

abbrev Bs := List UInt8

/-- the bytes of a string -/
def bs (s : ByteArray) : Bs := s.data.toList
theorem bs_length (s : ByteArray) : (bs s).length = s.size := by simp [bs]
theorem bs_get (s : ByteArray) (k : Nat) (h : k < s.size) : (bs s)[k]? = some s[k] := by
  unfold bs
  rw [List.getElem?_eq_getElem (by simpa using h)]
  rfl

/-- a list of bytes parted at each x -/
def splitOn (x : UInt8) : Bs → List Bs
  | [] => [[]]
  | c :: r => if c = x then [] :: splitOn x r else
    match splitOn x r with
    | h :: t => (c :: h) :: t
    | [] => [[c]]

theorem splitOn_ne (x : UInt8) (l : Bs) : splitOn x l ≠ [] := by
  cases l with
  | nil => simp [splitOn]
  | cons c r =>
    unfold splitOn
    split
    · simp
    · split <;> simp

theorem splitOn_none (x : UInt8) (l : Bs) (h : ∀ c ∈ l, c ≠ x) : splitOn x l = [l] := by
  induction l with
  | nil => rfl
  | cons c r ih =>
    rw [splitOn, if_neg (h c List.mem_cons_self), ih (fun d hd => h d (List.mem_cons_of_mem _ hd))]

theorem splitOn_first (x : UInt8) (a b : Bs) (h : ∀ c ∈ a, c ≠ x) : splitOn x (a ++ x :: b) = a :: splitOn x b := by
  induction a with
  | nil => simp [splitOn]
  | cons c r ih =>
    rw [List.cons_append, splitOn, if_neg (h c List.mem_cons_self), ih (fun d hd => h d (List.mem_cons_of_mem _ hd))]

/-- the number of pieces is one more than the number of x -/
theorem splitOn_length (x : UInt8) (l : Bs) : (splitOn x l).length ≤ l.length + 1 := by
  induction l with
  | nil => simp [splitOn]
  | cons c r ih =>
    unfold splitOn
    split
    · simp; omega
    · split
      · rename_i h t e; rw [e] at ih; simp at ih ⊢; omega
      · simp

/-- no piece holds x -/
theorem splitOn_mem (x : UInt8) (l : Bs) : ∀ p ∈ splitOn x l, ∀ c ∈ p, c ≠ x := by
  induction l with
  | nil => simp [splitOn]
  | cons d r ih =>
    unfold splitOn
    split
    · intro p hp
      rcases List.mem_cons.1 hp with rfl | hp
      · simp
      · exact ih p hp
    · rename_i hd
      split
      · rename_i h t e
        intro p hp
        rw [e] at ih
        rcases List.mem_cons.1 hp with rfl | hp
        · intro c hc
          rcases List.mem_cons.1 hc with rfl | hc
          · exact hd
          · exact ih h List.mem_cons_self c hc
        · exact ih p (List.mem_cons_of_mem _ hp)
      · intro p hp
        simp at hp
        subst hp
        simpa using hd

/-- a piece is no longer than the whole -/
theorem piece_le (x : UInt8) (l : Bs) : ∀ p ∈ splitOn x l, p.length ≤ l.length := by
  induction l with
  | nil => simp [splitOn]
  | cons d r ih =>
    unfold splitOn
    split
    · intro p hp
      rcases List.mem_cons.1 hp with rfl | hp
      · simp
      · have := ih p hp; simp; omega
    · split
      · rename_i h t e
        intro p hp
        rw [e] at ih
        rcases List.mem_cons.1 hp with rfl | hp
        · have := ih h List.mem_cons_self; simp; omega
        · have := ih p (List.mem_cons_of_mem _ hp); simp; omega
      · intro p hp
        simp at hp
        subst hp
        simp

/-- each byte of a piece is a byte of the whole -/
theorem splitOn_sub (x : UInt8) (l : Bs) : ∀ p ∈ splitOn x l, ∀ c ∈ p, c ∈ l := by
  induction l with
  | nil => simp [splitOn]
  | cons d r ih =>
    unfold splitOn
    split
    · intro p hp
      rcases List.mem_cons.1 hp with rfl | hp
      · simp
      · exact fun c hc => List.mem_cons_of_mem _ (ih p hp c hc)
    · split
      · rename_i h t e
        intro p hp
        rw [e] at ih
        rcases List.mem_cons.1 hp with rfl | hp
        · intro c hc
          rcases List.mem_cons.1 hc with rfl | hc
          · exact List.mem_cons_self
          · exact List.mem_cons_of_mem _ (ih h List.mem_cons_self c hc)
        · exact fun c hc => List.mem_cons_of_mem _ (ih p (List.mem_cons_of_mem _ hp) c hc)
      · intro p hp
        simp at hp
        subst hp
        simp

/-- pieces put together again -/
def joinWith (x : UInt8) : List Bs → Bs
  | [] => []
  | [p] => p
  | p :: q :: r => p ++ x :: joinWith x (q :: r)
theorem join_split (x : UInt8) (l : Bs) : joinWith x (splitOn x l) = l := by
  induction l with
  | nil => rfl
  | cons c r ih =>
    unfold splitOn
    split
    · rename_i h
      subst h
      cases e : splitOn c r with
      | nil => exact absurd e (splitOn_ne _ _)
      | cons p t => rw [e] at ih; simp [joinWith, ih]
    · split
      · rename_i h t e
        rw [e] at ih
        cases t with
        | nil => simp [joinWith] at ih ⊢; exact ih
        | cons q t => simp [joinWith] at ih ⊢; exact ih
      · rename_i e; exact absurd e (splitOn_ne _ _)

theorem split_inj (x : UInt8) {a b : Bs} (h : splitOn x a = splitOn x b) : a = b := by
  rw [← join_split x a, ← join_split x b, h]

theorem splitOn_append (x : UInt8) (a b : Bs) : splitOn x (a ++ x :: b) = splitOn x a ++ splitOn x b := by
  induction a with
  | nil => simp [splitOn]
  | cons c r ih =>
    rw [List.cons_append, splitOn, splitOn]
    split
    · rw [ih]; rfl
    · rw [ih]
      cases e : splitOn x r with
      | nil => exact absurd e (splitOn_ne _ _)
      | cons p t => simp

def isDig (c : UInt8) : Bool := 48 ≤ c && c ≤ 57
def isIdc (c : UInt8) : Bool := isDig c || (65 ≤ c && c ≤ 90) || (97 ≤ c && c ≤ 122) || c == 45
/-- at least one byte, and digits alone -/
def digits (p : Bs) : Bool := !p.isEmpty && p.all isDig
def validId (p : Bs) : Bool := !p.isEmpty && p.all isIdc
def validMeta (l : Bs) : Bool := (splitOn 46 l).all validId
/-- a number with a leading zero -/
def zeroNum (p : Bs) : Bool := digits p && decide (1 < p.length) && p.head? == some 48
def validPre (l : Bs) : Bool := (splitOn 46 l).all fun p => validId p && !zeroNum p
def smallPre (l : Bs) : Bool := (splitOn 46 l).all fun p => !(digits p && decide (19 < p.length))

theorem isDig_idc {c : UInt8} (h : isDig c = true) : isIdc c = true := by simp [isIdc, h]
end M
end Go.Proofs.YtnkdpgcfaelpkaaDoor

/-
  The order of prereleases (clause 11 of Semantic Versioning): pieces that are numbers, other pieces, lists of pieces. Plain facts: no program in sight.
-/
namespace Go.Proofs.YtnkdpgcfaelpkaaDoor
namespace M

/-- strings byte by byte -/
abbrev less : Bs → Bs → Bool := Op.bytesLess
theorem less_irrefl : ∀ a : Bs, less a a = false
  | [] => rfl
  | c :: r => by
    simp only [less, Op.bytesLess, Bool.or_eq_false_iff, decide_eq_false_iff_not, Bool.and_eq_false_iff]
    exact ⟨UInt8.lt_irrefl c, .inr (less_irrefl r)⟩
theorem less_trans : ∀ a b c : Bs, less a b = true → less b c = true → less a c = true
  | [], [], c, h, _ => by simp [less, Op.bytesLess] at h
  | [], b :: y, [], _, h => by simp [less, Op.bytesLess] at h
  | [], b :: y, c :: z, _, _ => by simp [less, Op.bytesLess]
  | a :: x, [], c, h, _ => by simp [less, Op.bytesLess] at h
  | a :: x, b :: y, [], _, h => by simp [less, Op.bytesLess] at h
  | a :: x, b :: y, c :: z, h1, h2 => by
    simp only [less, Op.bytesLess, Bool.or_eq_true, decide_eq_true_eq, Bool.and_eq_true, beq_iff_eq] at h1 h2 ⊢
    rcases h1 with h1 | ⟨rfl, h1⟩
    · rcases h2 with h2 | ⟨rfl, h2⟩
      · exact .inl (UInt8.lt_trans h1 h2)
      · exact .inl h1
    · rcases h2 with h2 | ⟨rfl, h2⟩
      · exact .inl h2
      · exact .inr ⟨rfl, less_trans x y z h1 h2⟩
theorem less_total : ∀ a b : Bs, a ≠ b → less a b = true ∨ less b a = true
  | [], [], h => absurd rfl h
  | [], b :: y, _ => by simp [less, Op.bytesLess]
  | a :: x, [], _ => by simp [less, Op.bytesLess]
  | a :: x, b :: y, h => by
    simp only [less, Op.bytesLess, Bool.or_eq_true, decide_eq_true_eq, Bool.and_eq_true, beq_iff_eq]
    rcases Nat.lt_trichotomy a.toNat b.toNat with h1 | h1 | h1
    · exact .inl (.inl h1)
    · have e : a = b := UInt8.toNat_inj.1 h1
      subst e
      rcases less_total x y (fun e => h (by rw [e])) with h2 | h2
      · exact .inl (.inr ⟨rfl, h2⟩)
      · exact .inr (.inr ⟨rfl, h2⟩)
    · exact .inr (.inl h1)
theorem less_asymm {a b : Bs} (h : less a b = true) : less b a = false := by
  cases e : less b a with
  | false => rfl
  | true =>
    have := less_trans a b a h e
    rw [less_irrefl] at this
    cases this

/-- a number's value -/
def valFrom (n : Nat) (p : Bs) : Nat := p.foldl (fun n c => n * 10 + (c.toNat - 48)) n
def val (p : Bs) : Nat := valFrom 0 p
theorem valFrom_cons (n : Nat) (c : UInt8) (r : Bs) : valFrom n (c :: r) = valFrom (n * 10 + (c.toNat - 48)) r := by
  unfold valFrom
  rw [List.foldl_cons]
theorem valFrom_eq (p : Bs) : ∀ n : Nat, valFrom n p = n * 10 ^ p.length + valFrom 0 p := by
  induction p with
  | nil => intro n; simp [valFrom]
  | cons c r ih =>
    intro n
    rw [valFrom_cons, ih, valFrom_cons 0, ih (0 * 10 + (c.toNat - 48))]
    simp only [List.length_cons, Nat.pow_succ]
    rw [Nat.add_mul, Nat.zero_mul, Nat.zero_add, Nat.mul_assoc, Nat.mul_comm 10, Nat.add_assoc]
theorem val_cons (c : UInt8) (r : Bs) : val (c :: r) = (c.toNat - 48) * 10 ^ r.length + val r := by
  unfold val
  rw [valFrom_cons, valFrom_eq, Nat.zero_mul, Nat.zero_add]
theorem dig_le {c : UInt8} (h : isDig c = true) : 48 ≤ c.toNat ∧ c.toNat ≤ 57 := by
  simp only [isDig, Bool.and_eq_true, decide_eq_true_eq, UInt8.le_iff_toNat_le] at h
  have e1 : (48 : UInt8).toNat = 48 := rfl
  have e2 : (57 : UInt8).toNat = 57 := rfl
  omega
theorem val_lt : ∀ p : Bs, p.all isDig = true → val p < 10 ^ p.length
  | [], _ => by simp [val, valFrom]
  | c :: r, h => by
    rw [List.all_cons, Bool.and_eq_true] at h
    have h1 := dig_le h.1
    have h2 := val_lt r h.2
    rw [val_cons, List.length_cons, Nat.pow_succ]
    have h3 : (c.toNat - 48) * 10 ^ r.length ≤ 9 * 10 ^ r.length := Nat.mul_le_mul_right _ (by omega)
    omega
/-- of numbers of one length the lesser one is less byte by byte -/
theorem val_less : ∀ a b : Bs, a.all isDig = true → b.all isDig = true → a.length = b.length → (val a < val b ↔ less a b = true)
  | [], [], _, _, _ => by simp [val, valFrom, less, Op.bytesLess]
  | a :: x, b :: y, ha, hb, hl => by
    rw [List.all_cons, Bool.and_eq_true] at ha hb
    have h1 := dig_le ha.1
    have h2 := dig_le hb.1
    have h3 := val_lt x ha.2
    have h4 := val_lt y hb.2
    have hl' : x.length = y.length := by simpa using hl
    have ih := val_less x y ha.2 hb.2 hl'
    rw [val_cons, val_cons, hl']
    rw [hl'] at h3
    simp only [less, Op.bytesLess, Bool.or_eq_true, decide_eq_true_eq, Bool.and_eq_true, beq_iff_eq]
    have hlt : a < b ↔ a.toNat < b.toNat := Iff.rfl
    rcases Nat.lt_trichotomy a.toNat b.toNat with h | h | h
    · have : (a.toNat - 48 + 1) * 10 ^ y.length ≤ (b.toNat - 48) * 10 ^ y.length := Nat.mul_le_mul_right _ (by omega)
      rw [Nat.add_mul, Nat.one_mul] at this
      exact ⟨fun _ => .inl h, fun _ => by omega⟩
    · have e : a = b := UInt8.toNat_inj.1 h
      subst e
      constructor
      · intro h'
        exact .inr ⟨rfl, ih.1 (by omega)⟩
      · rintro (h' | ⟨_, h'⟩)
        · exact absurd h' (UInt8.lt_irrefl a)
        · have := ih.2 h'; omega
    · have : (b.toNat - 48 + 1) * 10 ^ y.length ≤ (a.toNat - 48) * 10 ^ y.length := Nat.mul_le_mul_right _ (by omega)
      rw [Nat.add_mul, Nat.one_mul] at this
      constructor
      · intro h'; omega
      · rintro (h' | ⟨rfl, _⟩)
        · have : a.toNat < b.toNat := h'; omega
        · omega
/-- a number without a leading zero is at least 10 to its length less one -/
theorem val_ge (p : Bs) (h : p.all isDig = true) (hz : zeroNum p = false) (hl : 2 ≤ p.length) : 10 ^ (p.length - 1) ≤ val p := by
  cases p with
  | nil => simp at hl
  | cons c r =>
    rw [List.all_cons, Bool.and_eq_true] at h
    have h1 := dig_le h.1
    have h2 : c ≠ 48 := by
      rintro rfl
      have hl' : 1 < r.length + 1 := by simp at hl; omega
      have hr : r ≠ [] := by rintro rfl; simp at hl
      simp [zeroNum, digits, h.1, h.2, hr] at hz
    have h3 : c.toNat ≠ 48 := fun e => h2 (UInt8.toNat_inj.1 e)
    rw [val_cons]
    simp only [List.length_cons, Nat.add_sub_cancel]
    have : 1 * 10 ^ r.length ≤ (c.toNat - 48) * 10 ^ r.length := Nat.mul_le_mul_right _ (by omega)
    omega
theorem val_shorter {a b : Bs} (ha : digits a = true) (hb : digits b = true) (hz : zeroNum b = false) (hl : a.length < b.length) : val a < val b := by
  simp only [digits, Bool.and_eq_true, Bool.not_eq_true'] at ha hb
  have h1 := val_lt a ha.2
  have hla : 1 ≤ a.length := by cases a with | nil => simp at ha | cons _ _ => simp
  have h2 := val_ge b hb.2 hz (by omega)
  have h3 : 10 ^ a.length ≤ 10 ^ (b.length - 1) := Nat.pow_le_pow_right (by omega) (by omega)
  omega

/-- a valid piece of a prerelease -/
def okPiece (p : Bs) : Bool := validId p && !zeroNum p
theorem okPiece_parts {p : Bs} (h : okPiece p = true) : p ≠ [] ∧ zeroNum p = false := by
  simp only [okPiece, validId, Bool.and_eq_true, Bool.not_eq_true'] at h
  refine ⟨fun e => ?_, h.2⟩
  rw [e] at h
  simp at h

/-- two pieces as the package compares them -/
def part (s o : Bs) : Int :=
  if s = o then 0 else if s = [] then -1 else if o = [] then 1
  else if digits s = true then (if digits o = true then (if val o < val s then 1 else -1) else -1)
  else if digits o = true then 1 else if less s o = true then -1 else 1
/-- two pieces by clause 11 -/
def partSpec (s o : Bs) : Int :=
  if s = o then 0
  else if digits s = true ∧ digits o = true ∧ s.length ≠ o.length then (if s.length < o.length then -1 else 1)
  else if digits s ≠ digits o then (if digits s = true then -1 else 1)
  else if less s o = true then -1 else 1

theorem part_spec {s o : Bs} (hs : okPiece s = true) (ho : okPiece o = true) : part s o = partSpec s o := by
  obtain ⟨s1, s2⟩ := okPiece_parts hs
  obtain ⟨o1, o2⟩ := okPiece_parts ho
  unfold part partSpec
  by_cases e : s = o
  · rw [if_pos e, if_pos e]
  rw [if_neg e, if_neg e, if_neg s1, if_neg o1]
  by_cases d1 : digits s = true
  · by_cases d2 : digits o = true
    · rw [if_pos d1, if_pos d2]
      by_cases hl : s.length = o.length
      · have a1 : s.all isDig = true := by simp only [digits, Bool.and_eq_true] at d1; exact d1.2
        have a2 : o.all isDig = true := by simp only [digits, Bool.and_eq_true] at d2; exact d2.2
        have h1 := val_less s o a1 a2 hl
        have h2 := val_less o s a2 a1 hl.symm
        have c1 : ¬ (digits s = true ∧ digits o = true ∧ s.length ≠ o.length) := fun h => h.2.2 hl
        have c2 : ¬ (digits s ≠ digits o) := fun h => h (d1.trans d2.symm)
        rcases less_total s o e with h | h
        · have := h1.2 h
          rw [if_neg (by omega : ¬ val o < val s), if_neg c1, if_neg c2, if_pos h]
        · rw [if_pos (h2.2 h), if_neg c1, if_neg c2, if_neg (by rw [less_asymm h]; simp)]
      · have c1 : digits s = true ∧ digits o = true ∧ s.length ≠ o.length := ⟨d1, d2, hl⟩
        rcases Nat.lt_or_ge s.length o.length with h | h
        · have := val_shorter d1 d2 o2 h
          rw [if_neg (by omega : ¬ val o < val s), if_pos c1, if_pos h]
        · rw [if_pos (val_shorter d2 d1 s2 (by omega)), if_pos c1, if_neg (by omega)]
    · have c1 : ¬ (digits s = true ∧ digits o = true ∧ s.length ≠ o.length) := fun h => d2 h.2.1
      have c2 : digits s ≠ digits o := fun h => d2 (h.symm.trans d1)
      rw [if_pos d1, if_neg d2, if_neg c1, if_pos c2, if_pos d1]
  · have c1 : ¬ (digits s = true ∧ digits o = true ∧ s.length ≠ o.length) := fun h => d1 h.1
    by_cases d2 : digits o = true
    · have c2 : digits s ≠ digits o := fun h => d1 (h.trans d2)
      rw [if_neg d1, if_pos d2, if_neg c1, if_pos c2, if_neg d1]
    · have c2 : ¬ (digits s ≠ digits o) := fun h => h (by simp only [Bool.not_eq_true] at d1 d2; rw [d1, d2])
      rw [if_neg d1, if_neg d2, if_neg c1, if_neg c2]

/-- below, of two pieces -/
def lt (s o : Bs) : Prop := (digits s = true ∧ digits o = true ∧ s.length < o.length) ∨ (digits s = true ∧ digits o = false) ∨
  ((digits s = digits o ∧ (digits s = true → s.length = o.length)) ∧ less s o = true)
theorem lt_irrefl (a : Bs) : ¬ lt a a := by
  rintro (⟨_, _, h⟩ | ⟨h1, h2⟩ | ⟨_, h⟩)
  · omega
  · rw [h1] at h2; cases h2
  · rw [less_irrefl] at h; cases h
theorem lt_trans {a b c : Bs} (h1 : lt a b) (h2 : lt b c) : lt a c := by
  unfold lt at *
  rcases h1 with ⟨p1, p2, p3⟩ | ⟨p1, p2⟩ | ⟨⟨p1, p2⟩, p3⟩ <;> rcases h2 with ⟨q1, q2, q3⟩ | ⟨q1, q2⟩ | ⟨⟨q1, q2⟩, q3⟩
  · exact .inl ⟨p1, q2, by omega⟩
  · exact .inr (.inl ⟨p1, q2⟩)
  · refine .inl ⟨p1, by rw [← q1]; exact p2, ?_⟩
    have := q2 p2
    omega
  · rw [p2] at q1; cases q1
  · rw [p2] at q1; cases q1
  · exact .inr (.inl ⟨p1, by rw [← q1]; exact p2⟩)
  · refine .inl ⟨by rw [p1]; exact q1, q2, ?_⟩
    have := p2 (by rw [p1]; exact q1)
    omega
  · exact .inr (.inl ⟨by rw [p1]; exact q1, q2⟩)
  · refine .inr (.inr ⟨⟨p1.trans q1, fun h => ?_⟩, less_trans a b c p3 q3⟩)
    have := p2 h
    have := q2 (by rw [← p1]; exact h)
    omega
theorem lt_total {a b : Bs} (h : a ≠ b) : lt a b ∨ lt b a := by
  unfold lt
  cases ha : digits a with
  | true =>
    cases hb : digits b with
    | true =>
      rcases Nat.lt_trichotomy a.length b.length with h1 | h1 | h1
      · exact .inl (.inl ⟨rfl, rfl, h1⟩)
      · rcases less_total a b h with h2 | h2
        · exact .inl (.inr (.inr ⟨⟨rfl, fun _ => h1⟩, h2⟩))
        · exact .inr (.inr (.inr ⟨⟨rfl, fun _ => h1.symm⟩, h2⟩))
      · exact .inr (.inl ⟨rfl, rfl, h1⟩)
    | false => exact .inl (.inr (.inl ⟨rfl, rfl⟩))
  | false =>
    cases hb : digits b with
    | true => exact .inr (.inr (.inl ⟨rfl, rfl⟩))
    | false =>
      rcases less_total a b h with h2 | h2
      · exact .inl (.inr (.inr ⟨⟨rfl, fun h => by cases h⟩, h2⟩))
      · exact .inr (.inr (.inr ⟨⟨rfl, fun h => by cases h⟩, h2⟩))
theorem partSpec_eq (a : Bs) : partSpec a a = 0 := by simp [partSpec]
theorem partSpec_lt {a b : Bs} (h : lt a b) : partSpec a b = -1 := by
  have hne : a ≠ b := by rintro rfl; exact lt_irrefl a h
  unfold partSpec
  rw [if_neg hne]
  rcases h with ⟨p1, p2, p3⟩ | ⟨p1, p2⟩ | ⟨⟨p1, p2⟩, p3⟩
  · rw [if_pos ⟨p1, p2, by omega⟩, if_pos p3]
  · rw [if_neg (by rw [p2]; simp), if_pos (by rw [p1, p2]; simp), if_pos p1]
  · rw [if_neg (fun hc => hc.2.2 (p2 hc.1)), if_neg (by simp [p1]), if_pos p3]
theorem partSpec_gt {a b : Bs} (h : lt b a) : partSpec a b = 1 := by
  have hne : a ≠ b := by rintro rfl; exact lt_irrefl a h
  unfold partSpec
  rw [if_neg hne]
  rcases h with ⟨p1, p2, p3⟩ | ⟨p1, p2⟩ | ⟨⟨p1, p2⟩, p3⟩
  · rw [if_pos ⟨p2, p1, by omega⟩, if_neg (by omega)]
  · rw [if_neg (by rw [p2]; simp), if_pos (by rw [p1, p2]; simp), if_neg (by rw [p2]; simp)]
  · rw [if_neg (fun hc => hc.2.2 (p2 hc.2.1).symm), if_neg (by simp [p1]), if_neg (by rw [less_asymm p3]; simp)]

/-- a comparison that is a total order -/
structure IsCmp {α : Type} (f : α → α → Int) : Prop where
  refl : ∀ a, f a a = 0
  cases : ∀ a b, a ≠ b → (f a b = -1 ∧ f b a = 1) ∨ (f a b = 1 ∧ f b a = -1)
  trans : ∀ a b c, f a b = -1 → f b c = -1 → f a c = -1
theorem partSpec_cmp : IsCmp partSpec := by
  refine ⟨partSpec_eq, fun a b h => ?_, fun a b c h1 h2 => ?_⟩
  · rcases lt_total h with h | h
    · exact .inl ⟨partSpec_lt h, partSpec_gt h⟩
    · exact .inr ⟨partSpec_gt h, partSpec_lt h⟩
  · have g : ∀ x y, partSpec x y = -1 → lt x y := fun x y h => by
      by_cases e : x = y
      · subst e; rw [partSpec_eq] at h; cases h
      · rcases lt_total e with h' | h'
        · exact h'
        · rw [partSpec_gt h'] at h; cases h
    exact partSpec_lt (lt_trans (g a b h1) (g b c h2))

/-- lists, the first that differ deciding; what ends first is below -/
def cmpL {α : Type} (f : α → α → Int) : List α → List α → Int
  | [], [] => 0
  | [], _ :: _ => -1
  | _ :: _, [] => 1
  | s :: r, o :: t => if f s o = 0 then cmpL f r t else f s o
theorem IsCmp.zero {α : Type} {f : α → α → Int} (h : IsCmp f) {a b : α} (e : f a b = 0) : a = b := by
  refine Classical.byContradiction fun hne => ?_
  rcases h.cases a b hne with ⟨h1, _⟩ | ⟨h1, _⟩ <;> rw [h1] at e <;> cases e
theorem IsCmp.list {α : Type} {f : α → α → Int} (h : IsCmp f) : IsCmp (cmpL f) := by
  refine ⟨fun a => ?_, fun a => ?_, fun a => ?_⟩
  · induction a with
    | nil => rfl
    | cons x r ih => rw [cmpL, if_pos (h.refl x), ih]
  · induction a with
    | nil => intro b hb; cases b with
      | nil => exact absurd rfl hb
      | cons y t => exact .inl ⟨rfl, rfl⟩
    | cons x r ih => intro b hb; cases b with
      | nil => exact .inr ⟨rfl, rfl⟩
      | cons y t =>
        by_cases e : x = y
        · subst e
          rw [cmpL, cmpL, if_pos (h.refl x), if_pos (h.refl x)]
          exact ih t (fun e => hb (by rw [e]))
        · rw [cmpL, cmpL]
          rcases h.cases x y e with ⟨h1, h2⟩ | ⟨h1, h2⟩
          · rw [h1, h2]; exact .inl ⟨rfl, rfl⟩
          · rw [h1, h2]; exact .inr ⟨rfl, rfl⟩
  · induction a with
    | nil => intro b c h1 h2; cases b with
      | nil => cases h1
      | cons y t => cases c with
        | nil => cases h2
        | cons z u => rfl
    | cons x r ih => intro b c h1 h2; cases b with
      | nil => cases h1
      | cons y t => cases c with
        | nil => cases h2
        | cons z u =>
          rw [cmpL] at h1 h2 ⊢
          by_cases e1 : f x y = 0
          · have := h.zero e1
            subst this
            rw [if_pos (h.refl x)] at h1
            by_cases e2 : f x z = 0
            · rw [if_pos e2] at h2 ⊢
              exact ih t u h1 h2
            · rw [if_neg e2] at h2 ⊢
              exact h2
          · rw [if_neg e1] at h1
            by_cases e2 : f y z = 0
            · have := h.zero e2
              subst this
              rw [if_neg e1]
              exact h1
            · rw [if_neg e2] at h2
              have h3 := h.trans x y z h1 h2
              rw [h3]
              rfl

/-- what a total order says of three -/
theorem IsCmp.neg {α : Type} {f : α → α → Int} (h : IsCmp f) (a b : α) : f b a = -f a b := by
  by_cases e : a = b
  · subst e; rw [h.refl]; rfl
  · rcases h.cases a b e with ⟨h1, h2⟩ | ⟨h1, h2⟩ <;> rw [h1, h2] <;> rfl
theorem IsCmp.range {α : Type} {f : α → α → Int} (h : IsCmp f) (a b : α) : f a b = -1 ∨ f a b = 0 ∨ f a b = 1 := by
  by_cases e : a = b
  · subst e; rw [h.refl]; simp
  · rcases h.cases a b e with ⟨h1, h2⟩ | ⟨h1, h2⟩ <;> rw [h1] <;> simp
theorem IsCmp.iff {α : Type} {f : α → α → Int} (h : IsCmp f) (a b : α) : f a b = 0 ↔ a = b := ⟨h.zero, fun e => by subst e; exact h.refl a⟩
theorem IsCmp.le {α : Type} {f : α → α → Int} (h : IsCmp f) {a b c : α} (h1 : f a b ≤ 0) (h2 : f b c ≤ 0) : f a c ≤ 0 ∧ (f a c = 0 → a = b ∧ b = c) := by
  rcases h.range a b with e1 | e1 | e1
  · rcases h.range b c with e2 | e2 | e2
    · rw [h.trans a b c e1 e2]
      exact ⟨by omega, fun h => by cases h⟩
    · have := h.zero e2; subst this
      rw [e1]
      exact ⟨by omega, fun h => by cases h⟩
    · omega
  · have := h.zero e1; subst this
    refine ⟨h2, fun h3 => ⟨rfl, h.zero h3⟩⟩
  · omega

/-- the prereleases themselves -/
def cmpPre (a b : Bs) : Int := cmpL partSpec (splitOn 46 a) (splitOn 46 b)
theorem cmpPre_cmp : IsCmp cmpPre := by
  have h := partSpec_cmp.list
  exact ⟨fun a => h.refl _, fun a b e => h.cases _ _ (fun e' => e (split_inj 46 e')), fun a b c h1 h2 => h.trans _ _ _ h1 h2⟩
end M
end Go.Proofs.YtnkdpgcfaelpkaaDoor

/-
  The reference's small checks of bytes and identifiers, as plain facts on bytes.
-/
namespace Go.Proofs.YtnkdpgcfaelpkaaDoor
open Go.RowKit

theorem dig_int (c : UInt8) : M.isDig c = decide (48 ≤ (c.toNat : Int) ∧ (c.toNat : Int) ≤ 57) := by
  unfold M.isDig
  rw [Bool.eq_iff_iff]
  simp [UInt8.le_iff_toNat_le]
  omega

theorem ret_bool {a b : Bool} (h : a = b) : Ending.returned (.bool a) = .returned (.bool b) := by rw [h]

theorem byte_eq {c : UInt8} {n : Int} (d : UInt8) (hd : (d.toNat : Int) = n) (h : ((c.toNat : Int) == n) = true) : c = d := by
  rw [beq_iff_eq, ← hd] at h
  exact UInt8.toNat_inj.1 (by omega)
theorem byte_ne {c : UInt8} {n : Int} (d : UInt8) (hd : (d.toNat : Int) = n) (h : ((c.toNat : Int) == n) = false) : c ≠ d := by
  rintro rfl
  rw [hd] at h
  simp at h

theorem isDigit_any (c : UInt8) (w : World) :
    Calls Tryd.prog 64 #[.int .u8 c.toNat] w fun e w' => e = .returned (.bool (M.isDig c)) ∧ w' = w := by
  have h255 : (c.toNat : Int) ≤ 255 := by have := c.toNat_lt; omega
  go_enter Tryd.func64, Tryd.ntmps64
  go_wp2
  all_goals (go_ret; refine ⟨ret_bool ?_, rfl⟩; rw [dig_int, Bool.eq_iff_iff]; simp; omega)

theorem idc_int (c : UInt8) : M.isIdc c = (M.isDig c || decide (65 ≤ (c.toNat : Int) ∧ (c.toNat : Int) ≤ 90 ∨ 97 ≤ (c.toNat : Int) ∧ (c.toNat : Int) ≤ 122 ∨ (c.toNat : Int) = 45)) := by
  unfold M.isIdc
  rw [Bool.eq_iff_iff]
  cases M.isDig c
  · simp [UInt8.le_iff_toNat_le, ← UInt8.toNat_inj]
    omega
  · simp

theorem isIdent_any (c : UInt8) (w : World) :
    Calls Tryd.prog 63 #[.int .u8 c.toNat] w fun e w' => e = .returned (.bool (M.isIdc c)) ∧ w' = w := by
  have h255 : (c.toNat : Int) ≤ 255 := by have := c.toNat_lt; omega
  go_enter Tryd.func63, Tryd.ntmps63
  go_wp2_with ((go_at_call 64; (with_reducible refine (isDigit_any _ _).mono ?_); rintro e w' ⟨rfl, rfl⟩))
  all_goals (go_ret; refine ⟨ret_bool ?_, rfl⟩; rw [idc_int, Bool.eq_iff_iff]; simp [*]; try omega)

theorem digits_loop (s : ByteArray) (k : Nat) (h : k < s.size) : (M.bs s).take (k + 1) = (M.bs s).take k ++ [s[k]] := by
  rw [List.take_succ_eq_append_getElem (by simpa [M.bs] using h)]; rfl

/-- 'for all bytes': a loop that returns false at the first that fails -/
theorem all_take (p : UInt8 → Bool) (s : ByteArray) (k : Nat) (h : k < s.size) (hk : ((M.bs s).take k).all p = true) (hp : p s[k] = true) : ((M.bs s).take (k + 1)).all p = true := by
  rw [digits_loop s k h, List.all_append, hk]
  simp [hp]
theorem all_false (p : UInt8 → Bool) (s : ByteArray) (k : Nat) (h : k < s.size) (hp : p s[k] = false) : (M.bs s).all p = false := by
  rw [List.all_eq_false]
  exact ⟨s[k], by unfold M.bs; exact List.getElem_mem (by simpa using h), by simp [hp]⟩
theorem empty_bs (s : ByteArray) : (M.bs s).isEmpty = s.toList.isEmpty := by rw [ByteArray.toList_eq]; rfl

theorem digits_any (s : ByteArray) (w : World) (hs : s.size ≤ 9223372036854775807) :
    Calls Tryd.prog 52 #[.string s] w fun e w' => e = .returned (.bool (M.digits (M.bs s))) ∧ w' = w := by
  go_enter Tryd.func52, Tryd.ntmps52
  go_wp2
  go_loop [3] (fun i => ∃ k : Nat, k ≤ s.size ∧ i = .int .i64 k ∧ Hid (((M.bs s).take k).all M.isDig = true)) (fun i => s.size - (intOf i).toNat)
  case atStart => exact ⟨0, Nat.zero_le _, rfl, Lib.hid (by simp)⟩
  case round =>
    obtain ⟨k, hk, rfl, ha⟩ := hrel
    by_cases hlt : k < s.size
    · cases hd : M.isDig s[k] with
      | false =>
        have HD := Lib.hid hd
        go_wp2_with ((go_at_call 64; (with_reducible refine (isDigit_any _ _).mono ?_); rintro e w' ⟨rfl, rfl⟩))
        go_ret
        refine ⟨ret_bool ?_, rfl⟩
        rw [M.digits, all_false M.isDig s k hlt HD.out, Bool.and_false]
      | true =>
        have HD := Lib.hid hd
        go_wp2_with ((go_at_call 64; (with_reducible refine (isDigit_any _ _).mono ?_); rintro e w' ⟨rfl, rfl⟩))
        go_round
        case rel => exact ⟨k + 1, by omega, by go_num, Lib.hid (all_take M.isDig s k hlt ha.out HD.out)⟩
        case measure => simp [intOf]; omega
    · have HK := Lib.hid (show k = s.size by omega)
      go_wp2
      go_ret
      refine ⟨ret_bool ?_, rfl⟩
      have h1 := ha.out
      rw [HK.out, List.take_of_length_le (by simp [M.bs])] at h1
      rw [M.digits, h1, Bool.and_true, empty_bs]

theorem validIdent_any (s : ByteArray) (w : World) (hs : s.size ≤ 9223372036854775807) :
    Calls Tryd.prog 51 #[.string s] w fun e w' => e = .returned (.bool (M.validId (M.bs s))) ∧ w' = w := by
  go_enter Tryd.func51, Tryd.ntmps51
  go_wp2
  go_loop [3] (fun i => ∃ k : Nat, k ≤ s.size ∧ i = .int .i64 k ∧ Hid (((M.bs s).take k).all M.isIdc = true)) (fun i => s.size - (intOf i).toNat)
  case atStart => exact ⟨0, Nat.zero_le _, rfl, Lib.hid (by simp)⟩
  case round =>
    obtain ⟨k, hk, rfl, ha⟩ := hrel
    by_cases hlt : k < s.size
    · cases hd : M.isIdc s[k] with
      | false =>
        have HD := Lib.hid hd
        go_wp2_with ((go_at_call 63; (with_reducible refine (isIdent_any _ _).mono ?_); rintro e w' ⟨rfl, rfl⟩))
        go_ret
        refine ⟨ret_bool ?_, rfl⟩
        rw [M.validId, all_false M.isIdc s k hlt HD.out, Bool.and_false]
      | true =>
        have HD := Lib.hid hd
        go_wp2_with ((go_at_call 63; (with_reducible refine (isIdent_any _ _).mono ?_); rintro e w' ⟨rfl, rfl⟩))
        go_round
        case rel => exact ⟨k + 1, by omega, by go_num, Lib.hid (all_take M.isIdc s k hlt ha.out HD.out)⟩
        case measure => simp [intOf]; omega
    · have HK := Lib.hid (show k = s.size by omega)
      go_wp2
      go_ret
      refine ⟨ret_bool ?_, rfl⟩
      have h1 := ha.out
      rw [HK.out, List.take_of_length_le (by simp [M.bs])] at h1
      rw [M.validId, h1, Bool.and_true, empty_bs]

end Go.Proofs.YtnkdpgcfaelpkaaDoor

/-
  Slices of strings: how they read, and how one string is appended to one that the call itself has made.
-/
namespace Go.Proofs.YtnkdpgcfaelpkaaDoor
open Go.RowKit

theorem infoS : (Tryd.prog.info? 9).map (fun i => (i.zero, i.size, i.bytes)) = some (some (.string ⟨#[]⟩), 1, 16) := by kernel_rfl

/-- slice v is a row of the call's own (from block 'base' on) that holds the strings L -/
def OwnS (w : World) (base : Nat) (v : Value) (L : List ByteArray) : Prop := w.ownsRow base 9 1 v L.length (L.map Value.string)

/-- slice v reads as the strings L -/
def ReadS (w : World) (v : Value) (L : List ByteArray) : Prop :=
  ∃ A cap, v = .slice A L.length cap ∧ ∀ i (_ : i < L.length), ∃ b o, A = some ⟨b, o, none⟩ ∧ b < w.heap.size ∧ w.cell? ⟨b, o + i, none⟩ = some (.string L[i])

theorem OwnS.nil (w : World) (base : Nat) : OwnS w base (.slice none 0 0) [] := World.ownsRow_nil w base _ 1

theorem OwnS.read {w : World} {base : Nat} {v : Value} {L : List ByteArray} (h : OwnS w base v L) : ReadS w v L := by
  obtain ⟨h1, h2 | ⟨g, cap, cur, rfl, hg, hb, hn, hc, hs, ht⟩⟩ := h
  · obtain ⟨rfl, hn⟩ := h2
    obtain rfl : L = [] := List.length_eq_zero_iff.1 hn
    exact ⟨none, 0, rfl, fun i hi => absurd hi (by simp)⟩
  · refine ⟨some ⟨g, 0, none⟩, cap, rfl, fun i hi => ⟨g, 0, rfl, ?_, ?_⟩⟩
    · rcases Nat.lt_or_ge g w.heap.size with h' | h'
      · exact h'
      · simp [Array.getElem?_eq_none h'] at hb
    · have := World.ownsRow.cellAt (w := w) (base := base) (e := 9) (size := 1) (g := g) (n := L.length) (cap := cap) (xs := L.map Value.string) ⟨h1, .inr ⟨g, cap, cur, rfl, hg, hb, hn, hc, hs, ht⟩⟩ i (by omega)
      rw [Nat.zero_add, this]
      simp [hi]

theorem Below.grown {w w' : World} (h : Below w.heap.size w w') : w.grownBy w' none := ⟨h.os, h.tape, h.output, h.size, fun k hk _ => h.block k hk⟩

theorem OwnS.kept {w w' : World} {base : Nat} {v : Value} {L : List ByteArray} (h : OwnS w base v L) (b : Below w.heap.size w w') : OwnS w' base v L :=
  World.ownsRow.kept h (Below.grown b) (by cases hv : v.ownBlock <;> simp)
theorem OwnS.lower {w : World} {base base' : Nat} {v : Value} {L : List ByteArray} (h : OwnS w base v L) (hb : base' ≤ base) : OwnS w base' v L := by
  obtain ⟨h1, h2 | ⟨g, cap, cur, h3, hg, h4⟩⟩ := h
  · exact ⟨h1, .inl h2⟩
  · exact ⟨h1, .inr ⟨g, cap, cur, h3, Nat.le_trans hb hg, h4⟩⟩

theorem ReadS.kept {w w' : World} {v : Value} {L : List ByteArray} (h : ReadS w v L) (b : Below w.heap.size w w') : ReadS w' v L := by
  obtain ⟨A, cap, rfl, hc⟩ := h
  refine ⟨A, cap, rfl, fun i hi => ?_⟩
  obtain ⟨g, o, h1, h2, h3⟩ := hc i hi
  exact ⟨g, o, h1, Nat.lt_of_lt_of_le h2 b.size, by rw [b.cell (p := ⟨g, o + i, none⟩) h2]; exact h3⟩

/-- what grew by a row of the call's own has not turned what lay below its base -/
theorem below_of_grown {w w' : World} {base : Nat} {v : Value} {n : Nat} {e : TypeId} {size : Nat} {xs : List Value} (hown : w.ownsRow base e size v n xs) (hb : base ≤ w.heap.size) (hg : w.grownBy w' v.ownBlock) : Below base w w' :=
  ⟨hg.os, hg.tape, hg.output, hg.size, fun k hk => hg.block k (Nat.lt_of_lt_of_le hk hb) (fun e => by
    have := (World.ownsRow.lt hown k e.symm).1
    omega)⟩

/-- 'append(v, s)' -/
theorem append_str {w : World} {ops : Array Oper} {rest : List Oper} {o : Oper} {a : Act} {Q : Exit → Act → World → Prop} (hgd : o.guard = none) (s x : Operand)
    (ho : o.op = .call { callee := .builtin .append, args := #[s, x], argTypes := #[72, 72] })
    (base : Nat) (v : Value) (L : List ByteArray) (hs : a.eval s = v) (hown : OwnS w base v L)
    (g : Nat) (c : Nat) (b : ByteArray) (hx : a.eval x = .slice (some ⟨g, 0, none⟩) 1 c) (hcell : w.cell? ⟨g, 0, none⟩ = some (.string b))
    (hlen : L.length < 1099511627776) (hbase : base ≤ w.heap.size)
    (h : ∀ v' w', OwnS w' base v' (L ++ [b]) → Below base w w' → w.heap.size ≤ w'.heap.size → wpList Tryd.prog ops Q rest (a.put o.dst v') w') : wpList Tryd.prog ops Q (o :: rest) a w := by
  obtain ⟨i0, hi, hz0, hz1, hz2⟩ := info_parts infoS
  refine wpList_append_own w hgd s x 72 ho base 9 i0 (.string ⟨#[]⟩) 1 16 Tryd.underlying72 hi hz0 hz1 hz2 rfl (by decide) v L.length (L.map Value.string) hs hown
    ⟨g, 0, none⟩ 1 c [.string b] hx rfl ?_ ?_ ?_ ?_ hbase ?_
  · intro j u hj
    cases j with
    | zero => simp at hj; subst hj; exact hcell
    | succ j => simp at hj
  · intro u hu; simp at hu; subst hu; rfl
  · unfold maxLen; omega
  · omega
  · intro v' w' h1 h2 _
    refine h v' w' ?_ (below_of_grown hown hbase h2) h2.size
    unfold OwnS
    simpa using h1
end Go.Proofs.YtnkdpgcfaelpkaaDoor

/-
  spec.Identifiers parts a text at each of its dots.
-/
namespace Go.Proofs.YtnkdpgcfaelpkaaDoor
open Go.RowKit

theorem bs_extract (s : ByteArray) (a b : Nat) : M.bs (s.extract a b) = ((M.bs s).drop a).take (b - a) := by
  unfold M.bs
  rw [ByteArray.data_extract, Array.toList_extract, List.extract_eq_take_drop]

/-- strings for pieces -/
def Strs (L : List ByteArray) (l : List M.Bs) : Prop := L.map M.bs = l

/-- at the loop's head: the pieces ahead of 'f' are L, no x stands from f to k -/
structure Cut (x : UInt8) (s : ByteArray) (L : List ByteArray) (f k : Nat) : Prop where
  fk : f ≤ k
  ks : k ≤ s.size
  sp : M.splitOn x (M.bs s) = L.map M.bs ++ M.splitOn x ((M.bs s).drop f)
  no : ∀ j, f ≤ j → j < k → ∀ c, (M.bs s)[j]? = some c → c ≠ x
  len : L.length ≤ f

theorem Cut.start (x : UInt8) (s : ByteArray) : Cut x s [] 0 0 := ⟨Nat.le_refl _, Nat.zero_le _, by simp, fun j _ h => absurd h (by omega), by simp⟩
theorem Cut.on {x : UInt8} {s : ByteArray} {L : List ByteArray} {f k : Nat} (h : Cut x s L f k) (hk : k < s.size) (hx : s[k] ≠ x) : Cut x s L f (k + 1) := by
  refine ⟨by have := h.fk; omega, hk, h.sp, fun j h1 h2 c hc => ?_, h.len⟩
  by_cases e : j = k
  · subst e
    rw [M.bs_get s j hk] at hc
    obtain rfl := Option.some.inj hc
    exact hx
  · exact h.no j h1 (by omega) c hc
theorem Cut.free {x : UInt8} {s : ByteArray} {L : List ByteArray} {f k : Nat} (h : Cut x s L f k) : ∀ c ∈ ((M.bs s).drop f).take (k - f), c ≠ x := by
  intro c hc
  obtain ⟨i, hi, rfl⟩ := List.mem_iff_getElem.1 hc
  have hi' : i < k - f := by
    have := hi
    simp at this
    omega
  refine h.no (f + i) (by omega) (by omega) _ ?_
  simp [M.bs]
theorem Cut.at {x : UInt8} {s : ByteArray} {L : List ByteArray} {f k : Nat} (h : Cut x s L f k) (hk : k < s.size) (hx : s[k] = x) : Cut x s (L ++ [s.extract f k]) (k + 1) (k + 1) := by
  refine ⟨Nat.le_refl _, hk, ?_, fun j h1 h2 => absurd h2 (by omega), ?_⟩
  · rw [h.sp]
    have e : (M.bs s).drop f = ((M.bs s).drop f).take (k - f) ++ x :: (M.bs s).drop (k + 1) := by
      have h1 : (M.bs s).drop f = ((M.bs s).drop f).take (k - f) ++ ((M.bs s).drop f).drop (k - f) := (List.take_append_drop _ _).symm
      have h3 : (M.bs s).drop k = (M.bs s)[k]'(by simpa [M.bs] using hk) :: (M.bs s).drop (k + 1) := List.drop_eq_getElem_cons _
      have h2 : (M.bs s)[k]'(by simpa [M.bs] using hk) = x := by
        have := M.bs_get s k hk
        rw [List.getElem?_eq_getElem (by simpa [M.bs] using hk)] at this
        rw [Option.some.inj this, hx]
      rw [List.drop_drop, show f + (k - f) = k from by have := h.fk; omega, h3, h2] at h1
      exact h1
    rw [e, M.splitOn_first x _ _ h.free]
    simp [bs_extract]
  · have := h.len
    have := h.fk
    simp
    omega
theorem Cut.stop {x : UInt8} {s : ByteArray} {L : List ByteArray} {f : Nat} (h : Cut x s L f s.size) : (L ++ [s.extract f s.size]).map M.bs = M.splitOn x (M.bs s) := by
  rw [h.sp]
  have e : ((M.bs s).drop f).take (s.size - f) = (M.bs s).drop f := List.take_of_length_le (by simp [M.bs])
  have hf := h.free
  rw [e] at hf
  rw [M.splitOn_none x _ hf]
  simp [bs_extract, e]

/-- what Identifiers, and the package's own parting, hand back -/
def Parted (x : UInt8) (s : ByteArray) (w : World) (e : Ending) (w' : World) : Prop :=
  ∃ v L, e = .returned v ∧ L.map M.bs = M.splitOn x (M.bs s) ∧ OwnS w' w.heap.size v L ∧ Below w.heap.size w w'

def IdRel (s : ByteArray) (w : World) (v f i : Value) (wr : World) : Prop :=
  ∃ (L : List ByteArray) (a k : Nat), f = .int .i64 a ∧ i = .int .i64 k ∧ Cut 46 s L a k ∧ OwnS wr w.heap.size v L ∧ Below w.heap.size w wr

set_option maxRecDepth 100000 in
set_option maxHeartbeats 800000 in
theorem identifiers_any (s : ByteArray) (w : World) (hs : s.size ≤ 2147483647) :
    Calls Tryd.prog 50 #[.string s] w (Parted 46 s w) := by
  go_enter Tryd.func50, Tryd.ntmps50
  go_wp2
  go_loopw [3, 4, 5] (fun v f i wr => IdRel s w v f i wr) (fun _ _ i _ => s.size - (intOf i).toNat)
  case atStart => exact ⟨[], 0, 0, rfl, rfl, Cut.start _ _, OwnS.nil _ _, Below.refl _ _⟩
  case round =>
    obtain ⟨L, a, k, rfl, rfl, hc, hown, hb⟩ := hrel
    have h1 := hc.fk
    have h2 := hc.ks
    have h3 := hc.len
    have HB := Lib.hid hb
    have HO := Lib.hid hown
    have HC := Lib.hid hc
    clear hb hown hc
    by_cases hlt : k < s.size
    · go_wp2_with ((at_builtin; refine append_str rfl _ _ rfl w.heap.size _ L rfl (HO.out.kept ((Below.refl _ _).alloc (Nat.le_refl _) _)) wr.heap.size 1 (s.extract a k) rfl ?c1 ?c2 ?c3 ?_; rotate_left 3; intro v' w1 hown1 hb1 hz1; have HO1 := Lib.hid hown1; have HB1 := Lib.hid hb1; clear hown1 hb1))
      case c1 => go_simp
      case c2 => omega
      case c3 => have := HB.out.size; simp; omega
      · have hx : ((s[k].toNat : Int) == 46) = true := by assumption
        have HX := Lib.hid (byte_eq 46 rfl hx)
        clear hx
        go_roundw
        case rel => exact ⟨_, k + 1, k + 1, by go_num, by go_num, HC.out.at hlt HX.out, HO1.out, (HB.out.alloc HB.out.size _).trans HB1.out⟩
        case measure => simp [intOf]; omega
      · have hx : ((s[k].toNat : Int) == 46) = false := by assumption
        have HX := Lib.hid (byte_ne 46 rfl hx)
        clear hx
        go_roundw
        case rel => exact ⟨L, a, k + 1, rfl, by go_num, HC.out.on hlt HX.out, HO.out, HB.out⟩
        case measure => simp [intOf]; omega
    · have hk : k = s.size := by omega
      subst hk
      go_wp2_with ((at_builtin; refine append_str rfl _ _ rfl w.heap.size _ L rfl (HO.out.kept ((Below.refl _ _).alloc (Nat.le_refl _) _)) wr.heap.size 1 (s.extract a s.size) rfl ?d1 ?d2 ?d3 ?_; rotate_left 3; intro v' w1 hown1 hb1 hz1; have HO1 := Lib.hid hown1; have HB1 := Lib.hid hb1; clear hown1 hb1))
      case d1 => go_simp
      case d2 => omega
      case d3 => have := HB.out.size; simp; omega
      go_ret
      exact ⟨_, _, rfl, HC.out.stop, HO1.out, (HB.out.alloc HB.out.size _).trans HB1.out⟩
end Go.Proofs.YtnkdpgcfaelpkaaDoor

/-
  semver's own zzIndex and zzSplit at a text of one byte.
-/
namespace Go.Proofs.YtnkdpgcfaelpkaaDoor
open Go.RowKit

namespace M
/-- where x stands first, or -1 -/
def idx (x : UInt8) (l : Bs) : Int := match l.findIdx? (· == x) with
  | some i => (i : Int)
  | none => -1
theorem idx_none {x : UInt8} {l : Bs} (h : ∀ c ∈ l, c ≠ x) : idx x l = -1 := by
  unfold idx
  rw [List.findIdx?_eq_none_iff.2 (by simpa using h)]
theorem idx_at {x : UInt8} {l : Bs} {k : Nat} (hk : l[k]? = some x) (h : ∀ j, j < k → ∀ c, l[j]? = some c → c ≠ x) : idx x l = k := by
  unfold idx
  have hkl := (List.getElem?_eq_some_iff.1 hk)
  rw [List.findIdx?_eq_some_iff_getElem.2 ⟨hkl.1, by simp [hkl.2], fun j hj => by simpa using h j hj _ (List.getElem?_eq_getElem (by have := hkl.1; omega))⟩]
theorem idx_split {x : UInt8} {l : Bs} {k : Nat} (h : idx x l = k) : k < l.length ∧ (∀ c ∈ l.take k, c ≠ x) ∧ l = l.take k ++ x :: l.drop (k + 1) := by
  unfold idx at h
  cases e : l.findIdx? (· == x) with
  | none => rw [e] at h; simp at h
  | some i =>
    rw [e] at h
    simp only [Int.ofNat_inj] at h
    subst h
    obtain ⟨h1, h2, h3⟩ := List.findIdx?_eq_some_iff_getElem.1 e
    refine ⟨h1, fun c hc => ?_, ?_⟩
    · obtain ⟨j, hj, rfl⟩ := List.mem_iff_getElem.1 hc
      have hj' : j < i := by simp at hj; omega
      have := h3 j hj'
      simpa using this
    · have h4 : l.drop i = l[i] :: l.drop (i + 1) := List.drop_eq_getElem_cons _
      have h5 : l[i] = x := by simpa using h2
      rw [h5] at h4
      rw [← h4, List.take_append_drop]
theorem idx_neg {x : UInt8} {l : Bs} (h : idx x l < 0) : ∀ c ∈ l, c ≠ x := by
  unfold idx at h
  cases e : l.findIdx? (· == x) with
  | none => simpa using List.findIdx?_eq_none_iff.1 e
  | some i => rw [e] at h; simp at h; omega
theorem idx_ge (x : UInt8) (l : Bs) : -1 ≤ idx x l := by
  unfold idx
  split <;> omega
theorem idx_lt (x : UInt8) (l : Bs) : idx x l < l.length ∨ idx x l = -1 := by
  unfold idx
  split
  · rename_i i e
    have := (List.findIdx?_eq_some_iff_getElem.1 e).1
    left; omega
  · right; rfl
end M

theorem one_bs (s : ByteArray) (k : Nat) (h : k < s.size) : (s.extract k (k + 1)).toList = [s[k]] := by
  rw [ByteArray.toList_eq]
  have := bs_extract s k (k + 1)
  unfold M.bs at this
  rw [this, List.drop_eq_getElem_cons (by simpa using h), show k + 1 - k = 1 from by omega]
  rfl

theorem ret_i64 {a b : Int} (h : a = b) : Ending.returned (.int .i64 a) = .returned (.int .i64 b) := by rw [h]

set_option maxRecDepth 100000 in
theorem zzIndex_any (s : ByteArray) (x : UInt8) (w : World) (hs : s.size ≤ 140737488351232) :
    Calls Tryd.prog 83 #[.string s, .string ⟨#[x]⟩] w fun e w' => e = .returned (.int .i64 (M.idx x (M.bs s))) ∧ w' = w := by
  go_enter Tryd.func83, Tryd.ntmps83
  go_wp2
  go_loop [5] (fun i => ∃ k : Nat, k ≤ s.size ∧ i = .int .i64 k ∧ Hid (∀ j, j < k → ∀ c, (M.bs s)[j]? = some c → c ≠ x)) (fun i => s.size - (intOf i).toNat)
  case atStart => exact ⟨0, Nat.zero_le _, rfl, Lib.hid (fun j hj => absurd hj (by omega))⟩
  case round =>
    obtain ⟨k, hk, rfl, ha⟩ := hrel
    by_cases hlt : k < s.size
    · have h1 := one_bs s k hlt
      have t1 : ((k : Int) + 1).toNat = k + 1 := by omega
      have t2 : k + 1 ≤ s.size := hlt
      have t3 : (k : Int) ≤ (k : Int) + 1 := by omega
      have t4 : (0 : Int) ≤ (k : Int) + 1 := by omega
      go_wp2
      · have hx : (s[k] == x) = true := by assumption
        go_ret
        refine ⟨ret_i64 ?_, rfl⟩
        rw [beq_iff_eq] at hx
        rw [M.idx_at (k := k) (by rw [M.bs_get s k hlt, hx]) ha.out]
      · have hx : (s[k] == x) = false := by assumption
        have HX := Lib.hid hx
        clear hx
        go_round
        case rel =>
          refine ⟨k + 1, hlt, by go_num, Lib.hid (fun j hj c hc => ?_)⟩
          by_cases e : j = k
          · subst e
            rw [M.bs_get s j hlt] at hc
            obtain rfl := Option.some.inj hc
            simpa using HX.out
          · exact ha.out j (by omega) c hc
        case measure => simp [intOf]; omega
    · go_wp2
      go_ret
      refine ⟨ret_i64 ?_, rfl⟩
      rw [M.idx_none]
      intro c hc
      obtain ⟨j, hj, rfl⟩ := List.mem_iff_getElem.1 hc
      have hj' : j < s.size := by simpa [M.bs] using hj
      exact ha.out j (by omega) _ (List.getElem?_eq_getElem hj)


theorem zzIndex_at (s : ByteArray) (x : UInt8) (k : Nat) (w : World) (hs : s.size ≤ 140737488351232) (hk : Hid (M.idx x (M.bs s) = k)) :
    Calls Tryd.prog 83 #[.string s, .string ⟨#[x]⟩] w fun e w' => e = .returned (.int .i64 k) ∧ w' = w := by
  have := zzIndex_any s x w hs
  rw [hk.out] at this
  exact this

/-- at the head of zzSplit's loop: the pieces so far, and what is left -/
def SpRel (x : UInt8) (s : ByteArray) (w : World) (v cur : Value) (wr : World) : Prop :=
  ∃ (L : List ByteArray) (t : ByteArray), cur = .string t ∧ M.splitOn x (M.bs s) = L.map M.bs ++ M.splitOn x (M.bs t) ∧ L.length + t.size ≤ s.size ∧ OwnS wr w.heap.size v L ∧ Below w.heap.size w wr

theorem SpRel.step {x : UInt8} {s t : ByteArray} {L : List ByteArray} {k : Nat} (h : M.splitOn x (M.bs s) = L.map M.bs ++ M.splitOn x (M.bs t)) (hk : M.idx x (M.bs t) = k) :
    M.splitOn x (M.bs s) = (L ++ [t.extract 0 k]).map M.bs ++ M.splitOn x (M.bs (t.extract (k + 1) t.size)) := by
  obtain ⟨h1, h2, h3⟩ := M.idx_split hk
  rw [h, h3, M.splitOn_first x _ _ h2]
  have e : (M.bs t).drop (k + 1) = ((M.bs t).drop (k + 1)).take (t.size - (k + 1)) := (List.take_of_length_le (by simp [M.bs])).symm
  rw [e]
  simp [bs_extract]
theorem SpRel.last {x : UInt8} {s t : ByteArray} {L : List ByteArray} (h : M.splitOn x (M.bs s) = L.map M.bs ++ M.splitOn x (M.bs t)) (hk : M.idx x (M.bs t) < 0) :
    (L ++ [t]).map M.bs = M.splitOn x (M.bs s) := by
  rw [h, M.splitOn_none x _ (M.idx_neg hk)]
  simp

set_option maxRecDepth 100000 in
set_option maxHeartbeats 800000 in
theorem zzSplit_any (s : ByteArray) (x : UInt8) (w : World) (hs : s.size ≤ 2147483647) :
    Calls Tryd.prog 75 #[.string s, .string ⟨#[x]⟩] w (Parted x s w) := by
  go_enter Tryd.func75, Tryd.ntmps75
  go_wp2
  go_loopw [0, 5] (fun cur v wr => SpRel x s w v cur wr) (fun cur _ _ => match cur with | .string t => t.size | _ => 0)
  case atStart => exact ⟨[], s, rfl, by simp, by simp, OwnS.nil _ _, Below.refl _ _⟩
  case round =>
    obtain ⟨L, t, rfl, hsp, hlen, hown, hb⟩ := hrel
    have HB := Lib.hid hb
    have HO := Lib.hid hown
    have HS := Lib.hid hsp
    clear hb hown hsp
    have hge := M.idx_ge x (M.bs t)
    by_cases hneg : M.idx x (M.bs t) < 0
    · have HN := Lib.hid hneg
      go_wp2_with (first
        | ((go_at_call 83; (with_reducible refine (zzIndex_any _ _ _ (by omega)).mono ?_); rintro e w' ⟨rfl, rfl⟩))
        | (at_builtin; refine append_str rfl _ _ rfl w.heap.size _ L rfl (HO.out.kept ((Below.refl _ _).alloc (Nat.le_refl _) _)) _ 1 t rfl ?c1 ?c2 ?c3 ?_; rotate_left 3; intro v' w1 hown1 hb1 hz1; have HO1 := Lib.hid hown1; have HB1 := Lib.hid hb1; clear hown1 hb1))
      case c1 => go_simp
      case c2 => omega
      case c3 => have := HB.out.size; simp; omega
      go_ret
      exact ⟨_, _, rfl, SpRel.last HS.out HN.out, HO1.out, (HB.out.alloc HB.out.size _).trans HB1.out⟩
    · obtain ⟨k, hk⟩ := Int.eq_ofNat_of_zero_le (show 0 ≤ M.idx x (M.bs t) by omega)
      have hkl := (M.idx_split hk).1
      rw [M.bs_length] at hkl
      have HK := Lib.hid hk
      clear hk hneg hge
      have t1 : ((k : Int) + 1).toNat = k + 1 := by omega
      have t2 : k + 1 ≤ t.size := hkl
      have t3 : (0 : Int) ≤ (k : Int) + 1 := by omega
      have t4 : (k : Int) + 1 ≤ (t.size : Int) := by omega
      have t5 : (k : Int) ≤ (t.size : Int) := by omega
      go_wp2_with (first
        | ((go_at_call 83; (with_reducible refine (zzIndex_at _ _ k _ (by omega) HK).mono ?_); rintro e w' ⟨rfl, rfl⟩))
        | (at_builtin; refine append_str rfl _ _ rfl w.heap.size _ L rfl (HO.out.kept ((Below.refl _ _).alloc (Nat.le_refl _) _)) _ 1 (t.extract 0 k) rfl ?d1 ?d2 ?d3 ?_; rotate_left 3; intro v' w1 hown1 hb1 hz1; have HO1 := Lib.hid hown1; have HB1 := Lib.hid hb1; clear hown1 hb1))
      case d1 => go_simp
      case d2 => omega
      case d3 => have := HB.out.size; simp; omega
      go_roundw
      case rel => exact ⟨L ++ [t.extract 0 k], t.extract (k + 1) t.size, rfl, SpRel.step HS.out HK.out, by simp [ByteArray.size_extract]; omega, HO1.out, (HB.out.alloc HB.out.size _).trans HB1.out⟩
      case measure => simp [ByteArray.size_extract]; omega
end Go.Proofs.YtnkdpgcfaelpkaaDoor

/-
  What a row's list of sentinels ('laid') gives: each variable holds a pointer to an errors.errorString of its own.
-/
namespace Go.Proofs.YtnkdpgcfaelpkaaDoor
open Go.RowKit Go.ChangeShapes

namespace Sent
def mk (x : String × List UInt8) : String × DataW Unit := (x.1, .iface "*errors.errorString" (.ptr (.agg [.lit (.string x.2)])))

/-- variable number g holds a pointer a to an error of type tp -/
def At (tp : TypeId) (W : World) (g : Nat) (a : Addr) : Prop :=
  W.cell? ⟨g, 0, none⟩ = some (.iface tp (.pointer (some a))) ∧ ∃ c t, W.heap[a.block]? = some (.cells c t (0, 0))

section
variable {P : Program} {W : World} {ti tp te ts : TypeId} {ms : Array (String × TypeId)} {f : Field}
  (hi : P.underlying ti = some (.interface ms)) (hrow : ∀ u, P.typeName? 3 u = some "*errors.errorString" → u = tp)
  (hp : P.underlying tp = some (.pointer te)) (he : P.underlying te = some (.struct #[f])) (hft : f.type = ts) (hfo : f.offset = 0) (hs : P.underlying ts = some .string) (hc : P.cellsOf te = 1) (hcs : P.cellsOf ts = 1)
include hi hrow hp he hft hfo hs hc hcs

theorem sents : ∀ (l : List (String × List UInt8)) (ps : List MemPlace), DataW.LaidVars P W (l.map mk) ps → ps.Nodup →
    (∀ b off, MemPlace.cell b off ∈ ps → (∃ c t, W.heap[b]? = some (.cells c t (0, 0))) ∧ ∀ u v, W.cell? ⟨b, off, none⟩ = some (.iface u v) → Value.okWide P W .any 0 u v) →
    (∀ x ∈ l, ∀ g, P.globalNamed x.1 = some g → (P.globals[g]?).map (·.type) = some ti) →
    ∃ ads : List Addr, ads.length = l.length ∧ ads.Nodup ∧ (∀ a ∈ ads, MemPlace.cell a.block a.off ∈ ps) ∧
      ∀ (i : Nat) (x : String × List UInt8) (a : Addr) (g : Nat), l[i]? = some x → ads[i]? = some a → P.globalNamed x.1 = some g → At tp W g a
  | [], _, _, _, _, _ => ⟨[], rfl, List.nodup_nil, (fun _ h => by cases h), (fun i x a g h => by cases i <;> simp at h)⟩
  | x :: l, ps, h, hnd, hrows, hty => by
    obtain ⟨g0, t0, cs0, f0, p0, q0, hg0, ht0, hv0, hd0, hr, rfl⟩ := h
    have ht := hty x List.mem_cons_self g0 hg0
    obtain rfl := Option.some.inj (ht.symm.trans ht0)
    obtain ⟨l0⟩ := cs0
    have ok0 : ∀ u v, l0 = [.iface u v] → Value.okWide P W .any 0 u v := fun u v e => by
      subst e
      exact (hrows g0 0 (by simp [MemPlace.row])).2 u v (by simpa using World.var?_cell hg0 hv0 0)
    obtain ⟨a0, s0, rfl, _, _, _, rfl⟩ := errorString_of_trod hi hrow hp he hft hfo hs hc hcs hd0 ok0
    have hm0 : MemPlace.cell a0.block a0.off ∈ MemPlace.row a0 1 := by simp [MemPlace.row]
    obtain ⟨ads, h1, h2, h3, h4⟩ := sents l q0 hr (List.Nodup.sublist (List.sublist_append_right _ _) hnd) (fun b off hm => hrows b off (List.mem_append_right _ hm)) (fun y hy => hty y (List.mem_cons_of_mem _ hy))
    refine ⟨a0 :: ads, by simp [h1], ?_, ?_, ?_⟩
    · refine List.nodup_cons.2 ⟨fun hin => ?_, h2⟩
      exact (List.nodup_append.1 hnd).2.2 _ (List.mem_append_right _ hm0) _ (h3 a0 hin) rfl
    · intro a ha
      rcases List.mem_cons.1 ha with rfl | ha
      · exact List.mem_append_left _ (List.mem_append_right _ hm0)
      · exact List.mem_append_right _ (h3 a ha)
    · intro i y a g hi ha hg
      cases i with
      | zero =>
        simp only [List.getElem?_cons_zero, Option.some.injEq] at hi ha
        subst hi ha
        obtain rfl := Option.some.inj (hg0.symm.trans hg)
        refine ⟨by simpa using World.var?_cell hg0 hv0 0, (hrows a0.block a0.off ?_).1⟩
        exact List.mem_append_left _ (List.mem_append_right _ hm0)
      | succ i =>
        simp only [List.getElem?_cons_succ] at hi ha
        exact h4 i y a g hi ha hg

theorem of_laidP (l : List (String × List UInt8)) (h : laidMet P (l.map mk) W)
    (hty : (l.all fun x => match P.globalNamed x.1 with | some g => (P.globals[g]?).map (·.type) == some ti | none => false) = true) :
    ∃ ads : List Addr, ads.length = l.length ∧ ads.Nodup ∧
      ∀ (i : Nat) (x : String × List UInt8) (a : Addr) (g : Nat), l[i]? = some x → ads[i]? = some a → P.globalNamed x.1 = some g → At tp W g a := by
  obtain ⟨ps, hv, hnd, hrows⟩ := h
  obtain ⟨ads, h1, h2, _, h4⟩ := sents hi hrow hp he hft hfo hs hc hcs l ps hv hnd hrows (fun x hx g hg => by
    have := List.all_eq_true.1 hty x hx
    rw [hg] at this
    simpa using this)
  exact ⟨ads, h1, h2, h4⟩
end

theorem star : "*" ++ "errors.errorString" = "*errors.errorString" := by decide
theorem rowE (u : TypeId) (h : Tryd.prog.typeName? 3 u = some "*errors.errorString") : u = 94 :=
  typeName_ptr_named (nm := "errors.errorString") (by rw [star]; kernel_rfl) (by kernel_rfl) (by decide) u (by rw [star]; exact h)
theorem cellsE : Tryd.prog.cellsOf 96 = 1 := by kernel_rfl
theorem cellsS : Tryd.prog.cellsOf 9 = 1 := by kernel_rfl

/-- a row's entry read as a sentinel -/
def nm : String × DataW Unit → String × List UInt8
  | (n, .iface _ (.ptr (.agg [.lit (.string t)]))) => (n, t)
  | (n, _) => (n, [])

/-- the sentinels of the variables 'gs': each leads to a block of its own -/
structure Errs (gs : List Nat) (w : World) (sa : Nat → Addr) : Prop where
  var : ∀ j, j < gs.length → w.cell? ⟨gs.getD j 0, 0, none⟩ = some (.iface 94 (.pointer (some (sa j))))
  blk : ∀ j, j < gs.length → ∃ c t, w.heap[(sa j).block]? = some (.cells c t (0, 0))
  inj : ∀ i j, i < gs.length → j < gs.length → sa i = sa j → i = j

theorem cell_lt {w : World} {a : Addr} {v : Value} (h : w.cell? a = some v) : a.block < w.heap.size := by
  rcases Nat.lt_or_ge a.block w.heap.size with h' | h'
  · exact h'
  · simp [World.cell?, Array.getElem?_eq_none h'] at h

theorem Errs.below {gs : List Nat} {w w' : World} {sa : Nat → Addr} (h : Errs gs w sa) (b : Below w.heap.size w w') : Errs gs w' sa := by
  refine ⟨fun j hj => ?_, fun j hj => ?_, h.inj⟩
  · have h1 := h.var j hj
    rw [b.cell (p := ⟨gs.getD j 0, 0, none⟩) (cell_lt h1)]; exact h1
  · obtain ⟨c, t, h1⟩ := h.blk j hj
    have hlt : (sa j).block < w.heap.size := by
      rcases Nat.lt_or_ge (sa j).block w.heap.size with h' | h'
      · exact h'
      · simp [Array.getElem?_eq_none h'] at h1
    exact ⟨c, t, by rw [b.block _ hlt]; exact h1⟩

/-- out of the row's list -/
theorem errs_of_laid {W : World} (gs : List Nat) (laid : List (String × DataW Unit)) (h : laidMet Tryd.prog laid W) (hl : (laid.map nm).map mk = laid)
    (hty : ((laid.map nm).all fun x => match Tryd.prog.globalNamed x.1 with | some g => (Tryd.prog.globals[g]?).map (·.type) == some 65 | none => false) = true)
    (hg : (gs.all fun g => (laid.map nm).any fun x => Tryd.prog.globalNamed x.1 == some g) = true) (hgn : gs.Nodup) : ∃ sa, Errs gs W sa := by
  rw [← hl] at h
  obtain ⟨ads, h1, h2, h4⟩ := of_laidP Tryd.underlying65 rowE Tryd.underlying94 Tryd.underlying96 rfl rfl Tryd.underlying9 cellsE cellsS (laid.map nm) h hty
  have hex : ∀ j : Nat, ∃ a : Addr, j < gs.length → ∃ (i : Nat) (x : String × List UInt8), (laid.map nm)[i]? = some x ∧ ads[i]? = some a ∧ Tryd.prog.globalNamed x.1 = some (gs.getD j 0) := by
    intro j
    by_cases hj : j < gs.length
    · have hm : gs.getD j 0 ∈ gs := by
        rw [List.getD_eq_getElem?_getD, List.getElem?_eq_getElem hj]
        exact List.getElem_mem hj
      have := List.all_eq_true.1 hg _ hm
      obtain ⟨x, hx, hxg⟩ := List.any_eq_true.1 this
      obtain ⟨i, hi⟩ := List.getElem?_of_mem hx
      have hil : i < ads.length := by
        rw [h1]
        exact (List.getElem?_eq_some_iff.1 hi).1
      exact ⟨ads[i], fun _ => ⟨i, x, hi, List.getElem?_eq_getElem hil, by simpa using hxg⟩⟩
    · exact ⟨⟨0, 0, none⟩, fun h => absurd h hj⟩
  have hc := fun j => Classical.choose_spec (hex j)
  refine ⟨fun j => Classical.choose (hex j), ⟨fun j hj => ?_, fun j hj => ?_, fun i j hi hj e => ?_⟩⟩
  · obtain ⟨i, x, a1, a2, a3⟩ := hc j hj
    exact (h4 i x _ _ a1 a2 a3).1
  · obtain ⟨i, x, a1, a2, a3⟩ := hc j hj
    exact (h4 i x _ _ a1 a2 a3).2
  · obtain ⟨k, x, a1, a2, a3⟩ := hc i hi
    obtain ⟨m, y, b1, b2, b3⟩ := hc j hj
    rw [e] at a2
    have hk : k = m := by
      have hkl := (List.getElem?_eq_some_iff.1 a2).1
      exact (List.getElem?_inj hkl h2).1 (a2.trans b2.symm)
    subst hk
    obtain rfl := Option.some.inj (a1.symm.trans b1)
    have := Option.some.inj (a3.symm.trans b3)
    rw [List.getD_eq_getElem?_getD, List.getD_eq_getElem?_getD, List.getElem?_eq_getElem hi, List.getElem?_eq_getElem hj] at this
    exact (List.getElem?_inj hi hgn).1 (by rw [List.getElem?_eq_getElem hi, List.getElem?_eq_getElem hj]; exact congrArg some this)
end Sent
end Go.Proofs.YtnkdpgcfaelpkaaDoor

/-
  strconv.ParseUint at base 10 and 64 bits (by the shelf's contract), and semver's comparison of two pieces of prereleases.
-/
namespace Go.Proofs.YtnkdpgcfaelpkaaDoor
open Go.RowKit
set_option maxRecDepth 100000

namespace M
theorem valFrom_mono (p : Bs) (n : Nat) : n ≤ valFrom n p := by
  rw [valFrom_eq]
  have : 1 ≤ 10 ^ p.length := Nat.pow_pos (by omega)
  have := Nat.mul_le_mul_left n this
  omega
theorem parseM_ok : ∀ (p : Bs) (n : Nat), p.all isDig = true → valFrom n p < 18446744073709551616 → Lib.parseUintM (2 ^ 64 - 1) n p = .ok (valFrom n p)
  | [], n, _, _ => rfl
  | c :: r, n, h, hv => by
    rw [List.all_cons, Bool.and_eq_true] at h
    have h1 := dig_le h.1
    rw [valFrom_cons] at hv ⊢
    have h2 := valFrom_mono r (n * 10 + (c.toNat - 48))
    rw [Lib.parseUintM, if_pos h1, if_neg (by omega), if_neg (by omega)]
    exact parseM_ok r _ h.2 hv
theorem parseM_digits : ∀ (p : Bs) (n u : Nat), Lib.parseUintM (2 ^ 64 - 1) n p = .ok u → p.all isDig = true ∧ u = valFrom n p ∧ (n < 18446744073709551616 → u < 18446744073709551616)
  | [], n, u, h => by
    rw [Lib.parseUintM] at h
    cases h
    exact ⟨rfl, rfl, fun h => h⟩
  | c :: r, n, u, h => by
    rw [Lib.parseUintM] at h
    split at h
    · rename_i hc
      split at h
      · cases h
      · split at h
        · cases h
        · rename_i h1 h2
          obtain ⟨a, b, d⟩ := parseM_digits r _ u h
          refine ⟨?_, by rw [valFrom_cons]; exact b, fun _ => d (by omega)⟩
          rw [List.all_cons, a, Bool.and_true]
          simp only [isDig, Bool.and_eq_true, decide_eq_true_eq, UInt8.le_iff_toNat_le]
          exact hc
    · cases h
/-- a number below 2^64 -/
def fits (p : Bs) : Bool := digits p && decide (val p < 18446744073709551616)
theorem parse_ok {p : Bs} (h : fits p = true) : Lib.parseUintB 64 p = .ok (val p) := by
  simp only [fits, digits, Bool.and_eq_true, Bool.not_eq_true', decide_eq_true_eq] at h
  unfold Lib.parseUintB
  rw [if_neg (by intro e; rw [e] at h; simp at h)]
  exact parseM_ok p 0 h.1.2 h.2
theorem parse_not {p : Bs} (h : fits p = false) (u : Nat) : Lib.parseUintB 64 p ≠ .ok u := by
  intro e
  unfold Lib.parseUintB at e
  split at e
  · cases e
  · rename_i hne
    obtain ⟨a, b, d⟩ := parseM_digits p 0 u e
    have : fits p = true := by
      simp only [fits, digits, Bool.and_eq_true, Bool.not_eq_true', decide_eq_true_eq]
      refine ⟨⟨by cases p with | nil => exact absurd rfl hne | cons _ _ => rfl, a⟩, ?_⟩
      have h1 := d (by omega)
      rw [b] at h1
      exact h1
    rw [this] at h
    cases h
theorem fits_small {p : Bs} (h : digits p = true) (hl : p.length ≤ 19) : fits p = true := by
  rw [fits, h, Bool.true_and, decide_eq_true_iff]
  simp only [digits, Bool.and_eq_true] at h
  have h1 := val_lt p h.2
  have h2 : 10 ^ p.length ≤ 10 ^ 19 := Nat.pow_le_pow_right (by omega) hl
  omega
theorem fits_digits {p : Bs} (h : digits p = false) : fits p = false := by rw [fits, h]; rfl
end M

/-- the two errors of strconv hold something -/
def NumErrs (w : World) : Prop := (∃ te pe, w.cell? ⟨3, 0, none⟩ = some (.iface te pe)) ∧ ∃ te pe, w.cell? ⟨4, 0, none⟩ = some (.iface te pe)
theorem NumErrs.below {w w' : World} (h : NumErrs w) (b : Below w.heap.size w w') : NumErrs w' := by
  obtain ⟨⟨t1, p1, h1⟩, t2, p2, h2⟩ := h
  exact ⟨⟨t1, p1, by rw [b.cell (p := ⟨3, 0, none⟩) (Sent.cell_lt h1)]; exact h1⟩, t2, p2, by rw [b.cell (p := ⟨4, 0, none⟩) (Sent.cell_lt h2)]; exact h2⟩

theorem parseUint_ok (s : ByteArray) (w : World) (hs : s.size ≤ 140737488351232) (h : Hid (M.fits (M.bs s) = true)) :
    Calls Tryd.prog 84 #[.string s, .int .i64 10, .int .i64 64] w fun e w' => e = .returned (.tuple #[.int .u64 (M.val (M.bs s)), .nilIface]) ∧ Below w.heap.size w w' := by
  refine (Tryd.strconv_ParseUint_10_at64_ok s (by omega) _ (M.parse_ok h.out) w).mono ?_
  rintro e w' ⟨rfl, rfl | rfl⟩
  · exact ⟨rfl, Below.refl _ _⟩
  · exact ⟨rfl, Lib.bytesWorld_below _ _ _⟩

def ParseErr (w : World) (e : Ending) (w' : World) : Prop := ∃ u N, e = .returned (.tuple #[.int .u64 u, .iface 115 (.pointer (some ⟨N, 0, none⟩))]) ∧ Below w.heap.size w w'
theorem parseUint_err (s : ByteArray) (w : World) (hs : s.size ≤ 140737488351232) (h : Hid (M.fits (M.bs s) = false)) (hn : NumErrs w) :
    Calls Tryd.prog 84 #[.string s, .int .i64 10, .int .i64 64] w (ParseErr w) := by
  obtain ⟨⟨t1, p1, h1⟩, t2, p2, h2⟩ := hn
  cases hp : Lib.parseUintB 64 (M.bs s) with
  | ok u => exact absurd hp (M.parse_not h.out u)
  | range =>
    refine (Any.strconv_ParseUint_10_at64_range Tryd.laysPu14 s (by omega) hp _ w h2 (.inr ⟨t2, p2, rfl⟩)).mono ?_
    rintro e w' ⟨N, rfl, _, _, hb⟩
    exact ⟨_, N, rfl, hb⟩
  | _ =>
    refine (Any.strconv_ParseUint_10_at64_syntax Tryd.laysPu14 s (by omega) hp _ w h1 (.inr ⟨t1, p1, rfl⟩)).mono ?_
    rintro e w' ⟨N, rfl, _, _, hb⟩
    exact ⟨_, N, rfl, hb⟩

theorem toList_bs (s : ByteArray) : s.toList = M.bs s := ByteArray.toList_eq s
theorem bs_inj {a b : ByteArray} (h : M.bs a = M.bs b) : a = b := Go.WideShapes.bytes_inj h

theorem ne_toList {a b : ByteArray} (h : M.bs a ≠ M.bs b) : (a.toList == b.toList) = false := by rw [toList_bs, toList_bs]; simpa using h
theorem nonempty_toList {a : ByteArray} (h : M.bs a ≠ []) : a.toList.isEmpty = false := by rw [toList_bs]; cases e : M.bs a with | nil => exact absurd e h | cons _ _ => rfl
theorem empty_toList {a : ByteArray} (h : M.bs a = []) : a.toList = [] := by rw [toList_bs]; exact h

theorem ret_part {s o : M.Bs} {k : Int} (h : M.part s o = k) : Ending.returned (.int .i64 k) = .returned (.int .i64 (M.part s o)) := by rw [h]

set_option maxHeartbeats 1600000 in
/-- two pieces; each is empty, or a number below 2^64 without a leading zero, or no number -/
theorem comparePrePart_any (s o : ByteArray) (w : World) (hs : s.size ≤ 140737488351232) (ho : o.size ≤ 140737488351232) (hn : NumErrs w)
    (fs : M.digits (M.bs s) = true → M.fits (M.bs s) = true) (fo : M.digits (M.bs o) = true → M.fits (M.bs o) = true) :
    Calls Tryd.prog 76 #[.string s, .string o] w fun e w' => e = .returned (.int .i64 (M.part (M.bs s) (M.bs o))) ∧ Below w.heap.size w w' := by
  have HN := Lib.hid hn
  clear hn
  by_cases e : M.bs s = M.bs o
  · have := bs_inj e
    subst this
    go_enter Tryd.func76, Tryd.ntmps76
    go_wp2
    go_ret
    exact ⟨ret_part (by simp [M.part]), Below.refl _ _⟩
  by_cases es : M.bs s = []
  · have h1 : s.toList = [] := empty_toList es
    have h2 : o.toList.isEmpty = false := nonempty_toList (fun h => e (es.trans h.symm))
    have HR := Lib.hid (show M.part (M.bs s) (M.bs o) = -1 by rw [M.part, if_neg e, if_pos es])
    clear e es fs fo
    go_enter Tryd.func76, Tryd.ntmps76
    go_wp2
    go_ret
    exact ⟨ret_part HR.out, Below.refl _ _⟩
  by_cases eo : M.bs o = []
  · have h1 : o.toList = [] := empty_toList eo
    have h2 : s.toList.isEmpty = false := nonempty_toList es
    have h3 := ne_toList e
    have HR := Lib.hid (show M.part (M.bs s) (M.bs o) = 1 by rw [M.part, if_neg e, if_neg es, if_pos eo])
    clear e es eo fs fo
    go_enter Tryd.func76, Tryd.ntmps76
    go_wp2
    go_ret
    exact ⟨ret_part HR.out, Below.refl _ _⟩
  have h1 : o.toList.isEmpty = false := nonempty_toList eo
  have h2 : s.toList.isEmpty = false := nonempty_toList es
  have h3 := ne_toList e
  have HP := Lib.hid (show M.part (M.bs s) (M.bs o) = (if M.digits (M.bs s) = true then (if M.digits (M.bs o) = true then (if M.val (M.bs o) < M.val (M.bs s) then 1 else -1) else -1)
    else if M.digits (M.bs o) = true then 1 else if M.less (M.bs s) (M.bs o) = true then -1 else 1) by rw [M.part, if_neg e, if_neg es, if_neg eo])
  clear e es eo
  cases ds : M.digits (M.bs s) with
  | true =>
    have Fs := Lib.hid (fs ds)
    have DS := Lib.hid ds
    clear fs ds
    cases dd : M.digits (M.bs o) with
    | true =>
      have Fo := Lib.hid (fo dd)
      have DO := Lib.hid dd
      clear fo dd
      go_enter Tryd.func76, Tryd.ntmps76
      go_wp2_with (first
        | (go_at_call_of 84 (Value.string o); (with_reducible refine (parseUint_ok _ _ ho Fo).mono ?_); rintro e w1 ⟨rfl, hbo⟩; have HBo := Lib.hid (hbo); clear hbo)
        | (go_at_call_of 84 (Value.string s); (with_reducible refine (parseUint_ok _ _ hs Fs).mono ?_); rintro e w2 ⟨rfl, hbs⟩; have HBs := Lib.hid (HBo.out.trans (hbs.mono HBo.out.size)); clear hbs))
      all_goals go_ways
      all_goals rename_i hlt
      · go_ret
        exact ⟨ret_part (by rw [HP.out, if_pos DS.out, if_pos DO.out, if_pos hlt]), HBs.out⟩
      · go_ret
        exact ⟨ret_part (by rw [HP.out, if_pos DS.out, if_pos DO.out, if_neg hlt]), HBs.out⟩
    | false =>
      have Fo := Lib.hid (M.fits_digits dd)
      have DO := Lib.hid dd
      clear fo dd
      go_enter Tryd.func76, Tryd.ntmps76
      go_wp2_with (first
        | (go_at_call_of 84 (Value.string o); (with_reducible refine (parseUint_err _ _ ho Fo (HN.out)).mono ?_); rintro e w1 ⟨uo, No, rfl, hbo⟩; have HBo := Lib.hid (hbo); clear hbo)
        | (go_at_call_of 84 (Value.string s); (with_reducible refine (parseUint_ok _ _ hs Fs).mono ?_); rintro e w2 ⟨rfl, hbs⟩; have HBs := Lib.hid (HBo.out.trans (hbs.mono HBo.out.size)); clear hbs))
      go_ret
      exact ⟨ret_part (by rw [HP.out, if_pos DS.out, if_neg (by rw [DO.out]; simp)]), HBs.out⟩
  | false =>
    have Fs := Lib.hid (M.fits_digits ds)
    have DS := Lib.hid ds
    clear fs ds
    cases dd : M.digits (M.bs o) with
    | true =>
      have Fo := Lib.hid (fo dd)
      have DO := Lib.hid dd
      clear fo dd
      go_enter Tryd.func76, Tryd.ntmps76
      go_wp2_with (first
        | (go_at_call_of 84 (Value.string o); (with_reducible refine (parseUint_ok _ _ ho Fo).mono ?_); rintro e w1 ⟨rfl, hbo⟩; have HBo := Lib.hid (hbo); clear hbo)
        | (go_at_call_of 84 (Value.string s); (with_reducible refine (parseUint_err _ _ hs Fs (HN.out.below HBo.out)).mono ?_); rintro e w2 ⟨us, Ns, rfl, hbs⟩; have HBs := Lib.hid (HBo.out.trans (hbs.mono HBo.out.size)); clear hbs))
      go_ret
      exact ⟨ret_part (by rw [HP.out, if_neg (by rw [DS.out]; simp), if_pos DO.out]), HBs.out⟩
    | false =>
      have Fo := Lib.hid (M.fits_digits dd)
      have DO := Lib.hid dd
      clear fo dd
      cases hl : M.less (M.bs s) (M.bs o) with
      | true =>
        have h4 : Op.bytesLess s.toList o.toList = true := by rw [toList_bs, toList_bs]; exact hl
        have HL := Lib.hid hl
        clear hl
        go_enter Tryd.func76, Tryd.ntmps76
        go_wp2_with (first
          | (go_at_call_of 84 (Value.string o); (with_reducible refine (parseUint_err _ _ ho Fo (HN.out)).mono ?_); rintro e w1 ⟨uo, No, rfl, hbo⟩; have HBo := Lib.hid (hbo); clear hbo)
          | (go_at_call_of 84 (Value.string s); (with_reducible refine (parseUint_err _ _ hs Fs (HN.out.below HBo.out)).mono ?_); rintro e w2 ⟨us, Ns, rfl, hbs⟩; have HBs := Lib.hid (HBo.out.trans (hbs.mono HBo.out.size)); clear hbs))
        go_ret
        exact ⟨ret_part (by rw [HP.out, if_neg (by rw [DS.out]; simp), if_neg (by rw [DO.out]; simp), if_pos HL.out]), HBs.out⟩
      | false =>
        have h4 : Op.bytesLess s.toList o.toList = false := by rw [toList_bs, toList_bs]; exact hl
        have HL := Lib.hid hl
        clear hl
        go_enter Tryd.func76, Tryd.ntmps76
        go_wp2_with (first
          | (go_at_call_of 84 (Value.string o); (with_reducible refine (parseUint_err _ _ ho Fo (HN.out)).mono ?_); rintro e w1 ⟨uo, No, rfl, hbo⟩; have HBo := Lib.hid (hbo); clear hbo)
          | (go_at_call_of 84 (Value.string s); (with_reducible refine (parseUint_err _ _ hs Fs (HN.out.below HBo.out)).mono ?_); rintro e w2 ⟨us, Ns, rfl, hbs⟩; have HBs := Lib.hid (HBo.out.trans (hbs.mono HBo.out.size)); clear hbs))
        go_ret
        exact ⟨ret_part (by rw [HP.out, if_neg (by rw [DS.out]; simp), if_neg (by rw [DO.out]; simp), if_neg (by rw [HL.out]; simp)]), HBs.out⟩
end Go.Proofs.YtnkdpgcfaelpkaaDoor

/-
  The reference's checks of prereleases and metadata (spec.ValidMeta, ValidPre, SmallPre).
-/
namespace Go.Proofs.YtnkdpgcfaelpkaaDoor
open Go.RowKit

theorem listAll_take {α : Type} (p : α → Bool) (L : List α) (k : Nat) (h : k < L.length) (hk : (L.take k).all p = true) (hp : p L[k] = true) : (L.take (k + 1)).all p = true := by
  rw [List.take_succ_eq_append_getElem h, List.all_append, hk]
  simp [hp]
theorem listAll_false {α : Type} (p : α → Bool) (L : List α) (k : Nat) (h : k < L.length) (hp : p L[k] = false) : L.all p = false := by
  rw [List.all_eq_false]
  exact ⟨L[k], List.getElem_mem h, by simp [hp]⟩
theorem all_bs (p : M.Bs → Bool) {L : List ByteArray} {l : List M.Bs} (h : L.map M.bs = l) : l.all p = L.all fun b => p (M.bs b) := by
  rw [← h, List.all_map]; rfl
theorem pieces_len {x : UInt8} {s : ByteArray} {L : List ByteArray} (h : L.map M.bs = M.splitOn x (M.bs s)) : L.length ≤ s.size + 1 := by
  have h1 := M.splitOn_length x (M.bs s)
  rw [← h, List.length_map, M.bs_length] at h1
  exact h1
theorem piece_size {x : UInt8} {s : ByteArray} {L : List ByteArray} (h : L.map M.bs = M.splitOn x (M.bs s)) (k : Nat) (hk : k < L.length) : L[k].size ≤ s.size := by
  have hm : M.bs L[k] ∈ M.splitOn x (M.bs s) := by rw [← h]; exact List.mem_map.2 ⟨L[k], List.getElem_mem hk, rfl⟩
  have := M.piece_le x (M.bs s) _ hm
  simpa [M.bs_length] using this

set_option maxRecDepth 100000 in
theorem validMeta_any (s : ByteArray) (w : World) (hs : s.size ≤ 2147483647) :
    Calls Tryd.prog 35 #[.string s] w fun e w' => e = .returned (.bool (M.validMeta (M.bs s))) ∧ Below w.heap.size w w' := by
  go_enter Tryd.func35, Tryd.ntmps35
  go_wp2_with fail
  refine (identifiers_any s _ hs).mono ?_
  rintro e w1 ⟨v, L, rfl, hL, hown, hb⟩
  obtain ⟨A, cap, rfl, hcell⟩ := hown.read
  have hlen := pieces_len hL
  have HA := Lib.hid (all_bs M.validId hL)
  have HL := Lib.hid hL
  have HC := Lib.hid hcell
  have HB := Lib.hid hb
  clear hL hown hcell hb
  go_wp2
  go_loop [8] (fun i => ∃ k : Nat, k ≤ L.length ∧ i = .int .i64 k ∧ Hid ((L.take k).all (fun b => M.validId (M.bs b)) = true)) (fun i => L.length - (intOf i).toNat)
  case atStart => exact ⟨0, Nat.zero_le _, rfl, Lib.hid (by simp)⟩
  case round =>
    obtain ⟨k, hk, rfl, ha⟩ := hrel
    by_cases hlt : k < L.length
    · obtain ⟨b, o, rfl, _, hcell⟩ := HC.out k hlt
      have hsz := piece_size HL.out k hlt
      go_wp2_with ((go_at_call 51; (with_reducible refine (validIdent_any _ _ (by omega)).mono ?_); rintro e w' ⟨rfl, rfl⟩))
      · have hv : (!M.validId (M.bs L[k])) = true := by assumption
        go_ret
        refine ⟨ret_bool ?_, HB.out⟩
        unfold M.validMeta
        rw [HA.out, listAll_false _ L k hlt (by simpa using hv)]
      · have hv : (!M.validId (M.bs L[k])) = false := by assumption
        have HV := Lib.hid (show M.validId (M.bs L[k]) = true by simpa using hv)
        clear hv
        go_round
        case rel => exact ⟨k + 1, hlt, by go_num, Lib.hid (listAll_take _ L k hlt ha.out HV.out)⟩
        case measure => simp [intOf]; omega
    · have HK := Lib.hid (show k = L.length by omega)
      go_wp2
      go_ret
      refine ⟨ret_bool ?_, HB.out⟩
      have h1 := ha.out
      rw [HK.out, List.take_length] at h1
      unfold M.validMeta
      rw [HA.out, h1]

theorem zeroNum_eq (t : ByteArray) (h : 0 < t.size) : M.zeroNum (M.bs t) = (M.digits (M.bs t) && decide (1 < (t.size : Int)) && ((t[0].toNat : Int) == 48)) := by
  unfold M.zeroNum
  rw [M.bs_length, List.head?_eq_getElem?, M.bs_get t 0 h]
  congr 1
  · congr 1
    rw [Bool.eq_iff_iff, decide_eq_true_iff, decide_eq_true_iff]
    omega
  · rw [Bool.eq_iff_iff, beq_iff_eq, beq_iff_eq, Option.some.injEq, ← UInt8.toNat_inj]
    constructor
    · intro h1; rw [h1]; rfl
    · intro h1
      have : t[0].toNat = 48 := by omega
      exact this
theorem zeroNum_short (t : ByteArray) (h : ¬ 1 < (t.size : Int)) : M.zeroNum (M.bs t) = false := by
  unfold M.zeroNum
  rw [M.bs_length, show decide (1 < t.size) = false from by simp; omega]
  simp

set_option maxRecDepth 100000 in
theorem validPre_any (s : ByteArray) (w : World) (hs : s.size ≤ 2147483647) :
    Calls Tryd.prog 33 #[.string s] w fun e w' => e = .returned (.bool (M.validPre (M.bs s))) ∧ Below w.heap.size w w' := by
  go_enter Tryd.func33, Tryd.ntmps33
  go_wp2_with fail
  refine (identifiers_any s _ hs).mono ?_
  rintro e w1 ⟨v, L, rfl, hL, hown, hb⟩
  obtain ⟨A, cap, rfl, hcell⟩ := hown.read
  have hlen := pieces_len hL
  have HA := Lib.hid (all_bs (fun p => M.validId p && !M.zeroNum p) hL)
  have HL := Lib.hid hL
  have HC := Lib.hid hcell
  have HB := Lib.hid hb
  clear hL hown hcell hb
  go_wp2
  go_loop [8] (fun i => ∃ k : Nat, k ≤ L.length ∧ i = .int .i64 k ∧ Hid ((L.take k).all (fun b => M.validId (M.bs b) && !M.zeroNum (M.bs b)) = true)) (fun i => L.length - (intOf i).toNat)
  case atStart => exact ⟨0, Nat.zero_le _, rfl, Lib.hid (by simp)⟩
  case round =>
    obtain ⟨k, hk, rfl, ha⟩ := hrel
    by_cases hlt : k < L.length
    · obtain ⟨b, o, rfl, _, hcell⟩ := HC.out k hlt
      have hsz := piece_size HL.out k hlt
      go_wp2_with (first
        | (go_at_call 51; (with_reducible refine (validIdent_any _ _ (by omega)).mono ?_); rintro e w' ⟨rfl, rfl⟩)
        | (go_at_call 52; (with_reducible refine (digits_any _ _ (by omega)).mono ?_); rintro e w' ⟨rfl, rfl⟩))
      · have h1 : M.validId (M.bs L[k]) = true := by assumption
        have h2 : M.digits (M.bs L[k]) = true := by assumption
        have h3 : 1 < (L[k].size : Int) := by assumption
        have h4 : 0 < L[k].size := by assumption
        have h5 : ((L[k][0].toNat : Int) == 48) = true := by assumption
        go_ret
        refine ⟨ret_bool ?_, HB.out⟩
        unfold M.validPre
        rw [HA.out, listAll_false _ L k hlt (by rw [zeroNum_eq _ h4, h2, h5, decide_eq_true h3]; simp)]
      · have h1 : M.validId (M.bs L[k]) = true := by assumption
        have h4 : 0 < L[k].size := by assumption
        have h5 : ((L[k][0].toNat : Int) == 48) = false := by assumption
        have HV := Lib.hid (show (M.validId (M.bs L[k]) && !M.zeroNum (M.bs L[k])) = true by rw [zeroNum_eq _ h4, h1, h5]; simp)
        clear h1 h5
        go_round
        case rel => exact ⟨k + 1, hlt, by go_num, Lib.hid (listAll_take _ L k hlt ha.out HV.out)⟩
        case measure => simp [intOf]; omega
      · have h1 : M.validId (M.bs L[k]) = true := by assumption
        have h3 : ¬ 1 < (L[k].size : Int) := by assumption
        have HV := Lib.hid (show (M.validId (M.bs L[k]) && !M.zeroNum (M.bs L[k])) = true by rw [zeroNum_short _ h3, h1]; rfl)
        clear h1
        go_round
        case rel => exact ⟨k + 1, hlt, by go_num, Lib.hid (listAll_take _ L k hlt ha.out HV.out)⟩
        case measure => simp [intOf]; omega
      · have h1 : M.validId (M.bs L[k]) = true := by assumption
        have h2 : ¬ M.digits (M.bs L[k]) = true := by assumption
        have HV := Lib.hid (show (M.validId (M.bs L[k]) && !M.zeroNum (M.bs L[k])) = true by simp [M.zeroNum, h1, h2])
        clear h1 h2
        go_round
        case rel => exact ⟨k + 1, hlt, by go_num, Lib.hid (listAll_take _ L k hlt ha.out HV.out)⟩
        case measure => simp [intOf]; omega
      · have h1 : ¬ M.validId (M.bs L[k]) = true := by assumption
        go_ret
        refine ⟨ret_bool ?_, HB.out⟩
        unfold M.validPre
        rw [HA.out, listAll_false _ L k hlt (by simp [h1])]
    · have HK := Lib.hid (show k = L.length by omega)
      go_wp2
      go_ret
      refine ⟨ret_bool ?_, HB.out⟩
      have h1 := ha.out
      rw [HK.out, List.take_length] at h1
      unfold M.validPre
      rw [HA.out, h1]

set_option maxRecDepth 100000 in
theorem smallPre_any (s : ByteArray) (w : World) (hs : s.size ≤ 2147483647) :
    Calls Tryd.prog 34 #[.string s] w fun e w' => e = .returned (.bool (M.smallPre (M.bs s))) ∧ Below w.heap.size w w' := by
  go_enter Tryd.func34, Tryd.ntmps34
  go_wp2_with fail
  refine (identifiers_any s _ hs).mono ?_
  rintro e w1 ⟨v, L, rfl, hL, hown, hb⟩
  obtain ⟨A, cap, rfl, hcell⟩ := hown.read
  have hlen := pieces_len hL
  have HA := Lib.hid (all_bs (fun p => !(M.digits p && decide (19 < p.length))) hL)
  have HL := Lib.hid hL
  have HC := Lib.hid hcell
  have HB := Lib.hid hb
  clear hL hown hcell hb
  go_wp2
  go_loop [8] (fun i => ∃ k : Nat, k ≤ L.length ∧ i = .int .i64 k ∧ Hid ((L.take k).all (fun b => !(M.digits (M.bs b) && decide (19 < (M.bs b).length))) = true)) (fun i => L.length - (intOf i).toNat)
  case atStart => exact ⟨0, Nat.zero_le _, rfl, Lib.hid (by simp)⟩
  case round =>
    obtain ⟨k, hk, rfl, ha⟩ := hrel
    by_cases hlt : k < L.length
    · obtain ⟨b, o, rfl, _, hcell⟩ := HC.out k hlt
      have hsz := piece_size HL.out k hlt
      have HN := Lib.hid (M.bs_length L[k])
      go_wp2_with ((go_at_call 52; (with_reducible refine (digits_any _ _ (by omega)).mono ?_); rintro e w' ⟨rfl, rfl⟩))
      · have h2 : M.digits (M.bs L[k]) = true := by assumption
        have h3 : 19 < (L[k].size : Int) := by assumption
        go_ret
        refine ⟨ret_bool ?_, HB.out⟩
        unfold M.smallPre
        rw [HA.out, listAll_false _ L k hlt (by rw [HN.out, h2, decide_eq_true (by omega)]; rfl)]
      · have h3 : (L[k].size : Int) ≤ 19 := by assumption
        have HV := Lib.hid (show (!(M.digits (M.bs L[k]) && decide (19 < (M.bs L[k]).length))) = true by rw [HN.out, decide_eq_false (by omega), Bool.and_false]; rfl)
        go_round
        case rel => exact ⟨k + 1, hlt, by go_num, Lib.hid (listAll_take _ L k hlt ha.out HV.out)⟩
        case measure => simp [intOf]; omega
      · have h2 : ¬ M.digits (M.bs L[k]) = true := by assumption
        have HV := Lib.hid (show (!(M.digits (M.bs L[k]) && decide (19 < (M.bs L[k]).length))) = true by simp [h2])
        clear h2
        go_round
        case rel => exact ⟨k + 1, hlt, by go_num, Lib.hid (listAll_take _ L k hlt ha.out HV.out)⟩
        case measure => simp [intOf]; omega
    · have HK := Lib.hid (show k = L.length by omega)
      go_wp2
      go_ret
      refine ⟨ret_bool ?_, HB.out⟩
      have h1 := ha.out
      rw [HK.out, List.take_length] at h1
      unfold M.smallPre
      rw [HA.out, h1]
end Go.Proofs.YtnkdpgcfaelpkaaDoor

namespace Go.Proofs.YtnkdpgcfaelpkaaDoor
open Go.RowKit
set_option maxRecDepth 100000

namespace M
theorem cmpL_map {α β : Type} (f : β → β → Int) (g : α → β) : ∀ l r : List α, cmpL f (l.map g) (r.map g) = cmpL (fun a b => f (g a) (g b)) l r
  | [], [] => rfl
  | [], _ :: _ => rfl
  | _ :: _, [] => rfl
  | a :: l, b :: r => by
    have := cmpL_map f g l r
    simp only [List.map_cons, cmpL, this]
theorem cmpL_both {α : Type} (f : α → α → Int) {l r : List α} {k : Nat} (h1 : k < l.length) (h2 : k < r.length) :
    cmpL f (l.drop k) (r.drop k) = if f l[k] r[k] = 0 then cmpL f (l.drop (k + 1)) (r.drop (k + 1)) else f l[k] r[k] := by
  rw [List.drop_eq_getElem_cons h1, List.drop_eq_getElem_cons h2]; rfl
theorem cmpL_left {α : Type} (f : α → α → Int) {l r : List α} {k : Nat} (h1 : k < l.length) (h2 : r.length ≤ k) : cmpL f (l.drop k) (r.drop k) = 1 := by
  rw [List.drop_eq_getElem_cons h1, List.drop_eq_nil_of_le h2]; rfl
theorem cmpL_right {α : Type} (f : α → α → Int) {l r : List α} {k : Nat} (h1 : l.length ≤ k) (h2 : k < r.length) : cmpL f (l.drop k) (r.drop k) = -1 := by
  rw [List.drop_eq_getElem_cons h2, List.drop_eq_nil_of_le h1]; rfl
theorem cmpL_end {α : Type} (f : α → α → Int) {l r : List α} {k : Nat} (h1 : l.length ≤ k) (h2 : r.length ≤ k) : cmpL f (l.drop k) (r.drop k) = 0 := by
  rw [List.drop_eq_nil_of_le h2, List.drop_eq_nil_of_le h1]; rfl
/-- a prerelease whose pieces are fit and whose numbers are small -/
def goodPre (l : Bs) : Bool := validPre l && smallPre l
def F (a b : ByteArray) : Int := partSpec (bs a) (bs b)
end M

/-- the pieces of a good prerelease -/
def Fit (L : List ByteArray) : Prop := ∀ b ∈ L, M.okPiece (M.bs b) = true ∧ (M.digits (M.bs b) = true → M.fits (M.bs b) = true)
theorem fit_of {s : ByteArray} {L : List ByteArray} (hg : M.goodPre (M.bs s) = true) (h : L.map M.bs = M.splitOn 46 (M.bs s)) : Fit L := by
  intro b hb
  have hm : M.bs b ∈ M.splitOn 46 (M.bs s) := by rw [← h]; exact List.mem_map.2 ⟨b, hb, rfl⟩
  simp only [M.goodPre, M.validPre, M.smallPre, Bool.and_eq_true, List.all_eq_true] at hg
  have h1 := hg.1 _ hm
  have h2 := hg.2 _ hm
  refine ⟨by simp only [M.okPiece, Bool.and_eq_true]; exact h1, fun hd => M.fits_small hd ?_⟩
  rw [hd, Bool.true_and, Bool.not_eq_true', decide_eq_false_iff_not] at h2
  omega

theorem comparePart_is (s o : ByteArray) (r : Int) (w : World) (hs : s.size ≤ 140737488351232) (ho : o.size ≤ 140737488351232) (hn : NumErrs w)
    (fs : Hid (M.digits (M.bs s) = true → M.fits (M.bs s) = true)) (fo : Hid (M.digits (M.bs o) = true → M.fits (M.bs o) = true)) (hr : Hid (M.part (M.bs s) (M.bs o) = r)) :
    Calls Tryd.prog 76 #[.string s, .string o] w fun e w' => e = .returned (.int .i64 r) ∧ Below w.heap.size w w' := by
  have := comparePrePart_any s o w hs ho hn fs.out fo.out
  rw [hr.out] at this
  exact this
theorem fits_nil : Hid (M.digits (M.bs ⟨#[]⟩) = true → M.fits (M.bs ⟨#[]⟩) = true) := Lib.hid (fun h => by simp [M.digits, M.bs] at h)
theorem part_left {p : ByteArray} (h : M.okPiece (M.bs p) = true) : Hid (M.part (M.bs p) (M.bs ⟨#[]⟩) = 1) := by
  have := (M.okPiece_parts h).1
  have e : M.bs ⟨#[]⟩ = [] := rfl
  exact Lib.hid (by rw [e, M.part, if_neg this, if_neg this, if_pos rfl])
theorem part_right {p : ByteArray} (h : M.okPiece (M.bs p) = true) : Hid (M.part (M.bs ⟨#[]⟩) (M.bs p) = -1) := by
  have := (M.okPiece_parts h).1
  have e : M.bs ⟨#[]⟩ = [] := rfl
  exact Lib.hid (by rw [e, M.part, if_neg (fun h => this h.symm), if_pos rfl])

theorem ret_int {a b : Int} (h : a = b) : Ending.returned (.int .i64 a) = .returned (.int .i64 b) := by rw [h]

theorem comparePrerelease_any (s o : ByteArray) (w : World) (hs : s.size ≤ 2147483647) (ho : o.size ≤ 2147483647) (hn : NumErrs w)
    (gs : Hid (M.goodPre (M.bs s) = true)) (go : Hid (M.goodPre (M.bs o) = true)) :
    Calls Tryd.prog 68 #[.string s, .string o] w fun e w' => e = .returned (.int .i64 (M.cmpPre (M.bs s) (M.bs o))) ∧ Below w.heap.size w w' := by
  have HN := Lib.hid hn
  clear hn
  go_enter Tryd.func68, Tryd.ntmps68
  go_wp2_with fail
  refine (zzSplit_any s 46 _ hs).mono ?_
  rintro e w1 ⟨v, L, rfl, hL, hown, hb⟩
  have HB1 := Lib.hid hb
  have HR1 := Lib.hid hown.read
  have HL1 := Lib.hid hL
  clear hL hown hb
  go_wp2_with fail
  refine (zzSplit_any o 46 _ ho).mono ?_
  rintro e w2 ⟨v2, N, rfl, hL, hown, hb⟩
  obtain ⟨A, cap, rfl, hcell⟩ := HR1.out.kept hb
  obtain ⟨A2, cap2, rfl, hcell2⟩ := hown.read
  have hlen := pieces_len HL1.out
  have hlen2 := pieces_len hL
  have F1 := Lib.hid (fit_of gs.out HL1.out)
  have F2 := Lib.hid (fit_of go.out hL)
  have HP := Lib.hid (show M.cmpPre (M.bs s) (M.bs o) = M.cmpL M.F L N by rw [M.cmpPre, ← HL1.out, ← hL, M.cmpL_map]; rfl)
  have HB := Lib.hid (HB1.out.trans (hb.mono HB1.out.size))
  have Z1 := Lib.hid (piece_size HL1.out)
  have Z2 := Lib.hid (piece_size hL)
  have HC := Lib.hid hcell
  have HC2 := Lib.hid hcell2
  clear HR1 HL1 hL hown hb HB1 hcell hcell2
  go_wp2
  all_goals go_ways
  all_goals
    go_loopw [10] (fun i wr => ∃ k : Nat, (k ≤ L.length ∨ k ≤ N.length) ∧ i = .int .i64 k ∧ Hid (M.cmpPre (M.bs s) (M.bs o) = M.cmpL M.F (L.drop k) (N.drop k)) ∧ Hid (Below w2.heap.size w2 wr)) (fun i _ => (if L.length < N.length then N.length else L.length) - (intOf i).toNat)
    case atStart => exact ⟨0, .inl (Nat.zero_le _), rfl, Lib.hid (by rw [HP.out]; rfl), Lib.hid (Below.refl _ _)⟩
    case round =>
      obtain ⟨k, hk, rfl, HA, HR⟩ := hrel
      have HBE := Lib.hid (HB.out.trans (HR.out.mono HB.out.size))
      have HNE := Lib.hid (HN.out.below HBE.out)
      rcases Nat.lt_or_ge k L.length with hlt | hlt <;> rcases Nat.lt_or_ge k N.length with hlt2 | hlt2
      · obtain ⟨b, a, rfl, hbl, hcell⟩ := HC.out k hlt
        have hcell2 : wr.cell? ⟨b, a + k, none⟩ = some (.string L[k]) := by rw [HR.out.cell (p := ⟨b, a + k, none⟩) hbl]; exact hcell
        clear hcell hbl
        obtain ⟨b2, a2, rfl, hbl, hcell⟩ := HC2.out k hlt2
        have hcell3 : wr.cell? ⟨b2, a2 + k, none⟩ = some (.string N[k]) := by rw [HR.out.cell (p := ⟨b2, a2 + k, none⟩) hbl]; exact hcell
        clear hcell hbl
        have hsz := Z1.out k hlt
        have hsz2 := Z2.out k hlt2
        have FK := Lib.hid (F1.out _ (List.getElem_mem hlt)).2
        have FK2 := Lib.hid (F2.out _ (List.getElem_mem hlt2)).2
        have hps := M.part_spec (F1.out _ (List.getElem_mem hlt)).1 (F2.out _ (List.getElem_mem hlt2)).1
        rcases M.partSpec_cmp.range (M.bs L[k]) (M.bs N[k]) with hp | hp | hp
        · have HS := Lib.hid hp
          have PK := Lib.hid (hps.trans hp)
          clear hps hp
          go_wp2_with ((go_at_call 76; (with_reducible refine (comparePart_is _ _ (-1) _ (by omega) (by omega) HNE.out FK FK2 PK).mono ?_); rintro e w3 ⟨rfl, hb3⟩; have HB3 := Lib.hid (HBE.out.trans (hb3.mono HBE.out.size)); clear hb3))
          go_ret
          exact ⟨ret_int (by rw [HA.out, M.cmpL_both _ hlt hlt2, M.F, HS.out, if_neg (by decide)]), HB3.out⟩
        · have HS := Lib.hid hp
          have PK := Lib.hid (hps.trans hp)
          clear hps hp
          go_wp2_with ((go_at_call 76; (with_reducible refine (comparePart_is _ _ 0 _ (by omega) (by omega) HNE.out FK FK2 PK).mono ?_); rintro e w3 ⟨rfl, hb3⟩; have HB3 := Lib.hid (HR.out.trans (hb3.mono HR.out.size)); clear hb3))
          go_roundw
          case rel => exact ⟨k + 1, .inl hlt, by go_num, Lib.hid (by rw [HA.out, M.cmpL_both _ hlt hlt2, M.F, HS.out, if_pos rfl])⟩
          case measure => simp [intOf]; omega
        · have HS := Lib.hid hp
          have PK := Lib.hid (hps.trans hp)
          clear hps hp
          go_wp2_with ((go_at_call 76; (with_reducible refine (comparePart_is _ _ 1 _ (by omega) (by omega) HNE.out FK FK2 PK).mono ?_); rintro e w3 ⟨rfl, hb3⟩; have HB3 := Lib.hid (HBE.out.trans (hb3.mono HBE.out.size)); clear hb3))
          go_ret
          exact ⟨ret_int (by rw [HA.out, M.cmpL_both _ hlt hlt2, M.F, HS.out, if_neg (by decide)]), HB3.out⟩
      · first
        | omega
        | (obtain ⟨b, a, rfl, hbl, hcell⟩ := HC.out k hlt
           have hcell2 : wr.cell? ⟨b, a + k, none⟩ = some (.string L[k]) := by rw [HR.out.cell (p := ⟨b, a + k, none⟩) hbl]; exact hcell
           clear hcell hbl
           have hsz := Z1.out k hlt
           have FK := Lib.hid (F1.out _ (List.getElem_mem hlt)).2
           have PK := part_left (F1.out _ (List.getElem_mem hlt)).1
           go_wp2_with ((go_at_call 76; (with_reducible refine (comparePart_is _ _ 1 _ (by omega) (by decide) HNE.out FK fits_nil PK).mono ?_); rintro e w3 ⟨rfl, hb3⟩; have HB3 := Lib.hid (HBE.out.trans (hb3.mono HBE.out.size)); clear hb3))
           go_ret
           exact ⟨ret_int (by rw [HA.out, M.cmpL_left _ hlt hlt2]), HB3.out⟩)
      · first
        | omega
        | (obtain ⟨b, a, rfl, hbl, hcell⟩ := HC2.out k hlt2
           have hcell2 : wr.cell? ⟨b, a + k, none⟩ = some (.string N[k]) := by rw [HR.out.cell (p := ⟨b, a + k, none⟩) hbl]; exact hcell
           clear hcell hbl
           have hsz := Z2.out k hlt2
           have FK := Lib.hid (F2.out _ (List.getElem_mem hlt2)).2
           have PK := part_right (F2.out _ (List.getElem_mem hlt2)).1
           go_wp2_with ((go_at_call 76; (with_reducible refine (comparePart_is _ _ (-1) _ (by decide) (by omega) HNE.out fits_nil FK PK).mono ?_); rintro e w3 ⟨rfl, hb3⟩; have HB3 := Lib.hid (HBE.out.trans (hb3.mono HBE.out.size)); clear hb3))
           go_ret
           exact ⟨ret_int (by rw [HA.out, M.cmpL_right _ hlt hlt2]), HB3.out⟩)
      · go_wp2
        go_ret
        exact ⟨ret_int (by rw [HA.out, M.cmpL_end _ hlt hlt2]), HBE.out⟩
theorem eq_list (a b : ByteArray) : (a.toList == b.toList) = decide (M.bs a = M.bs b) := by
  rw [toList_bs, toList_bs]
  by_cases h : M.bs a = M.bs b
  · simp [h]
  · rw [decide_eq_false h]; simpa using h
theorem cmpPre_eq {a b : ByteArray} {x : Int} (h : M.cmpPre (M.bs a) (M.bs b) = x) : (a.toList == b.toList) = decide (x = 0) := by
  rw [eq_list]
  exact decide_eq_decide.2 ((M.cmpPre_cmp.iff _ _).symm.trans (by rw [h]))

def numG : List Nat := [3, 4]
theorem numErrs_of {w : World} {sa : Nat → Addr} (h : Sent.Errs numG w sa) : NumErrs w := ⟨⟨_, _, h.var 0 (by decide)⟩, ⟨_, _, h.var 1 (by decide)⟩⟩
/-- an entry that is an interface's value -/
def isE : String × DataW Unit → Bool
  | (_, .iface _ _) => true
  | _ => false

end Go.Proofs.YtnkdpgcfaelpkaaDoor

/-
  semver's containsOnly at a text of ASCII: whether each byte of a text stands in it.
-/
namespace Go.Proofs.YtnkdpgcfaelpkaaDoor
open Go.RowKit

namespace M
/-- where a byte of number r stands first, or -1 -/
def idxN (r : Nat) (l : Bs) : Int := match l.findIdx? (fun c => c.toNat == r) with
  | some i => (i : Int)
  | none => -1
theorem idxN_none {r : Nat} {l : Bs} (h : ∀ c ∈ l, c.toNat ≠ r) : idxN r l = -1 := by
  unfold idxN
  rw [List.findIdx?_eq_none_iff.2 (by simpa using h)]
theorem idxN_at {r : Nat} {l : Bs} {k : Nat} {d : UInt8} (hk : l[k]? = some d) (hd : d.toNat = r) (h : ∀ j, j < k → ∀ c, l[j]? = some c → c.toNat ≠ r) : idxN r l = k := by
  unfold idxN
  have hkl := (List.getElem?_eq_some_iff.1 hk)
  rw [List.findIdx?_eq_some_iff_getElem.2 ⟨hkl.1, by simp [hkl.2, hd], fun j hj => by simpa using h j hj _ (List.getElem?_eq_getElem (by have := hkl.1; omega))⟩]
theorem idxN_nonneg (r : Nat) (l : Bs) : decide (0 ≤ idxN r l) = l.any (fun c => c.toNat == r) := by
  unfold idxN
  cases e : l.findIdx? (fun c => c.toNat == r) with
  | none =>
    have := List.findIdx?_eq_none_iff.1 e
    rw [List.any_eq_false.2 (by simpa using this)]
    rfl
  | some i =>
    obtain ⟨h1, h2, _⟩ := List.findIdx?_eq_some_iff_getElem.1 e
    rw [List.any_eq_true.2 ⟨l[i], List.getElem_mem h1, h2⟩]
    simp
end M

/-- each byte is below 128 -/
def Ascii (l : M.Bs) : Prop := ∀ c ∈ l, c.toNat < 128

theorem ascii_at {s : ByteArray} (h : Ascii (M.bs s)) (k : Nat) (hk : k < s.size) : (s[k]'hk).toNat < 128 :=
  h _ (by unfold M.bs; exact List.getElem_mem (by simpa using hk))

theorem zir_cases (r : Nat) : (((r : Int) != 65533) = false) ∨ (((r : Int) != 65533) = true ∧ decide ((55296 : Int) ≤ (r : Int)) = false) ∨
    (((r : Int) != 65533) = true ∧ decide ((55296 : Int) ≤ (r : Int)) = true ∧ decide ((r : Int) ≤ 57343) = false) ∨
    (((r : Int) != 65533) = true ∧ decide ((55296 : Int) ≤ (r : Int)) = true ∧ decide ((r : Int) ≤ 57343) = true) := by
  cases ((r : Int) != 65533) <;> cases decide ((55296 : Int) ≤ (r : Int)) <;> cases decide ((r : Int) ≤ 57343) <;> simp

/-- the bytes of l stand in comp -/
def M.only (comp l : M.Bs) : Bool := l.all fun c => comp.any fun d => d.toNat == c.toNat

end Go.Proofs.YtnkdpgcfaelpkaaDoor

/-
  semver's own checks of metadata and prereleases: which error they hand back.
-/
namespace Go.Proofs.YtnkdpgcfaelpkaaDoor
open Go.RowKit

def alphaB : ByteArray := ⟨#[97, 98, 99, 100, 101, 102, 103, 104, 105, 106, 107, 108, 109, 110, 111, 112, 113, 114, 115, 116, 117, 118, 119, 120, 121, 122, 65, 66, 67, 68, 69, 70, 71, 72, 73, 74, 75, 76, 77, 78, 79, 80, 81, 82, 83, 84, 85, 86, 87, 88, 89, 90, 45, 48, 49, 50, 51, 52, 53, 54, 55, 56, 57]⟩
def numB : ByteArray := ⟨#[48, 49, 50, 51, 52, 53, 54, 55, 56, 57]⟩
theorem alpha_all : ((List.range 256).all fun n => ((M.bs alphaB).any fun d => d.toNat == n) == M.isIdc (UInt8.ofNat n)) = true := by decide +kernel
theorem num_all : ((List.range 256).all fun n => ((M.bs numB).any fun d => d.toNat == n) == M.isDig (UInt8.ofNat n)) = true := by decide +kernel
theorem only_alpha (l : M.Bs) : M.only (M.bs alphaB) l = l.all M.isIdc := by
  unfold M.only
  congr 1
  funext c
  have := List.all_eq_true.1 alpha_all c.toNat (List.mem_range.2 c.toNat_lt)
  simpa using this
theorem only_num (l : M.Bs) : M.only (M.bs numB) l = l.all M.isDig := by
  unfold M.only
  congr 1
  funext c
  have := List.all_eq_true.1 num_all c.toNat (List.mem_range.2 c.toNat_lt)
  simpa using this
theorem ascii_alpha : Ascii (M.bs alphaB) := by
  have : (M.bs alphaB).all (fun c => decide (c.toNat < 128)) = true := by decide +kernel
  intro c hc
  simpa using List.all_eq_true.1 this c hc
theorem ascii_num : Ascii (M.bs numB) := by
  have : (M.bs numB).all (fun c => decide (c.toNat < 128)) = true := by decide +kernel
  intro c hc
  simpa using List.all_eq_true.1 this c hc

/-- nil for what is valid -/
def metaVal (ev : Value) (b : Bool) : Value := if b then .nilIface else ev

theorem ret_val {a b : Value} (h : a = b) : Ending.returned a = .returned b := by rw [h]

namespace M
/-- what the check of a prerelease finds first: 0 nothing, 1 a piece that is none, 2 a leading zero -/
def preRes : List Bs → Nat
  | [] => 0
  | p :: r => if p.isEmpty then 1 else if p.all isDig then (if 1 < p.length ∧ p.head? = some 48 then 2 else preRes r) else if p.all isIdc then preRes r else 1
theorem preRes_cons (p : Bs) (r : List Bs) : preRes (p :: r) = if p.isEmpty then 1 else if p.all isDig then (if 1 < p.length ∧ p.head? = some 48 then 2 else preRes r) else if p.all isIdc then preRes r else 1 := rfl
theorem preRes_ok (p : Bs) (r : List Bs) (h : (validId p && !zeroNum p) = true) : preRes (p :: r) = preRes r := by
  unfold validId zeroNum digits at h
  rw [preRes_cons]
  simp only [Bool.and_eq_true, Bool.not_eq_true', Bool.and_eq_false_iff, beq_eq_false_iff_ne, decide_eq_false_iff_not] at h
  obtain ⟨⟨h1, h2⟩, h3⟩ := h
  rw [h1, if_neg (by simp)]
  by_cases hd : p.all isDig = true
  · rw [if_pos hd, if_neg]
    rintro ⟨a, b⟩
    rcases h3 with (h3 | h3) | h3
    · rcases h3 with h3 | h3
      · rw [h1] at h3; simp at h3
      · rw [hd] at h3; cases h3
    · exact h3 a
    · exact h3 b
  · rw [if_neg hd, if_pos h2]
theorem preRes_bad (p : Bs) (r : List Bs) (h : (validId p && !zeroNum p) = false) : preRes (p :: r) ≠ 0 := by
  unfold validId zeroNum digits at h
  rw [preRes_cons]
  split
  · simp
  · rename_i h1
    split
    · rename_i h2
      split
      · simp
      · rename_i h3
        have hi : p.all isIdc = true := by
          rw [List.all_eq_true] at h2 ⊢
          exact fun c hc => isDig_idc (h2 c hc)
        exfalso
        apply h3
        simp [h1, h2, hi] at h
        exact h
    · rename_i h2
      split
      · rename_i h3
        simp [h1, h2, h3] at h
      · simp
theorem preRes_zero : ∀ l : List Bs, (preRes l = 0) ↔ l.all (fun p => validId p && !zeroNum p) = true
  | [] => by simp [preRes]
  | p :: r => by
    cases h : (validId p && !zeroNum p) with
    | true => rw [preRes_ok p r h, preRes_zero r, List.all_cons, h, Bool.true_and]
    | false =>
      rw [List.all_cons, h, Bool.false_and]
      simp [preRes_bad p r h]
end M
/-- the error that the check of a prerelease hands back -/
def preVal (e1 e2 : Value) (n : Nat) : Value := if n = 0 then .nilIface else if n = 1 then e1 else e2


theorem preVal_nil (e1 e2 : Value) (n : Nat) (h : n = 0) : preVal e1 e2 n = .nilIface := by rw [h]; rfl

theorem head_eq (t : ByteArray) (h : 0 < t.size) : (M.bs t).head? = some t[0] := by rw [List.head?_eq_getElem?, M.bs_get t 0 h]

/-- the pieces from k on -/
theorem drop_map (L : List ByteArray) (k : Nat) (h : k < L.length) : (L.drop k).map M.bs = M.bs L[k] :: (L.drop (k + 1)).map M.bs := by
  rw [List.drop_eq_getElem_cons h]; rfl

end Go.Proofs.YtnkdpgcfaelpkaaDoor

/-
  Contracts with fixed answers of the package's checks; laws.svShort.
-/
namespace Go.Proofs.YtnkdpgcfaelpkaaDoor
open Go.RowKit
set_option maxRecDepth 100000

set_option maxRecDepth 100000 in
theorem svShort_any (v : Value) (L : List ByteArray) (w : World) (hr : ReadS w v L) (hl : L.length ≤ 1099511627776) (hz : ∀ b ∈ L, b.size ≤ 140737488351232) :
    Calls Tryd.prog 29 #[v] w fun e w' => e = .returned (.bool (L.all fun b => decide (b.size ≤ 65536))) ∧ w' = w := by
  obtain ⟨A, cap, rfl, hcell⟩ := hr
  have HC := Lib.hid hcell
  have HZ := Lib.hid hz
  clear hcell hz
  go_enter Tryd.func29, Tryd.ntmps29
  go_wp2
  go_loop [7] (fun i => ∃ k : Nat, k ≤ L.length ∧ i = .int .i64 k ∧ Hid ((L.take k).all (fun b => decide (b.size ≤ 65536)) = true)) (fun i => L.length - (intOf i).toNat)
  case atStart => exact ⟨0, Nat.zero_le _, rfl, Lib.hid (by simp)⟩
  case round =>
    obtain ⟨k, hk, rfl, ha⟩ := hrel
    by_cases hlt : k < L.length
    · obtain ⟨b, o, rfl, _, hcell⟩ := HC.out k hlt
      have hsz := HZ.out L[k] (List.getElem_mem hlt)
      go_wp2
      · have h3 : 65536 < (L[k].size : Int) := by assumption
        go_ret
        refine ⟨ret_bool ?_, rfl⟩
        rw [listAll_false _ L k hlt (by rw [decide_eq_false]; omega)]
      · have h3 : (L[k].size : Int) ≤ 65536 := by assumption
        go_round
        case rel => exact ⟨k + 1, hlt, by go_num, Lib.hid (listAll_take _ L k hlt ha.out (by rw [decide_eq_true]; omega))⟩
        case measure => simp [intOf]; omega
    · have HK := Lib.hid (show k = L.length by omega)
      go_wp2
      go_ret
      refine ⟨ret_bool ?_, rfl⟩
      have h1 := ha.out
      rw [HK.out, List.take_length] at h1
      exact h1.symm
theorem ReadS.one (w : World) (t : TypeId) (a : ByteArray) : ReadS (w.alloc (.cells #[.string a] t)) (.slice (some ⟨w.heap.size, 0, none⟩) 1 1) [a] := by
  refine ⟨some ⟨w.heap.size, 0, none⟩, 1, rfl, fun i hi => ⟨w.heap.size, 0, rfl, by simp, ?_⟩⟩
  obtain rfl : i = 0 := by simpa using hi
  go_simp

theorem svShort_one (w : World) (t : TypeId) (a : ByteArray) (hz : a.size ≤ 140737488351232) :
    Calls Tryd.prog 29 #[.slice (some ⟨w.heap.size, 0, none⟩) 1 1] (w.alloc (.cells #[.string a] t)) fun e w' => e = .returned (.bool (decide (a.size ≤ 65536))) ∧ w' = w.alloc (.cells #[.string a] t) := by
  have := svShort_any _ [a] _ (ReadS.one w t a) (by simp) (by simpa using hz)
  simpa using this

end Go.Proofs.YtnkdpgcfaelpkaaDoor
