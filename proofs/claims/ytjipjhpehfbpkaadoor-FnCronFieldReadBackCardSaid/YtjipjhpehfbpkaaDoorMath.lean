/-
  Plain facts on lists of bytes: parting at a byte, classes of bytes. No program in sight.
-/
import Derived.WalkKit
namespace Go.Proofs.YtjipjhpehfbpkaaDoor
namespace M

abbrev Bs := List UInt8

/-- the bytes of a string -/
def bs (s : ByteArray) : Bs := s.data.toList
theorem bs_length (s : ByteArray) : (bs s).length = s.size := by simp [bs]
theorem bs_get (s : ByteArray) (k : Nat) (h : k < s.size) : (bs s)[k]? = some s[k] := by
  unfold bs
  rw [List.getElem?_eq_getElem (by simpa using h)]
  rfl

/-- a list of bytes parted at each x -/
def splitOn (x : UInt8) : Bs → List Bs
  | [] => [[]]
  | c :: r => if c = x then [] :: splitOn x r else
    match splitOn x r with
    | h :: t => (c :: h) :: t
    | [] => [[c]]

theorem splitOn_ne (x : UInt8) (l : Bs) : splitOn x l ≠ [] := by
  cases l with
  | nil => simp [splitOn]
  | cons c r =>
    unfold splitOn
    split
    · simp
    · split <;> simp

theorem splitOn_none (x : UInt8) (l : Bs) (h : ∀ c ∈ l, c ≠ x) : splitOn x l = [l] := by
  induction l with
  | nil => rfl
  | cons c r ih =>
    rw [splitOn, if_neg (h c List.mem_cons_self), ih (fun d hd => h d (List.mem_cons_of_mem _ hd))]

theorem splitOn_first (x : UInt8) (a b : Bs) (h : ∀ c ∈ a, c ≠ x) : splitOn x (a ++ x :: b) = a :: splitOn x b := by
  induction a with
  | nil => simp [splitOn]
  | cons c r ih =>
    rw [List.cons_append, splitOn, if_neg (h c List.mem_cons_self), ih (fun d hd => h d (List.mem_cons_of_mem _ hd))]

/-- the number of pieces is one more than the number of x -/
theorem splitOn_length (x : UInt8) (l : Bs) : (splitOn x l).length ≤ l.length + 1 := by
  induction l with
  | nil => simp [splitOn]
  | cons c r ih =>
    unfold splitOn
    split
    · simp; omega
    · split
      · rename_i h t e; rw [e] at ih; simp at ih ⊢; omega
      · simp

/-- no piece holds x -/
theorem splitOn_mem (x : UInt8) (l : Bs) : ∀ p ∈ splitOn x l, ∀ c ∈ p, c ≠ x := by
  induction l with
  | nil => simp [splitOn]
  | cons d r ih =>
    unfold splitOn
    split
    · intro p hp
      rcases List.mem_cons.1 hp with rfl | hp
      · simp
      · exact ih p hp
    · rename_i hd
      split
      · rename_i h t e
        intro p hp
        rw [e] at ih
        rcases List.mem_cons.1 hp with rfl | hp
        · intro c hc
          rcases List.mem_cons.1 hc with rfl | hc
          · exact hd
          · exact ih h List.mem_cons_self c hc
        · exact ih p (List.mem_cons_of_mem _ hp)
      · intro p hp
        simp at hp
        subst hp
        simpa using hd

/-- a piece is no longer than the whole -/
theorem piece_le (x : UInt8) (l : Bs) : ∀ p ∈ splitOn x l, p.length ≤ l.length := by
  induction l with
  | nil => simp [splitOn]
  | cons d r ih =>
    unfold splitOn
    split
    · intro p hp
      rcases List.mem_cons.1 hp with rfl | hp
      · simp
      · have := ih p hp; simp; omega
    · split
      · rename_i h t e
        intro p hp
        rw [e] at ih
        rcases List.mem_cons.1 hp with rfl | hp
        · have := ih h List.mem_cons_self; simp; omega
        · have := ih p (List.mem_cons_of_mem _ hp); simp; omega
      · intro p hp
        simp at hp
        subst hp
        simp

/-- each byte of a piece is a byte of the whole -/
theorem splitOn_sub (x : UInt8) (l : Bs) : ∀ p ∈ splitOn x l, ∀ c ∈ p, c ∈ l := by
  induction l with
  | nil => simp [splitOn]
  | cons d r ih =>
    unfold splitOn
    split
    · intro p hp
      rcases List.mem_cons.1 hp with rfl | hp
      · simp
      · exact fun c hc => List.mem_cons_of_mem _ (ih p hp c hc)
    · split
      · rename_i h t e
        intro p hp
        rw [e] at ih
        rcases List.mem_cons.1 hp with rfl | hp
        · intro c hc
          rcases List.mem_cons.1 hc with rfl | hc
          · exact List.mem_cons_self
          · exact List.mem_cons_of_mem _ (ih h List.mem_cons_self c hc)
        · exact fun c hc => List.mem_cons_of_mem _ (ih p (List.mem_cons_of_mem _ hp) c hc)
      · intro p hp
        simp at hp
        subst hp
        simp

/-- pieces put together again -/
def joinWith (x : UInt8) : List Bs → Bs
  | [] => []
  | [p] => p
  | p :: q :: r => p ++ x :: joinWith x (q :: r)
theorem join_split (x : UInt8) (l : Bs) : joinWith x (splitOn x l) = l := by
  induction l with
  | nil => rfl
  | cons c r ih =>
    unfold splitOn
    split
    · rename_i h
      subst h
      cases e : splitOn c r with
      | nil => exact absurd e (splitOn_ne _ _)
      | cons p t => rw [e] at ih; simp [joinWith, ih]
    · split
      · rename_i h t e
        rw [e] at ih
        cases t with
        | nil => simp [joinWith] at ih ⊢; exact ih
        | cons q t => simp [joinWith] at ih ⊢; exact ih
      · rename_i e; exact absurd e (splitOn_ne _ _)

theorem split_inj (x : UInt8) {a b : Bs} (h : splitOn x a = splitOn x b) : a = b := by
  rw [← join_split x a, ← join_split x b, h]

theorem splitOn_append (x : UInt8) (a b : Bs) : splitOn x (a ++ x :: b) = splitOn x a ++ splitOn x b := by
  induction a with
  | nil => simp [splitOn]
  | cons c r ih =>
    rw [List.cons_append, splitOn, splitOn]
    split
    · rw [ih]; rfl
    · rw [ih]
      cases e : splitOn x r with
      | nil => exact absurd e (splitOn_ne _ _)
      | cons p t => simp

def isDig (c : UInt8) : Bool := 48 ≤ c && c ≤ 57
def isIdc (c : UInt8) : Bool := isDig c || (65 ≤ c && c ≤ 90) || (97 ≤ c && c ≤ 122) || c == 45
/-- at least one byte, and digits alone -/
def digits (p : Bs) : Bool := !p.isEmpty && p.all isDig
def validId (p : Bs) : Bool := !p.isEmpty && p.all isIdc
def validMeta (l : Bs) : Bool := (splitOn 46 l).all validId
/-- a number with a leading zero -/
def zeroNum (p : Bs) : Bool := digits p && decide (1 < p.length) && p.head? == some 48
def validPre (l : Bs) : Bool := (splitOn 46 l).all fun p => validId p && !zeroNum p
def smallPre (l : Bs) : Bool := (splitOn 46 l).all fun p => !(digits p && decide (19 < p.length))

theorem isDig_idc {c : UInt8} (h : isDig c = true) : isIdc c = true := by simp [isIdc, h]
end M
end Go.Proofs.YtjipjhpehfbpkaaDoor
