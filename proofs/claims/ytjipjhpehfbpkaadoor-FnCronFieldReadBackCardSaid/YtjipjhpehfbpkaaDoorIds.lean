/-
  spec.Identifiers parts a text at each of its dots.
-/
import Derived.Test.YtjipjhpehfbpkaaDoorStr
import Derived.Test.YtjipjhpehfbpkaaDoorOwn
namespace Go.Proofs.YtjipjhpehfbpkaaDoor
open Go.RowKit

theorem bs_extract (s : ByteArray) (a b : Nat) : M.bs (s.extract a b) = ((M.bs s).drop a).take (b - a) := by
  unfold M.bs
  rw [ByteArray.data_extract, Array.toList_extract, List.extract_eq_take_drop]

/-- strings for pieces -/
def Strs (L : List ByteArray) (l : List M.Bs) : Prop := L.map M.bs = l

/-- at the loop's head: the pieces ahead of 'f' are L, no x stands from f to k -/
structure Cut (x : UInt8) (s : ByteArray) (L : List ByteArray) (f k : Nat) : Prop where
  fk : f ≤ k
  ks : k ≤ s.size
  sp : M.splitOn x (M.bs s) = L.map M.bs ++ M.splitOn x ((M.bs s).drop f)
  no : ∀ j, f ≤ j → j < k → ∀ c, (M.bs s)[j]? = some c → c ≠ x
  len : L.length ≤ f

theorem Cut.start (x : UInt8) (s : ByteArray) : Cut x s [] 0 0 := ⟨Nat.le_refl _, Nat.zero_le _, by simp, fun j _ h => absurd h (by omega), by simp⟩
theorem Cut.on {x : UInt8} {s : ByteArray} {L : List ByteArray} {f k : Nat} (h : Cut x s L f k) (hk : k < s.size) (hx : s[k] ≠ x) : Cut x s L f (k + 1) := by
  refine ⟨by have := h.fk; omega, hk, h.sp, fun j h1 h2 c hc => ?_, h.len⟩
  by_cases e : j = k
  · subst e
    rw [M.bs_get s j hk] at hc
    obtain rfl := Option.some.inj hc
    exact hx
  · exact h.no j h1 (by omega) c hc
theorem Cut.free {x : UInt8} {s : ByteArray} {L : List ByteArray} {f k : Nat} (h : Cut x s L f k) : ∀ c ∈ ((M.bs s).drop f).take (k - f), c ≠ x := by
  intro c hc
  obtain ⟨i, hi, rfl⟩ := List.mem_iff_getElem.1 hc
  have hi' : i < k - f := by
    have := hi
    simp at this
    omega
  refine h.no (f + i) (by omega) (by omega) _ ?_
  simp [M.bs]
theorem Cut.at {x : UInt8} {s : ByteArray} {L : List ByteArray} {f k : Nat} (h : Cut x s L f k) (hk : k < s.size) (hx : s[k] = x) : Cut x s (L ++ [s.extract f k]) (k + 1) (k + 1) := by
  refine ⟨Nat.le_refl _, hk, ?_, fun j h1 h2 => absurd h2 (by omega), ?_⟩
  · rw [h.sp]
    have e : (M.bs s).drop f = ((M.bs s).drop f).take (k - f) ++ x :: (M.bs s).drop (k + 1) := by
      have h1 : (M.bs s).drop f = ((M.bs s).drop f).take (k - f) ++ ((M.bs s).drop f).drop (k - f) := (List.take_append_drop _ _).symm
      have h3 : (M.bs s).drop k = (M.bs s)[k]'(by simpa [M.bs] using hk) :: (M.bs s).drop (k + 1) := List.drop_eq_getElem_cons _
      have h2 : (M.bs s)[k]'(by simpa [M.bs] using hk) = x := by
        have := M.bs_get s k hk
        rw [List.getElem?_eq_getElem (by simpa [M.bs] using hk)] at this
        rw [Option.some.inj this, hx]
      rw [List.drop_drop, show f + (k - f) = k from by have := h.fk; omega, h3, h2] at h1
      exact h1
    rw [e, M.splitOn_first x _ _ h.free]
    simp [bs_extract]
  · have := h.len
    have := h.fk
    simp
    omega
theorem Cut.stop {x : UInt8} {s : ByteArray} {L : List ByteArray} {f : Nat} (h : Cut x s L f s.size) : (L ++ [s.extract f s.size]).map M.bs = M.splitOn x (M.bs s) := by
  rw [h.sp]
  have e : ((M.bs s).drop f).take (s.size - f) = (M.bs s).drop f := List.take_of_length_le (by simp [M.bs])
  have hf := h.free
  rw [e] at hf
  rw [M.splitOn_none x _ hf]
  simp [bs_extract, e]

/-- what Identifiers, and the package's own parting, hand back -/
def Parted (x : UInt8) (s : ByteArray) (w : World) (e : Ending) (w' : World) : Prop :=
  ∃ v L, e = .returned v ∧ L.map M.bs = M.splitOn x (M.bs s) ∧ OwnS w' w.heap.size v L ∧ Below w.heap.size w w'

def IdRel (s : ByteArray) (w : World) (v f i : Value) (wr : World) : Prop :=
  ∃ (L : List ByteArray) (a k : Nat), f = .int .i64 a ∧ i = .int .i64 k ∧ Cut 46 s L a k ∧ OwnS wr w.heap.size v L ∧ Below w.heap.size w wr

end Go.Proofs.YtjipjhpehfbpkaaDoor
