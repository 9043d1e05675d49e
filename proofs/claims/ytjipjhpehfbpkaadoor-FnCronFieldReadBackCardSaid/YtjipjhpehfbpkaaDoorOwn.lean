/-
  Slices of strings: how they read, and how one string is appended to one that the call itself has made.
-/
import Derived.Test.YtjipjhpehfbpkaaDoorChecked
import Derived.Test.YtjipjhpehfbpkaaDoorMath
import Derived.WalkKit
import Derived.Handy
import Derived.OwnWalk
import Derived.Lib.Hide
namespace Go.Proofs.YtjipjhpehfbpkaaDoor
open Go.RowKit

theorem infoS : (Tryd.prog.info? 9).map (fun i => (i.zero, i.size, i.bytes)) = some (some (.string ⟨#[]⟩), 1, 16) := by kernel_rfl

/-- slice v is a row of the call's own (from block 'base' on) that holds the strings L -/
def OwnS (w : World) (base : Nat) (v : Value) (L : List ByteArray) : Prop := w.ownsRow base 9 1 v L.length (L.map Value.string)

/-- slice v reads as the strings L -/
def ReadS (w : World) (v : Value) (L : List ByteArray) : Prop :=
  ∃ A cap, v = .slice A L.length cap ∧ ∀ i (_ : i < L.length), ∃ b o, A = some ⟨b, o, none⟩ ∧ b < w.heap.size ∧ w.cell? ⟨b, o + i, none⟩ = some (.string L[i])

theorem OwnS.nil (w : World) (base : Nat) : OwnS w base (.slice none 0 0) [] := World.ownsRow_nil w base _ 1

theorem OwnS.read {w : World} {base : Nat} {v : Value} {L : List ByteArray} (h : OwnS w base v L) : ReadS w v L := by
  obtain ⟨h1, h2 | ⟨g, cap, cur, rfl, hg, hb, hn, hc, hs, ht⟩⟩ := h
  · obtain ⟨rfl, hn⟩ := h2
    obtain rfl : L = [] := List.length_eq_zero_iff.1 hn
    exact ⟨none, 0, rfl, fun i hi => absurd hi (by simp)⟩
  · refine ⟨some ⟨g, 0, none⟩, cap, rfl, fun i hi => ⟨g, 0, rfl, ?_, ?_⟩⟩
    · rcases Nat.lt_or_ge g w.heap.size with h' | h'
      · exact h'
      · simp [Array.getElem?_eq_none h'] at hb
    · have := World.ownsRow.cellAt (w := w) (base := base) (e := 9) (size := 1) (g := g) (n := L.length) (cap := cap) (xs := L.map Value.string) ⟨h1, .inr ⟨g, cap, cur, rfl, hg, hb, hn, hc, hs, ht⟩⟩ i (by omega)
      rw [Nat.zero_add, this]
      simp [hi]

theorem Below.grown {w w' : World} (h : Below w.heap.size w w') : w.grownBy w' none := ⟨h.os, h.tape, h.output, h.size, fun k hk _ => h.block k hk⟩

theorem OwnS.kept {w w' : World} {base : Nat} {v : Value} {L : List ByteArray} (h : OwnS w base v L) (b : Below w.heap.size w w') : OwnS w' base v L :=
  World.ownsRow.kept h (Below.grown b) (by cases hv : v.ownBlock <;> simp)
theorem OwnS.lower {w : World} {base base' : Nat} {v : Value} {L : List ByteArray} (h : OwnS w base v L) (hb : base' ≤ base) : OwnS w base' v L := by
  obtain ⟨h1, h2 | ⟨g, cap, cur, h3, hg, h4⟩⟩ := h
  · exact ⟨h1, .inl h2⟩
  · exact ⟨h1, .inr ⟨g, cap, cur, h3, Nat.le_trans hb hg, h4⟩⟩

theorem ReadS.kept {w w' : World} {v : Value} {L : List ByteArray} (h : ReadS w v L) (b : Below w.heap.size w w') : ReadS w' v L := by
  obtain ⟨A, cap, rfl, hc⟩ := h
  refine ⟨A, cap, rfl, fun i hi => ?_⟩
  obtain ⟨g, o, h1, h2, h3⟩ := hc i hi
  exact ⟨g, o, h1, Nat.lt_of_lt_of_le h2 b.size, by rw [b.cell (p := ⟨g, o + i, none⟩) h2]; exact h3⟩

/-- what grew by a row of the call's own has not turned what lay below its base -/
theorem below_of_grown {w w' : World} {base : Nat} {v : Value} {n : Nat} {e : TypeId} {size : Nat} {xs : List Value} (hown : w.ownsRow base e size v n xs) (hb : base ≤ w.heap.size) (hg : w.grownBy w' v.ownBlock) : Below base w w' :=
  ⟨hg.os, hg.tape, hg.output, hg.size, fun k hk => hg.block k (Nat.lt_of_lt_of_le hk hb) (fun e => by
    have := (World.ownsRow.lt hown k e.symm).1
    omega)⟩

/-- 'append(v, s)' -/
theorem append_str {w : World} {ops : Array Oper} {rest : List Oper} {o : Oper} {a : Act} {Q : Exit → Act → World → Prop} (hgd : o.guard = none) (s x : Operand)
    (ho : o.op = .call { callee := .builtin .append, args := #[s, x], argTypes := #[49, 49] })
    (base : Nat) (v : Value) (L : List ByteArray) (hs : a.eval s = v) (hown : OwnS w base v L)
    (g : Nat) (c : Nat) (b : ByteArray) (hx : a.eval x = .slice (some ⟨g, 0, none⟩) 1 c) (hcell : w.cell? ⟨g, 0, none⟩ = some (.string b))
    (hlen : L.length < 1099511627776) (hbase : base ≤ w.heap.size)
    (h : ∀ v' w', OwnS w' base v' (L ++ [b]) → Below base w w' → w.heap.size ≤ w'.heap.size → wpList Tryd.prog ops Q rest (a.put o.dst v') w') : wpList Tryd.prog ops Q (o :: rest) a w := by
  obtain ⟨i0, hi, hz0, hz1, hz2⟩ := info_parts infoS
  refine wpList_append_own w hgd s x 49 ho base 9 i0 (.string ⟨#[]⟩) 1 16 Tryd.underlying49 hi hz0 hz1 hz2 rfl (by decide) v L.length (L.map Value.string) hs hown
    ⟨g, 0, none⟩ 1 c [.string b] hx rfl ?_ ?_ ?_ ?_ hbase ?_
  · intro j u hj
    cases j with
    | zero => simp at hj; subst hj; exact hcell
    | succ j => simp at hj
  · intro u hu; simp at hu; subst hu; rfl
  · unfold maxLen; omega
  · omega
  · intro v' w' h1 h2 _
    refine h v' w' ?_ (below_of_grown hown hbase h2) h2.size
    unfold OwnS
    simpa using h1
end Go.Proofs.YtjipjhpehfbpkaaDoor
