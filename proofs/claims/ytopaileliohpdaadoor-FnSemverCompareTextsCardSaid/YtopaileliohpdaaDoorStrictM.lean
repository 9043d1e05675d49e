/-
  What StrictNewVersion reads, in plain terms; and what its walk keeps: the three parts in a row of its own, the version in a block of its own.
-/
import Derived.Test.YtopaileliohpdaaDoorSplitN
import Derived.Test.YtopaileliohpdaaDoorLess
import Derived.Test.YtopaileliohpdaaDoorCmp
namespace Go.Proofs.YtopaileliohpdaaDoor
open Go.RowKit
set_option maxRecDepth 100000
set_option linter.unusedVariables false

namespace M
def has (x : UInt8) (l : Bs) : Bool := decide (0 ≤ idx x l)
def before (x : UInt8) (l : Bs) : Bs := l.take (idx x l).toNat
def after (x : UInt8) (l : Bs) : Bs := l.drop ((idx x l).toNat + 1)
def toB (l : Bs) : ByteArray := ⟨l.toArray⟩
def metaOf (c : Bs) : Bs := if has 43 c then after 43 c else []
def noMeta (c : Bs) : Bs := if has 43 c then before 43 c else c
def preOf (c : Bs) : Bs := if has 45 c then after 45 c else []
def noPre (c : Bs) : Bs := if has 45 c then before 45 c else c
def numOk (p : Bs) : Bool := p.all isDig && !(decide (1 < p.length) && p.head? == some 48)
def strictNums (a b c : Bs) (p m : Bs) : Option V :=
  if (numOk a && (numOk b && numOk c)) && (fits a && (fits b && fits c)) then some ⟨val a, val b, val c, toB p, toB m⟩ else none
def strictParts (a b c : Bs) : Option V :=
  if has 43 c && !validMeta (after 43 c) then none
  else if has 45 (noMeta c) && !validPre (after 45 (noMeta c)) then none
  else strictNums a b (noPre (noMeta c)) (preOf (noMeta c)) (metaOf c)
def strict (s : Bs) : Option V :=
  if s.length = 0 ∨ 256 < s.length then none
  else match splitN 46 2 s with
    | [a, b, c] => strictParts a b c
    | _ => none
theorem strict_len {s : Bs} (h : s.length = 0 ∨ 256 < s.length) : strict s = none := if_pos h
theorem strict_split {s : Bs} (h : (splitN 46 2 s).length ≠ 3) : strict s = none := by
  unfold strict
  split
  · rfl
  · split
    · rename_i e; rw [e] at h; exact absurd rfl h
    · rfl
theorem strict_three {s a b c : Bs} (h0 : s.length ≠ 0) (h1 : s.length ≤ 256) (h : splitN 46 2 s = [a, b, c]) : strict s = strictParts a b c := by
  unfold strict
  rw [if_neg (by omega), h]
theorem bs_toB (l : Bs) : bs (toB l) = l := by simp [bs, toB]
theorem toB_bs (s : ByteArray) : toB (bs s) = s := bs_inj (bs_toB _)
theorem split2 {x : UInt8} {l : Bs} (h : has x l = true) : splitN x 1 l = [before x l, after x l] := by
  unfold has at h
  rw [decide_eq_true_eq] at h
  unfold splitN
  rw [if_neg (by omega)]
  rfl
end M

theorem OwnS.slice3 {w : World} {base : Nat} {v : Value} {a b c : ByteArray} (h : OwnS w base v [a, b, c]) : ∃ g cap, v = .slice (some ⟨g, 0, none⟩) 3 cap ∧ base ≤ g ∧ g < w.heap.size := by
  rcases h.2 with h2 | ⟨g, cap, cur, rfl, hg, hb, _⟩
  · exact absurd h2.2 (by simp)
  · refine ⟨g, cap, rfl, hg, ?_⟩
    rcases Nat.lt_or_ge g w.heap.size with h' | h'
    · exact h'
    · rw [Array.getElem?_eq_none h'] at hb; cases hb
theorem OwnS.slice2 {w : World} {base : Nat} {v : Value} {a b : ByteArray} (h : OwnS w base v [a, b]) : ∃ g cap, v = .slice (some ⟨g, 0, none⟩) 2 cap ∧ base ≤ g ∧ g < w.heap.size := by
  rcases h.2 with h2 | ⟨g, cap, cur, rfl, hg, hb, _⟩
  · exact absurd h2.2 (by simp)
  · refine ⟨g, cap, rfl, hg, ?_⟩
    rcases Nat.lt_or_ge g w.heap.size with h' | h'
    · exact h'
    · rw [Array.getElem?_eq_none h'] at hb; cases hb
theorem OwnS.cellAt {w : World} {base g n cap : Nat} {L : List ByteArray} (h : OwnS w base (.slice (some ⟨g, 0, none⟩) n cap) L) (hn : n = L.length) (i : Nat) (hi : i < L.length) : w.cell? ⟨g, i, none⟩ = some (.string L[i]) := by
  subst hn
  have := World.ownsRow.cellAt (w := w) (base := base) (e := 9) (size := 1) (g := g) (n := L.length) (cap := cap) (xs := L.map Value.string) h i (by omega)
  rw [this]
  simp [hi]
theorem three_of {L : List ByteArray} (h : L.length = 3) : ∃ a b c, L = [a, b, c] := by
  match L, h with
  | [a, b, c], _ => exact ⟨a, b, c, rfl⟩
theorem two_of {L : List ByteArray} (h : L.length = 2) : ∃ a b, L = [a, b] := by
  match L, h with
  | [a, b], _ => exact ⟨a, b, rfl⟩

theorem cell_past {w : World} {N M i j : Nat} {v x : Value} (h : N ≠ M) (hc : w.cell? ⟨N, j, none⟩ = some x) : (w.setCell ⟨M, i, none⟩ v).cell? ⟨N, j, none⟩ = some x := by
  rw [World.cell?_of_block (w := w) (heap_setCell_other w ⟨M, i, none⟩ N v h)]
  exact hc
/-- what the walk of StrictNewVersion keeps at world wx -/
structure StI (w wx : World) (g cap N : Nat) (a b c : ByteArray) (y : V) (s : ByteArray) : Prop where
  own : OwnS wx w.heap.size (.slice (some ⟨g, 0, none⟩) 3 cap) [a, b, c]
  at_ : AtV wx N y s
  ne : N ≠ g
  low : w.heap.size ≤ N
  lowg : w.heap.size ≤ g
  bel : Below w.heap.size w wx
theorem StI.below {w wx wy : World} {g cap N : Nat} {a b c s : ByteArray} {y : V} (h : StI w wx g cap N a b c y s) (hb : Below wx.heap.size wx wy) : StI w wy g cap N a b c y s :=
  ⟨h.own.kept hb, h.at_.below hb, h.ne, h.low, h.lowg, Below.up h.bel hb⟩
theorem StI.row {w wx : World} {g cap N : Nat} {a b c s : ByteArray} {y : V} (h : StI w wx g cap N a b c y s) :
    wx.cell? ⟨g, 0, none⟩ = some (.string a) ∧ wx.cell? ⟨g, 1, none⟩ = some (.string b) ∧ wx.cell? ⟨g, 2, none⟩ = some (.string c) :=
  ⟨h.own.cellAt rfl 0 (by simp), h.own.cellAt rfl 1 (by simp), h.own.cellAt rfl 2 (by simp)⟩
theorem StI.frz {w wx : World} {g cap N : Nat} {a b c s : ByteArray} {y : V} (h : StI w wx g cap N a b c y s) (j : Nat) : wx.frozen? ⟨g, j, none⟩ = false := World.ownsRow.frozenAt h.own j
theorem StI.frv {w wx : World} {g cap N : Nat} {a b c s : ByteArray} {y : V} (h : StI w wx g cap N a b c y s) (j : Nat) : wx.frozen? ⟨N, j, none⟩ = false := by
  have := h.at_
  unfold AtV V.cells at this
  simp [World.frozen?, this]
theorem StI.setc {w wx : World} {g cap N : Nat} {a b c s : ByteArray} {y : V} (h : StI w wx g cap N a b c y s) (c' : ByteArray) : StI w (wx.setCell ⟨g, 2, none⟩ (.string c')) g cap N a b c' y s := by
  refine ⟨?_, ?_, h.ne, h.low, h.lowg, h.bel.setCell h.lowg _⟩
  · exact (World.ownsRow.stored h.own 2 (.string c')).1
  · unfold AtV
    rw [heap_setCell_other _ _ N _ h.ne]
    exact h.at_
theorem StI.setv {w wx : World} {g cap N : Nat} {a b c s : ByteArray} {y : V} (h : StI w wx g cap N a b c y s) (j : Nat) (v : Value) (y' : V) (hy : (#[.int .u64 y.a, .int .u64 y.b, .int .u64 y.c, .string y.p, .string y.m, .string s] : Array Value).setIfInBounds j v = #[.int .u64 y'.a, .int .u64 y'.b, .int .u64 y'.c, .string y'.p, .string y'.m, .string s]) :
    StI w (wx.setCell ⟨N, j, none⟩ v) g cap N a b c y' s := by
  have hat := h.at_
  unfold AtV V.cells at hat
  refine ⟨?_, ?_, h.ne, h.low, h.lowg, h.bel.setCell h.low _⟩
  · exact World.ownsRow.kept h.own ⟨rfl, rfl, rfl, by simp, fun k hk hne => heap_setCell_other wx ⟨N, j, none⟩ k v (fun e => hne (by simp only at e; rw [e]))⟩ (by simp [Value.ownBlock]; exact h.ne.symm)
  · unfold AtV V.cells
    rw [← hy]
    exact heap_setCell_same wx N j _ _ v hat
/-- what StrictNewVersion gives -/
def StrictEnd (s : ByteArray) (w : World) (e : Ending) (w' : World) : Prop :=
  Below w.heap.size w w' ∧ ((M.strict (M.bs s) = none ∧ ∃ t p, e = .returned (.tuple #[.pointer none, .iface t p])) ∨
    ∃ x N, M.strict (M.bs s) = some x ∧ e = .returned (.tuple #[.pointer (some ⟨N, 0, none⟩), .nilIface]) ∧ AtV w' N x s)
end Go.Proofs.YtopaileliohpdaaDoor
