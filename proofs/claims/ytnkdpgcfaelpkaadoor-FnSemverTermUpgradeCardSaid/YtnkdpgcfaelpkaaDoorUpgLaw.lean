/-
  laws.FnSemverTermUpgrade returns true for all versions.
-/
import Derived.Test.YtnkdpgcfaelpkaaDoorUpgW
import Derived.Test.YtnkdpgcfaelpkaaDoorIncP
import Derived.Test.YtnkdpgcfaelpkaaDoorIncLaw
import Derived.Test.YtnkdpgcfaelpkaaDoorRegInv
namespace Go.Proofs.YtnkdpgcfaelpkaaDoor
open Go.RowKit
set_option maxRecDepth 100000
set_option linter.unusedVariables false

theorem bplain_is (a b c : Nat) (r : Bool) (w : World) (hr : Hid ((V.bare a b c).plain = r)) :
    Calls Tryd.prog 7 #[.agg #[.int .u64 a, .int .u64 b, .int .u64 c, .string ⟨#[]⟩, .string ⟨#[]⟩]] w fun e w' => e = .returned (.bool r) ∧ Below w.heap.size w w' :=
  plain_is (V.bare a b c) r w (by show (0 : Nat) ≤ _; omega) (by show (0 : Nat) ≤ _; omega) hr
theorem bplain_z (r : Bool) (w : World) (hr : Hid ((V.bare 0 0 0).plain = r)) :
    Calls Tryd.prog 7 #[.agg #[.int .u64 0, .int .u64 0, .int .u64 0, .string ⟨#[]⟩, .string ⟨#[]⟩]] w fun e w' => e = .returned (.bool r) ∧ Below w.heap.size w w' := bplain_is 0 0 0 r w hr
theorem bplain_lt {a b c : Nat} (h : (V.bare a b c).plain = true) : a < 18446744073709551615 ∧ b < 18446744073709551615 ∧ c < 18446744073709551615 := by
  simp only [V.plain, Bool.and_eq_true, decide_eq_true_eq] at h
  exact ⟨h.1.1.1.2, h.1.1.2, h.1.2⟩
/-- what is known while the three versions are made, in whatever order -/
structure RI (w0 : World) (n0 : Nat) (x p q r : V) (l : Array Bool) (u : Nat → Value) (w : World) (N3 N4 N5 : Nat) (y3 y4 y5 : V) : Prop where
  atx : AtP w n0 x
  bel : Below w0.heap.size w0 w
  e0 : l.getD 0 false = true → u 19 = x.v
  e1 : l.getD 1 false = true → u 20 = p.v
  e2 : l.getD 2 false = true → u 21 = x.v
  e3 : l.getD 3 false = true → u 22 = q.v
  e4 : l.getD 4 false = true → u 23 = x.v
  e5 : l.getD 5 false = true → u 24 = r.v
  e6 : l.getD 6 false = true → u 3 = .pointer (some ⟨N3, 0, none⟩) ∧ AtP w N3 y3 ∧ w0.heap.size ≤ N3 ∧ n0 ≠ N3
  e7 : l.getD 7 false = true → u 4 = .pointer (some ⟨N4, 0, none⟩) ∧ AtP w N4 y4 ∧ w0.heap.size ≤ N4 ∧ n0 ≠ N4
  e8 : l.getD 8 false = true → u 5 = .pointer (some ⟨N5, 0, none⟩) ∧ AtP w N5 y5 ∧ w0.heap.size ≤ N5 ∧ n0 ≠ N5
  n67 : l.getD 6 false = true → l.getD 7 false = true → N3 ≠ N4
  n68 : l.getD 6 false = true → l.getD 8 false = true → N3 ≠ N5
  n78 : l.getD 7 false = true → l.getD 8 false = true → N4 ≠ N5
  s9 : l.getD 9 false = true → y3 = p
  s10 : l.getD 10 false = true → y4 = q
  s11 : l.getD 11 false = true → y5 = r
  o9 : l.getD 9 false = true → l.getD 6 false = true
  o10 : l.getD 10 false = true → l.getD 7 false = true
  o11 : l.getD 11 false = true → l.getD 8 false = true
theorem set_getD {l : Array Bool} {i : Nat} (h : i < l.size) (j : Nat) (b : Bool) : (l.setIfInBounds i true).getD j b = if i = j then true else l.getD j b := by
  rw [Array.getD_eq_getD_getElem?, Array.getD_eq_getD_getElem?]
  by_cases e : i = j
  · subst e
    rw [if_pos rfl, Array.getElem?_setIfInBounds_self_of_lt h]; rfl
  · rw [if_neg e, Array.getElem?_setIfInBounds_ne e]
theorem getD_tf {l : Array Bool} {i : Nat} (h : i < l.size) : l.getD i false = l.getD i true := by
  rw [Array.getD_eq_getD_getElem?, Array.getD_eq_getD_getElem?, Array.getElem?_eq_getElem h]; rfl
theorem AtP.other {w : World} {N M : Nat} {x : V} (h : AtP w N x) (hn : N ≠ M) (j : Nat) (v : Value) : AtP (w.setCell ⟨M, j, none⟩ v) N x := by
  unfold AtP at *
  rw [heap_setCell_other w ⟨M, j, none⟩ N v hn]
  exact h
/-- a quiet operation or a call: slot d gets v, the world grows -/
theorem RI.grow {w0 : World} {n0 : Nat} {x p q r : V} {l : Array Bool} {u : Nat → Value} {w w' : World} {N3 N4 N5 : Nat} {y3 y4 y5 : V} (h : RI w0 n0 x p q r l u w N3 N4 N5 y3 y4 y5) (b : Below w.heap.size w w') : RI w0 n0 x p q r l u w' N3 N4 N5 y3 y4 y5 :=
  { h with atx := h.atx.below b, bel := Below.up h.bel b
           e6 := fun k => ⟨(h.e6 k).1, (h.e6 k).2.1.below b, (h.e6 k).2.2⟩
           e7 := fun k => ⟨(h.e7 k).1, (h.e7 k).2.1.below b, (h.e7 k).2.2⟩
           e8 := fun k => ⟨(h.e8 k).1, (h.e8 k).2.1.below b, (h.e8 k).2.2⟩ }
theorem set_back {l : Array Bool} {i j : Nat} (hij : i ≠ j) (k : (l.setIfInBounds i true).getD j false = true) : l.getD j false = true := by
  rw [Array.getD_eq_getD_getElem?, Array.getElem?_setIfInBounds_ne hij, ← Array.getD_eq_getD_getElem?] at k
  exact k
theorem set_fwd {l : Array Bool} {i j : Nat} (hi : i < l.size) (k : l.getD j false = true) : (l.setIfInBounds i true).getD j false = true := by
  rw [set_getD hi]
  split
  · rfl
  · exact k
theorem RI.lay0 {w0 : World} {n0 : Nat} {x p q r : V} {l : Array Bool} {u : Nat → Value} {w : World} {N3 N4 N5 : Nat} {y3 y4 y5 : V} (h : RI w0 n0 x p q r l u w N3 N4 N5 y3 y4 y5) (hl : l.size = 12) : RI w0 n0 x p q r (l.setIfInBounds 0 true) (upd u 19 x.v) w N3 N4 N5 y3 y4 y5 where
  e0 := fun _ => rfl
  e1 := fun k => h.e1 (set_back (by decide) k)
  e2 := fun k => h.e2 (set_back (by decide) k)
  e3 := fun k => h.e3 (set_back (by decide) k)
  e4 := fun k => h.e4 (set_back (by decide) k)
  e5 := fun k => h.e5 (set_back (by decide) k)
  e6 := fun k => h.e6 (set_back (by decide) k)
  e7 := fun k => h.e7 (set_back (by decide) k)
  e8 := fun k => h.e8 (set_back (by decide) k)
  n67 := fun a b => h.n67 (set_back (by decide) a) (set_back (by decide) b)
  n68 := fun a b => h.n68 (set_back (by decide) a) (set_back (by decide) b)
  n78 := fun a b => h.n78 (set_back (by decide) a) (set_back (by decide) b)
  s9 := fun k => h.s9 (set_back (by decide) k)
  s10 := fun k => h.s10 (set_back (by decide) k)
  s11 := fun k => h.s11 (set_back (by decide) k)
  o9 := fun k => set_fwd (by omega) (h.o9 (set_back (by decide) k))
  o10 := fun k => set_fwd (by omega) (h.o10 (set_back (by decide) k))
  o11 := fun k => set_fwd (by omega) (h.o11 (set_back (by decide) k))
  atx := h.atx
  bel := h.bel
theorem RI.lay1 {w0 : World} {n0 : Nat} {x p q r : V} {l : Array Bool} {u : Nat → Value} {w : World} {N3 N4 N5 : Nat} {y3 y4 y5 : V} (h : RI w0 n0 x p q r l u w N3 N4 N5 y3 y4 y5) (hl : l.size = 12) : RI w0 n0 x p q r (l.setIfInBounds 1 true) (upd u 20 p.v) w N3 N4 N5 y3 y4 y5 where
  e0 := fun k => h.e0 (set_back (by decide) k)
  e1 := fun _ => rfl
  e2 := fun k => h.e2 (set_back (by decide) k)
  e3 := fun k => h.e3 (set_back (by decide) k)
  e4 := fun k => h.e4 (set_back (by decide) k)
  e5 := fun k => h.e5 (set_back (by decide) k)
  e6 := fun k => h.e6 (set_back (by decide) k)
  e7 := fun k => h.e7 (set_back (by decide) k)
  e8 := fun k => h.e8 (set_back (by decide) k)
  n67 := fun a b => h.n67 (set_back (by decide) a) (set_back (by decide) b)
  n68 := fun a b => h.n68 (set_back (by decide) a) (set_back (by decide) b)
  n78 := fun a b => h.n78 (set_back (by decide) a) (set_back (by decide) b)
  s9 := fun k => h.s9 (set_back (by decide) k)
  s10 := fun k => h.s10 (set_back (by decide) k)
  s11 := fun k => h.s11 (set_back (by decide) k)
  o9 := fun k => set_fwd (by omega) (h.o9 (set_back (by decide) k))
  o10 := fun k => set_fwd (by omega) (h.o10 (set_back (by decide) k))
  o11 := fun k => set_fwd (by omega) (h.o11 (set_back (by decide) k))
  atx := h.atx
  bel := h.bel
theorem RI.lay2 {w0 : World} {n0 : Nat} {x p q r : V} {l : Array Bool} {u : Nat → Value} {w : World} {N3 N4 N5 : Nat} {y3 y4 y5 : V} (h : RI w0 n0 x p q r l u w N3 N4 N5 y3 y4 y5) (hl : l.size = 12) : RI w0 n0 x p q r (l.setIfInBounds 2 true) (upd u 21 x.v) w N3 N4 N5 y3 y4 y5 where
  e0 := fun k => h.e0 (set_back (by decide) k)
  e1 := fun k => h.e1 (set_back (by decide) k)
  e2 := fun _ => rfl
  e3 := fun k => h.e3 (set_back (by decide) k)
  e4 := fun k => h.e4 (set_back (by decide) k)
  e5 := fun k => h.e5 (set_back (by decide) k)
  e6 := fun k => h.e6 (set_back (by decide) k)
  e7 := fun k => h.e7 (set_back (by decide) k)
  e8 := fun k => h.e8 (set_back (by decide) k)
  n67 := fun a b => h.n67 (set_back (by decide) a) (set_back (by decide) b)
  n68 := fun a b => h.n68 (set_back (by decide) a) (set_back (by decide) b)
  n78 := fun a b => h.n78 (set_back (by decide) a) (set_back (by decide) b)
  s9 := fun k => h.s9 (set_back (by decide) k)
  s10 := fun k => h.s10 (set_back (by decide) k)
  s11 := fun k => h.s11 (set_back (by decide) k)
  o9 := fun k => set_fwd (by omega) (h.o9 (set_back (by decide) k))
  o10 := fun k => set_fwd (by omega) (h.o10 (set_back (by decide) k))
  o11 := fun k => set_fwd (by omega) (h.o11 (set_back (by decide) k))
  atx := h.atx
  bel := h.bel
theorem RI.lay3 {w0 : World} {n0 : Nat} {x p q r : V} {l : Array Bool} {u : Nat → Value} {w : World} {N3 N4 N5 : Nat} {y3 y4 y5 : V} (h : RI w0 n0 x p q r l u w N3 N4 N5 y3 y4 y5) (hl : l.size = 12) : RI w0 n0 x p q r (l.setIfInBounds 3 true) (upd u 22 q.v) w N3 N4 N5 y3 y4 y5 where
  e0 := fun k => h.e0 (set_back (by decide) k)
  e1 := fun k => h.e1 (set_back (by decide) k)
  e2 := fun k => h.e2 (set_back (by decide) k)
  e3 := fun _ => rfl
  e4 := fun k => h.e4 (set_back (by decide) k)
  e5 := fun k => h.e5 (set_back (by decide) k)
  e6 := fun k => h.e6 (set_back (by decide) k)
  e7 := fun k => h.e7 (set_back (by decide) k)
  e8 := fun k => h.e8 (set_back (by decide) k)
  n67 := fun a b => h.n67 (set_back (by decide) a) (set_back (by decide) b)
  n68 := fun a b => h.n68 (set_back (by decide) a) (set_back (by decide) b)
  n78 := fun a b => h.n78 (set_back (by decide) a) (set_back (by decide) b)
  s9 := fun k => h.s9 (set_back (by decide) k)
  s10 := fun k => h.s10 (set_back (by decide) k)
  s11 := fun k => h.s11 (set_back (by decide) k)
  o9 := fun k => set_fwd (by omega) (h.o9 (set_back (by decide) k))
  o10 := fun k => set_fwd (by omega) (h.o10 (set_back (by decide) k))
  o11 := fun k => set_fwd (by omega) (h.o11 (set_back (by decide) k))
  atx := h.atx
  bel := h.bel
theorem RI.lay4 {w0 : World} {n0 : Nat} {x p q r : V} {l : Array Bool} {u : Nat → Value} {w : World} {N3 N4 N5 : Nat} {y3 y4 y5 : V} (h : RI w0 n0 x p q r l u w N3 N4 N5 y3 y4 y5) (hl : l.size = 12) : RI w0 n0 x p q r (l.setIfInBounds 4 true) (upd u 23 x.v) w N3 N4 N5 y3 y4 y5 where
  e0 := fun k => h.e0 (set_back (by decide) k)
  e1 := fun k => h.e1 (set_back (by decide) k)
  e2 := fun k => h.e2 (set_back (by decide) k)
  e3 := fun k => h.e3 (set_back (by decide) k)
  e4 := fun _ => rfl
  e5 := fun k => h.e5 (set_back (by decide) k)
  e6 := fun k => h.e6 (set_back (by decide) k)
  e7 := fun k => h.e7 (set_back (by decide) k)
  e8 := fun k => h.e8 (set_back (by decide) k)
  n67 := fun a b => h.n67 (set_back (by decide) a) (set_back (by decide) b)
  n68 := fun a b => h.n68 (set_back (by decide) a) (set_back (by decide) b)
  n78 := fun a b => h.n78 (set_back (by decide) a) (set_back (by decide) b)
  s9 := fun k => h.s9 (set_back (by decide) k)
  s10 := fun k => h.s10 (set_back (by decide) k)
  s11 := fun k => h.s11 (set_back (by decide) k)
  o9 := fun k => set_fwd (by omega) (h.o9 (set_back (by decide) k))
  o10 := fun k => set_fwd (by omega) (h.o10 (set_back (by decide) k))
  o11 := fun k => set_fwd (by omega) (h.o11 (set_back (by decide) k))
  atx := h.atx
  bel := h.bel
theorem RI.lay5 {w0 : World} {n0 : Nat} {x p q r : V} {l : Array Bool} {u : Nat → Value} {w : World} {N3 N4 N5 : Nat} {y3 y4 y5 : V} (h : RI w0 n0 x p q r l u w N3 N4 N5 y3 y4 y5) (hl : l.size = 12) : RI w0 n0 x p q r (l.setIfInBounds 5 true) (upd u 24 r.v) w N3 N4 N5 y3 y4 y5 where
  e0 := fun k => h.e0 (set_back (by decide) k)
  e1 := fun k => h.e1 (set_back (by decide) k)
  e2 := fun k => h.e2 (set_back (by decide) k)
  e3 := fun k => h.e3 (set_back (by decide) k)
  e4 := fun k => h.e4 (set_back (by decide) k)
  e5 := fun _ => rfl
  e6 := fun k => h.e6 (set_back (by decide) k)
  e7 := fun k => h.e7 (set_back (by decide) k)
  e8 := fun k => h.e8 (set_back (by decide) k)
  n67 := fun a b => h.n67 (set_back (by decide) a) (set_back (by decide) b)
  n68 := fun a b => h.n68 (set_back (by decide) a) (set_back (by decide) b)
  n78 := fun a b => h.n78 (set_back (by decide) a) (set_back (by decide) b)
  s9 := fun k => h.s9 (set_back (by decide) k)
  s10 := fun k => h.s10 (set_back (by decide) k)
  s11 := fun k => h.s11 (set_back (by decide) k)
  o9 := fun k => set_fwd (by omega) (h.o9 (set_back (by decide) k))
  o10 := fun k => set_fwd (by omega) (h.o10 (set_back (by decide) k))
  o11 := fun k => set_fwd (by omega) (h.o11 (set_back (by decide) k))
  atx := h.atx
  bel := h.bel
theorem RI.new6 {w0 : World} {n0 : Nat} {x p q r : V} {l : Array Bool} {u : Nat → Value} {w : World} {N3 N4 N5 : Nat} {y3 y4 y5 : V} (h : RI w0 n0 x p q r l u w N3 N4 N5 y3 y4 y5) (hl : l.size = 12) (hn : l.getD 6 false = false) : RI w0 n0 x p q r (l.setIfInBounds 6 true) (upd u 3 (.pointer (some ⟨w.heap.size, 0, none⟩))) (w.alloc V.zero.pc) w.heap.size N4 N5 V.zero y4 y5 where
  e0 := fun k => h.e0 (set_back (by decide) k)
  e1 := fun k => h.e1 (set_back (by decide) k)
  e2 := fun k => h.e2 (set_back (by decide) k)
  e3 := fun k => h.e3 (set_back (by decide) k)
  e4 := fun k => h.e4 (set_back (by decide) k)
  e5 := fun k => h.e5 (set_back (by decide) k)
  e6 := fun _ => ⟨rfl, alloc_at _ _ _ rfl, h.bel.size, fun e => by have := h.atx.lt; omega⟩
  e7 := fun k => ⟨(h.e7 (set_back (by decide) k)).1, (h.e7 (set_back (by decide) k)).2.1.below (below_alloc w V.zero.pc), (h.e7 (set_back (by decide) k)).2.2⟩
  e8 := fun k => ⟨(h.e8 (set_back (by decide) k)).1, (h.e8 (set_back (by decide) k)).2.1.below (below_alloc w V.zero.pc), (h.e8 (set_back (by decide) k)).2.2⟩
  n67 := fun _ k e => by have := (h.e7 (set_back (by decide) k)).2.1.lt; omega
  n68 := fun _ k e => by have := (h.e8 (set_back (by decide) k)).2.1.lt; omega
  n78 := fun a b => h.n78 (set_back (by decide) a) (set_back (by decide) b)
  s9 := fun k => by have := h.o9 (set_back (by decide) k); rw [hn] at this; cases this
  s10 := fun k => h.s10 (set_back (by decide) k)
  s11 := fun k => h.s11 (set_back (by decide) k)
  o9 := fun k => by have := h.o9 (set_back (by decide) k); rw [hn] at this; cases this
  o10 := fun k => set_fwd (by omega) (h.o10 (set_back (by decide) k))
  o11 := fun k => set_fwd (by omega) (h.o11 (set_back (by decide) k))
  atx := h.atx.below (below_alloc w V.zero.pc)
  bel := Below.up h.bel (below_alloc w V.zero.pc)
theorem RI.new7 {w0 : World} {n0 : Nat} {x p q r : V} {l : Array Bool} {u : Nat → Value} {w : World} {N3 N4 N5 : Nat} {y3 y4 y5 : V} (h : RI w0 n0 x p q r l u w N3 N4 N5 y3 y4 y5) (hl : l.size = 12) (hn : l.getD 7 false = false) : RI w0 n0 x p q r (l.setIfInBounds 7 true) (upd u 4 (.pointer (some ⟨w.heap.size, 0, none⟩))) (w.alloc V.zero.pc) N3 w.heap.size N5 y3 V.zero y5 where
  e0 := fun k => h.e0 (set_back (by decide) k)
  e1 := fun k => h.e1 (set_back (by decide) k)
  e2 := fun k => h.e2 (set_back (by decide) k)
  e3 := fun k => h.e3 (set_back (by decide) k)
  e4 := fun k => h.e4 (set_back (by decide) k)
  e5 := fun k => h.e5 (set_back (by decide) k)
  e6 := fun k => ⟨(h.e6 (set_back (by decide) k)).1, (h.e6 (set_back (by decide) k)).2.1.below (below_alloc w V.zero.pc), (h.e6 (set_back (by decide) k)).2.2⟩
  e7 := fun _ => ⟨rfl, alloc_at _ _ _ rfl, h.bel.size, fun e => by have := h.atx.lt; omega⟩
  e8 := fun k => ⟨(h.e8 (set_back (by decide) k)).1, (h.e8 (set_back (by decide) k)).2.1.below (below_alloc w V.zero.pc), (h.e8 (set_back (by decide) k)).2.2⟩
  n67 := fun k _ e => by have := (h.e6 (set_back (by decide) k)).2.1.lt; omega
  n68 := fun a b => h.n68 (set_back (by decide) a) (set_back (by decide) b)
  n78 := fun _ k e => by have := (h.e8 (set_back (by decide) k)).2.1.lt; omega
  s9 := fun k => h.s9 (set_back (by decide) k)
  s10 := fun k => by have := h.o10 (set_back (by decide) k); rw [hn] at this; cases this
  s11 := fun k => h.s11 (set_back (by decide) k)
  o9 := fun k => set_fwd (by omega) (h.o9 (set_back (by decide) k))
  o10 := fun k => by have := h.o10 (set_back (by decide) k); rw [hn] at this; cases this
  o11 := fun k => set_fwd (by omega) (h.o11 (set_back (by decide) k))
  atx := h.atx.below (below_alloc w V.zero.pc)
  bel := Below.up h.bel (below_alloc w V.zero.pc)
theorem RI.new8 {w0 : World} {n0 : Nat} {x p q r : V} {l : Array Bool} {u : Nat → Value} {w : World} {N3 N4 N5 : Nat} {y3 y4 y5 : V} (h : RI w0 n0 x p q r l u w N3 N4 N5 y3 y4 y5) (hl : l.size = 12) (hn : l.getD 8 false = false) : RI w0 n0 x p q r (l.setIfInBounds 8 true) (upd u 5 (.pointer (some ⟨w.heap.size, 0, none⟩))) (w.alloc V.zero.pc) N3 N4 w.heap.size y3 y4 V.zero where
  e0 := fun k => h.e0 (set_back (by decide) k)
  e1 := fun k => h.e1 (set_back (by decide) k)
  e2 := fun k => h.e2 (set_back (by decide) k)
  e3 := fun k => h.e3 (set_back (by decide) k)
  e4 := fun k => h.e4 (set_back (by decide) k)
  e5 := fun k => h.e5 (set_back (by decide) k)
  e6 := fun k => ⟨(h.e6 (set_back (by decide) k)).1, (h.e6 (set_back (by decide) k)).2.1.below (below_alloc w V.zero.pc), (h.e6 (set_back (by decide) k)).2.2⟩
  e7 := fun k => ⟨(h.e7 (set_back (by decide) k)).1, (h.e7 (set_back (by decide) k)).2.1.below (below_alloc w V.zero.pc), (h.e7 (set_back (by decide) k)).2.2⟩
  e8 := fun _ => ⟨rfl, alloc_at _ _ _ rfl, h.bel.size, fun e => by have := h.atx.lt; omega⟩
  n67 := fun a b => h.n67 (set_back (by decide) a) (set_back (by decide) b)
  n68 := fun k _ e => by have := (h.e6 (set_back (by decide) k)).2.1.lt; omega
  n78 := fun k _ e => by have := (h.e7 (set_back (by decide) k)).2.1.lt; omega
  s9 := fun k => h.s9 (set_back (by decide) k)
  s10 := fun k => h.s10 (set_back (by decide) k)
  s11 := fun k => by have := h.o11 (set_back (by decide) k); rw [hn] at this; cases this
  o9 := fun k => set_fwd (by omega) (h.o9 (set_back (by decide) k))
  o10 := fun k => set_fwd (by omega) (h.o10 (set_back (by decide) k))
  o11 := fun k => by have := h.o11 (set_back (by decide) k); rw [hn] at this; cases this
  atx := h.atx.below (below_alloc w V.zero.pc)
  bel := Below.up h.bel (below_alloc w V.zero.pc)
theorem RI.put9 {w0 : World} {n0 : Nat} {x p q r : V} {l : Array Bool} {u : Nat → Value} {w : World} {N3 N4 N5 : Nat} {y3 y4 y5 : V} (h : RI w0 n0 x p q r l u w N3 N4 N5 y3 y4 y5) (hl : l.size = 12) (ha : l.getD 6 false = true) : RI w0 n0 x p q r (l.setIfInBounds 9 true) u (((((w.setCell ⟨N3, 0, none⟩ (.int .u64 p.a)).setCell ⟨N3, 1, none⟩ (.int .u64 p.b)).setCell ⟨N3, 2, none⟩ (.int .u64 p.c)).setCell ⟨N3, 3, none⟩ (.string p.p)).setCell ⟨N3, 4, none⟩ (.string p.m)) N3 N4 N5 p y4 y5 where
  e0 := fun k => h.e0 (set_back (by decide) k)
  e1 := fun k => h.e1 (set_back (by decide) k)
  e2 := fun k => h.e2 (set_back (by decide) k)
  e3 := fun k => h.e3 (set_back (by decide) k)
  e4 := fun k => h.e4 (set_back (by decide) k)
  e5 := fun k => h.e5 (set_back (by decide) k)
  e6 := fun _ => ⟨(h.e6 ha).1, (h.e6 ha).2.1.store5 p, (h.e6 ha).2.2⟩
  e7 := fun k => ⟨(h.e7 (set_back (by decide) k)).1, (h.e7 (set_back (by decide) k)).2.1.other5 (fun e => h.n67 ha (set_back (by decide) k) e.symm) _ _ _ _ _, (h.e7 (set_back (by decide) k)).2.2⟩
  e8 := fun k => ⟨(h.e8 (set_back (by decide) k)).1, (h.e8 (set_back (by decide) k)).2.1.other5 (fun e => h.n68 ha (set_back (by decide) k) e.symm) _ _ _ _ _, (h.e8 (set_back (by decide) k)).2.2⟩
  n67 := fun a b => h.n67 (set_back (by decide) a) (set_back (by decide) b)
  n68 := fun a b => h.n68 (set_back (by decide) a) (set_back (by decide) b)
  n78 := fun a b => h.n78 (set_back (by decide) a) (set_back (by decide) b)
  s9 := fun _ => rfl
  s10 := fun k => h.s10 (set_back (by decide) k)
  s11 := fun k => h.s11 (set_back (by decide) k)
  o9 := fun _ => set_fwd (by omega) ha
  o10 := fun k => set_fwd (by omega) (h.o10 (set_back (by decide) k))
  o11 := fun k => set_fwd (by omega) (h.o11 (set_back (by decide) k))
  atx := h.atx.other5 (h.e6 ha).2.2.2 _ _ _ _ _
  bel := up_store5 h.bel (h.e6 ha).2.2.1 _ _ _ _ _
theorem RI.put10 {w0 : World} {n0 : Nat} {x p q r : V} {l : Array Bool} {u : Nat → Value} {w : World} {N3 N4 N5 : Nat} {y3 y4 y5 : V} (h : RI w0 n0 x p q r l u w N3 N4 N5 y3 y4 y5) (hl : l.size = 12) (ha : l.getD 7 false = true) : RI w0 n0 x p q r (l.setIfInBounds 10 true) u (((((w.setCell ⟨N4, 0, none⟩ (.int .u64 q.a)).setCell ⟨N4, 1, none⟩ (.int .u64 q.b)).setCell ⟨N4, 2, none⟩ (.int .u64 q.c)).setCell ⟨N4, 3, none⟩ (.string q.p)).setCell ⟨N4, 4, none⟩ (.string q.m)) N3 N4 N5 y3 q y5 where
  e0 := fun k => h.e0 (set_back (by decide) k)
  e1 := fun k => h.e1 (set_back (by decide) k)
  e2 := fun k => h.e2 (set_back (by decide) k)
  e3 := fun k => h.e3 (set_back (by decide) k)
  e4 := fun k => h.e4 (set_back (by decide) k)
  e5 := fun k => h.e5 (set_back (by decide) k)
  e6 := fun k => ⟨(h.e6 (set_back (by decide) k)).1, (h.e6 (set_back (by decide) k)).2.1.other5 (h.n67 (set_back (by decide) k) ha) _ _ _ _ _, (h.e6 (set_back (by decide) k)).2.2⟩
  e7 := fun _ => ⟨(h.e7 ha).1, (h.e7 ha).2.1.store5 q, (h.e7 ha).2.2⟩
  e8 := fun k => ⟨(h.e8 (set_back (by decide) k)).1, (h.e8 (set_back (by decide) k)).2.1.other5 (fun e => h.n78 ha (set_back (by decide) k) e.symm) _ _ _ _ _, (h.e8 (set_back (by decide) k)).2.2⟩
  n67 := fun a b => h.n67 (set_back (by decide) a) (set_back (by decide) b)
  n68 := fun a b => h.n68 (set_back (by decide) a) (set_back (by decide) b)
  n78 := fun a b => h.n78 (set_back (by decide) a) (set_back (by decide) b)
  s9 := fun k => h.s9 (set_back (by decide) k)
  s10 := fun _ => rfl
  s11 := fun k => h.s11 (set_back (by decide) k)
  o9 := fun k => set_fwd (by omega) (h.o9 (set_back (by decide) k))
  o10 := fun _ => set_fwd (by omega) ha
  o11 := fun k => set_fwd (by omega) (h.o11 (set_back (by decide) k))
  atx := h.atx.other5 (h.e7 ha).2.2.2 _ _ _ _ _
  bel := up_store5 h.bel (h.e7 ha).2.2.1 _ _ _ _ _
theorem RI.put11 {w0 : World} {n0 : Nat} {x p q r : V} {l : Array Bool} {u : Nat → Value} {w : World} {N3 N4 N5 : Nat} {y3 y4 y5 : V} (h : RI w0 n0 x p q r l u w N3 N4 N5 y3 y4 y5) (hl : l.size = 12) (ha : l.getD 8 false = true) : RI w0 n0 x p q r (l.setIfInBounds 11 true) u (((((w.setCell ⟨N5, 0, none⟩ (.int .u64 r.a)).setCell ⟨N5, 1, none⟩ (.int .u64 r.b)).setCell ⟨N5, 2, none⟩ (.int .u64 r.c)).setCell ⟨N5, 3, none⟩ (.string r.p)).setCell ⟨N5, 4, none⟩ (.string r.m)) N3 N4 N5 y3 y4 r where
  e0 := fun k => h.e0 (set_back (by decide) k)
  e1 := fun k => h.e1 (set_back (by decide) k)
  e2 := fun k => h.e2 (set_back (by decide) k)
  e3 := fun k => h.e3 (set_back (by decide) k)
  e4 := fun k => h.e4 (set_back (by decide) k)
  e5 := fun k => h.e5 (set_back (by decide) k)
  e6 := fun k => ⟨(h.e6 (set_back (by decide) k)).1, (h.e6 (set_back (by decide) k)).2.1.other5 (h.n68 (set_back (by decide) k) ha) _ _ _ _ _, (h.e6 (set_back (by decide) k)).2.2⟩
  e7 := fun k => ⟨(h.e7 (set_back (by decide) k)).1, (h.e7 (set_back (by decide) k)).2.1.other5 (h.n78 (set_back (by decide) k) ha) _ _ _ _ _, (h.e7 (set_back (by decide) k)).2.2⟩
  e8 := fun _ => ⟨(h.e8 ha).1, (h.e8 ha).2.1.store5 r, (h.e8 ha).2.2⟩
  n67 := fun a b => h.n67 (set_back (by decide) a) (set_back (by decide) b)
  n68 := fun a b => h.n68 (set_back (by decide) a) (set_back (by decide) b)
  n78 := fun a b => h.n78 (set_back (by decide) a) (set_back (by decide) b)
  s9 := fun k => h.s9 (set_back (by decide) k)
  s10 := fun k => h.s10 (set_back (by decide) k)
  s11 := fun _ => rfl
  o9 := fun k => set_fwd (by omega) (h.o9 (set_back (by decide) k))
  o10 := fun k => set_fwd (by omega) (h.o10 (set_back (by decide) k))
  o11 := fun _ => set_fwd (by omega) ha
  atx := h.atx.other5 (h.e8 ha).2.2.2 _ _ _ _ _
  bel := up_store5 h.bel (h.e8 ha).2.2.1 _ _ _ _ _
theorem incPatch_b (a b c : Nat) (w : World) (hu : a < 18446744073709551616 ∧ b < 18446744073709551616 ∧ c < 18446744073709551616) (hm : c < 18446744073709551615) (ht : Pow10 w) :
    Calls Tryd.prog 8 #[.agg #[.int .u64 a, .int .u64 b, .int .u64 c, .string ⟨#[]⟩, .string ⟨#[]⟩]] w fun e w' => e = .returned (V.v (V.bare a b (c + 1))) ∧ Below w.heap.size w w' :=
  versionIncPatch_any (V.bare a b c) w rfl rfl hu hm ht
theorem incMinor_b (a b c : Nat) (w : World) (hu : a < 18446744073709551616 ∧ b < 18446744073709551616 ∧ c < 18446744073709551616) (hm : b < 18446744073709551615) (ht : Pow10 w) :
    Calls Tryd.prog 9 #[.agg #[.int .u64 a, .int .u64 b, .int .u64 c, .string ⟨#[]⟩, .string ⟨#[]⟩]] w fun e w' => e = .returned (V.v (V.bare a (b + 1) 0)) ∧ Below w.heap.size w w' :=
  versionIncMinor_any (V.bare a b c) w rfl rfl hu hm ht
theorem incMajor_b (a b c : Nat) (w : World) (hu : a < 18446744073709551616 ∧ b < 18446744073709551616 ∧ c < 18446744073709551616) (hm : a < 18446744073709551615) (ht : Pow10 w) :
    Calls Tryd.prog 10 #[.agg #[.int .u64 a, .int .u64 b, .int .u64 c, .string ⟨#[]⟩, .string ⟨#[]⟩]] w fun e w' => e = .returned (V.v (V.bare (a + 1) 0 0)) ∧ Below w.heap.size w w' :=
  versionIncMajor_any (V.bare a b c) w hu hm ht
theorem stH_6 (a b c : Nat) (y : V) (r : Bool) (w : World) (hn : NumErrs w) (gy : Hid y.pGood) (zy : Hid (y.p.size ≤ 2147483647)) (hr : Hid (T.tilde ⟨6, 3, a, b, c, ⟨#[]⟩⟩ y = r)) :
    Calls Tryd.prog 11 #[.int .i64 6, .agg #[.int .u64 a, .int .u64 b, .int .u64 c, .string ⟨#[]⟩, .string ⟨#[]⟩], .int .i64 3, .agg #[.int .u64 y.a, .int .u64 y.b, .int .u64 y.c, .string y.p, .string y.m]] w fun e w' => e = .returned (.bool r) ∧ Below w.heap.size w w' :=
  stHolds_any 6 (V.bare a b c) y r w ⟨by decide, by decide⟩ (Lib.hid fun N M' => says_6 ⟨6, 3, a, b, c, ⟨#[]⟩⟩ y rfl N M' true r gy (Lib.hid (.inl rfl)) zy.out (by show (0 : Nat) ≤ _; omega) (Lib.hid (by rw [hr.out]; unfold V.inl; simp))) gy.out (.inl rfl) hn zy.out (by show (0 : Nat) ≤ _; omega)
theorem stH_7 (a b c : Nat) (y : V) (r : Bool) (w : World) (hn : NumErrs w) (gy : Hid y.pGood) (zy : Hid (y.p.size ≤ 2147483647)) (hr : Hid (T.caret ⟨7, 3, a, b, c, ⟨#[]⟩⟩ y = r)) :
    Calls Tryd.prog 11 #[.int .i64 7, .agg #[.int .u64 a, .int .u64 b, .int .u64 c, .string ⟨#[]⟩, .string ⟨#[]⟩], .int .i64 3, .agg #[.int .u64 y.a, .int .u64 y.b, .int .u64 y.c, .string y.p, .string y.m]] w fun e w' => e = .returned (.bool r) ∧ Below w.heap.size w w' :=
  stHolds_any 7 (V.bare a b c) y r w ⟨by decide, by decide⟩ (Lib.hid fun N M' => says_7 ⟨7, 3, a, b, c, ⟨#[]⟩⟩ y rfl N M' true r gy (Lib.hid (.inl rfl)) zy.out (by show (0 : Nat) ≤ _; omega) (Lib.hid (by rw [hr.out]; unfold V.inl; simp))) gy.out (.inl rfl) hn zy.out (by show (0 : Nat) ≤ _; omega)
set_option maxHeartbeats 16000000 in
theorem upgrade_law (x : V) (w : World) (hn : NumErrs w) (ht : Pow10 w) (hu : x.u64) (h1 : x.p.size ≤ 140737488351232) (h2 : x.m.size ≤ 140737488351232) :
    Calls Tryd.prog 3 #[.agg #[.int .u64 x.a, .int .u64 x.b, .int .u64 x.c, .string x.p, .string x.m]] w fun e w' => e = .returned (.bool true) ∧ Below w.heap.size w w' := by
  have HN := Lib.hid hn
  have HT := Lib.hid ht
  have HU := Lib.hid hu
  clear hn ht hu
  go_enter Tryd.func3, Tryd.ntmps3
  go_upto_region 4 with (first
    | (go_at_call 5; (with_reducible refine (zz_x x x.fits _ h1 h2 (Lib.hid rfl)).mono ?_); rintro e w1 ⟨rfl, hb⟩; have HB1 := Lib.hid (Below.up (w := w) (by (repeat (first | exact Below.refl _ _ | apply Below.drew | (apply below_alloc_on (Nat.le_refl _))))) hb); have hx : AtP w1 w.heap.size x := AtP.below (alloc_at _ _ _ rfl) hb; obtain ⟨c0, c1, c2, c3, c4⟩ := hx.cells; have X1 := Lib.hid hx; clear hx hb; rcases hf : x.fits with _ | _; all_goals (have HF := Lib.hid hf; clear hf))
    | (go_at_call 6; (with_reducible refine (bare_any x _).mono ?_); rintro e w2 ⟨rfl, hb⟩; have HB2 := Lib.hid (Below.up HB1.out hb); have hx : AtP w2 w.heap.size x := X1.out.below hb; obtain ⟨d0, d1, d2, d3, d4⟩ := hx.cells; have l0 := hx.loose 0; have l1 := hx.loose 1; have l2 := hx.loose 2; have l3 := hx.loose 3; have l4 := hx.loose 4; have X2 := Lib.hid hx; clear hx hb c0 c1 c2 c3 c4))
  · go_ret
    exact ⟨rfl, HB1.out⟩
  generalize hW3 : (((((w2.setCell ⟨w.heap.size, 0, none⟩ (.int .u64 x.a)).setCell ⟨w.heap.size, 1, none⟩ (.int .u64 x.b)).setCell ⟨w.heap.size, 2, none⟩ (.int .u64 x.c)).setCell ⟨w.heap.size, 3, none⟩ (.string ⟨#[]⟩)).setCell ⟨w.heap.size, 4, none⟩ (.string ⟨#[]⟩)) = W3
  have HX3 := Lib.hid (show AtP W3 w.heap.size (V.bare x.a x.b x.c) by subst hW3; exact AtP.store5 X2.out (V.bare x.a x.b x.c))
  have HB3 := Lib.hid (show Below w.heap.size w W3 by subst hW3; exact up_store5 HB2.out (Nat.le_refl _) _ _ _ _ _)
  clear hW3 d0 d1 d2 d3 d4 l0 l1 l2 l3 l4 X1 X2 HB1 HB2 HF h1 h2
  obtain ⟨d0, d1, d2, d3, d4⟩ := HX3.out.cells
  simp only [V.bare] at d0 d1 d2 d3 d4
  rcases hp : (V.bare x.a x.b x.c).plain with _ | _
  · have HP := Lib.hid hp
    clear hp
    go_wp2_with (go_at_call 7; (with_reducible refine (bplain_is x.a x.b x.c false _ HP).mono ?_); rintro e w4 ⟨rfl, hb⟩; have HB4 := Lib.hid (Below.up HB3.out hb); clear hb)
    go_ret
    exact ⟨rfl, HB4.out⟩
  have HP := Lib.hid hp
  have HPL := Lib.hid (bplain_lt hp)
  clear hp
  by_cases hz : x.a = 0 ∧ x.b = 0 ∧ x.c = 0
  · obtain ⟨z0, z1, z2⟩ := hz
    rw [z0] at d0
    rw [z1] at d1
    rw [z2] at d2
    rw [z0, z1, z2] at HP
    clear z0 z1 z2
    go_wp2_with (go_at_call 7; (with_reducible refine (bplain_z true _ HP).mono ?_); rintro e w4 ⟨rfl, hb⟩; have HB4 := Lib.hid (Below.up HB3.out hb); have e0 := cell_below hb d0; have e1 := cell_below hb d1; have e2 := cell_below hb d2; have e3 := cell_below hb d3; have e4 := cell_below hb d4; clear hb)
    go_ret
    exact ⟨rfl, HB4.out⟩
  have HZ := Lib.hid hz
  clear hz
  go_cut [18] (fun s18 wx => s18 = .bool false ∧ Hid (AtP wx w.heap.size (V.bare x.a x.b x.c) ∧ Below w.heap.size w wx))
  case first =>
    go_wp2_with (go_at_call 7; (with_reducible refine (bplain_is x.a x.b x.c true _ HP).mono ?_); rintro e w4 ⟨rfl, hb⟩; have HB4 := Lib.hid (Below.up HB3.out hb); have hx : AtP w4 w.heap.size (V.bare x.a x.b x.c) := HX3.out.below hb; have HX4 := Lib.hid hx; have e0 := cell_below hb d0; have e1 := cell_below hb d1; have e2 := cell_below hb d2; have e3 := cell_below hb d3; have e4 := cell_below hb d4; clear hb hx d0 d1 d2 d3 d4; obtain ⟨na, hna⟩ : ∃ n : Int, (x.a : Int) = n := ⟨_, rfl⟩; rw [hna] at e0; have HNa := Lib.hid hna; clear hna; obtain ⟨nb, hnb⟩ : ∃ n : Int, (x.b : Int) = n := ⟨_, rfl⟩; rw [hnb] at e1; have HNb := Lib.hid hnb; clear hnb; obtain ⟨nc, hnc⟩ : ∃ n : Int, (x.c : Int) = n := ⟨_, rfl⟩; rw [hnc] at e2; have HNc := Lib.hid hnc; clear hnc)
    all_goals first
      | (exfalso; have ha := HNa.out; have hb := HNb.out; have hc := HNc.out; exact HZ.out ⟨by omega, by omega, by omega⟩)
      | (go_meet; exact ⟨rfl, Lib.hid ⟨HX4.out, HB4.out⟩⟩)
  case rest =>
  obtain ⟨rfl, HX5⟩ := hcut
  clear d0 d1 d2 d3 d4 HX3 HB3
  have HT5 := Lib.hid (HT.out.below HX5.out.2)
  have HB5 := Lib.hid HX5.out.2
  obtain ⟨d0, d1, d2, d3, d4⟩ := HX5.out.1.cells
  simp only [V.bare] at d0 d1 d2 d3 d4
  go_wp2
  go_upto_region 6 with fail
  have HX0 := Lib.hid HX5.out.1
  obtain ⟨p, hp⟩ : ∃ p, V.bare x.a x.b (x.c + 1) = p := ⟨_, rfl⟩
  obtain ⟨q, hq⟩ : ∃ p, V.bare x.a (x.b + 1) 0 = p := ⟨_, rfl⟩
  obtain ⟨r, hr⟩ : ∃ p, V.bare (x.a + 1) 0 0 = p := ⟨_, rfl⟩
  have HCP : Hid (∀ w : World, Pow10 w → Calls Tryd.prog 8 #[.agg #[.int .u64 x.a, .int .u64 x.b, .int .u64 x.c, .string ⟨#[]⟩, .string ⟨#[]⟩]] w fun e w' => e = .returned p.v ∧ Below w.heap.size w w') := Lib.hid (fun w hw => by
    have := incPatch_b x.a x.b x.c w HU.out HPL.out.2.2 hw
    rw [hp] at this
    exact this)
  have HCQ : Hid (∀ w : World, Pow10 w → Calls Tryd.prog 9 #[.agg #[.int .u64 x.a, .int .u64 x.b, .int .u64 x.c, .string ⟨#[]⟩, .string ⟨#[]⟩]] w fun e w' => e = .returned q.v ∧ Below w.heap.size w w') := Lib.hid (fun w hw => by
    have := incMinor_b x.a x.b x.c w HU.out HPL.out.2.1 hw
    rw [hq] at this
    exact this)
  have HCR : Hid (∀ w : World, Pow10 w → Calls Tryd.prog 10 #[.agg #[.int .u64 x.a, .int .u64 x.b, .int .u64 x.c, .string ⟨#[]⟩, .string ⟨#[]⟩]] w fun e w' => e = .returned r.v ∧ Below w.heap.size w w') := Lib.hid (fun w hw => by
    have := incMajor_b x.a x.b x.c w HU.out HPL.out.1 hw
    rw [hr] at this
    exact this)
  have HPE := Lib.hid hp
  have HQE := Lib.hid hq
  have HRE := Lib.hid hr
  clear hp hq hr
  refine wp_region_vals (by kernel_rfl) [19, 20, 21, 22, 23, 24, 3, 4, 5] (fun l u wx => ∃ N3 N4 N5 y3 y4 y5, RI w w.heap.size (V.bare x.a x.b x.c) p q r l u wx N3 N4 N5 y3 y4 y5) ?_ ?_ ?_
  · refine ⟨0, 0, 0, V.zero, V.zero, V.zero, ?_⟩
    constructor
    · exact HX0.out
    · exact HB5.out.drew
    all_goals (intro h; simp at h)
  · intro l u wx i ⟨N3, N4, N5, y3, y4, y5, I⟩ hs hi
    have hm := ready_mem hi
    have h12 : i < 12 := hm.1
    clear hi
    have hl12 : l.size = 12 := hs
    clear d0 d1 d2 d3 d4 hs
    have HI := Lib.hid I
    have HM := Lib.hid hm
    have HTX := Lib.hid (HT.out.below I.bel)
    clear I hm
    simp only [putAll]
    match i, h12, HM with
    | 0, _, HM =>
      obtain ⟨d0, d1, d2, d3, d4⟩ := HI.out.atx.cells
      simp only [V.bare] at d0 d1 d2 d3 d4
      refine wpOp_free rfl rfl (fun K' hK => ?_)
      clear HM
      go_simp
      refine hK.out _ _ ⟨upd u 19 (V.bare x.a x.b x.c).v, ?_, N3, N4, N5, y3, y4, y5, HI.out.lay0 hl12⟩
      kernel_rfl
    | 2, _, HM =>
      obtain ⟨d0, d1, d2, d3, d4⟩ := HI.out.atx.cells
      simp only [V.bare] at d0 d1 d2 d3 d4
      refine wpOp_free rfl rfl (fun K' hK => ?_)
      clear HM
      go_simp
      refine hK.out _ _ ⟨upd u 21 (V.bare x.a x.b x.c).v, ?_, N3, N4, N5, y3, y4, y5, HI.out.lay2 hl12⟩
      kernel_rfl
    | 4, _, HM =>
      obtain ⟨d0, d1, d2, d3, d4⟩ := HI.out.atx.cells
      simp only [V.bare] at d0 d1 d2 d3 d4
      refine wpOp_free rfl rfl (fun K' hK => ?_)
      clear HM
      go_simp
      refine hK.out _ _ ⟨upd u 23 (V.bare x.a x.b x.c).v, ?_, N3, N4, N5, y3, y4, y5, HI.out.lay4 hl12⟩
      kernel_rfl
    | 1, _, HM =>
      have h0 : l.getD 0 false = true := by
        have := HM.out.2.2
        simp [Region.binds] at this
        simpa using this
      have hu : u 19 = .agg #[.int .u64 x.a, .int .u64 x.b, .int .u64 x.c, .string ⟨#[]⟩, .string ⟨#[]⟩] := HI.out.e0 h0
      refine wpOp_free rfl rfl (fun K' hK => ?_)
      clear HM h0
      go_simp
      refine (HCP.out _ HTX.out).mono ?_
      rintro e w' ⟨rfl, hb⟩
      dsimp only
      refine hK.out _ _ ⟨upd u 20 p.v, ?_, N3, N4, N5, y3, y4, y5, (HI.out.grow hb).lay1 hl12⟩
      rw [show upd u 20 p.v 19 = _ from hu]
      kernel_rfl
    | 3, _, HM =>
      have h0 : l.getD 2 false = true := by
        have := HM.out.2.2
        simp [Region.binds] at this
        simpa using this.1
      have hu : u 21 = .agg #[.int .u64 x.a, .int .u64 x.b, .int .u64 x.c, .string ⟨#[]⟩, .string ⟨#[]⟩] := HI.out.e2 h0
      refine wpOp_free rfl rfl (fun K' hK => ?_)
      clear HM h0
      go_simp
      refine (HCQ.out _ HTX.out).mono ?_
      rintro e w' ⟨rfl, hb⟩
      dsimp only
      refine hK.out _ _ ⟨upd u 22 q.v, ?_, N3, N4, N5, y3, y4, y5, (HI.out.grow hb).lay3 hl12⟩
      rw [show upd u 22 q.v 21 = _ from hu]
      kernel_rfl
    | 5, _, HM =>
      have h0 : l.getD 4 false = true := by
        have := HM.out.2.2
        simp [Region.binds] at this
        simpa using this.1
      have hu : u 23 = .agg #[.int .u64 x.a, .int .u64 x.b, .int .u64 x.c, .string ⟨#[]⟩, .string ⟨#[]⟩] := HI.out.e4 h0
      refine wpOp_free rfl rfl (fun K' hK => ?_)
      clear HM h0
      go_simp
      refine (HCR.out _ HTX.out).mono ?_
      rintro e w' ⟨rfl, hb⟩
      dsimp only
      refine hK.out _ _ ⟨upd u 24 r.v, ?_, N3, N4, N5, y3, y4, y5, (HI.out.grow hb).lay5 hl12⟩
      rw [show upd u 24 r.v 23 = _ from hu]
      kernel_rfl
    | 6, _, HM =>
      have hn := HM.out.2.1
      rw [← getD_tf (by omega)] at hn
      refine wpOp_free rfl rfl (fun K' hK => ?_)
      clear HM
      go_simp
      refine hK.out _ _ ⟨upd u 3 (.pointer (some ⟨wx.heap.size, 0, none⟩)), ?_, wx.heap.size, N4, N5, V.zero, y4, y5, HI.out.new6 hl12 hn⟩
      kernel_rfl
    | 7, _, HM =>
      have hn := HM.out.2.1
      rw [← getD_tf (by omega)] at hn
      refine wpOp_free rfl rfl (fun K' hK => ?_)
      clear HM
      go_simp
      refine hK.out _ _ ⟨upd u 4 (.pointer (some ⟨wx.heap.size, 0, none⟩)), ?_, N3, wx.heap.size, N5, y3, V.zero, y5, HI.out.new7 hl12 hn⟩
      kernel_rfl
    | 8, _, HM =>
      have hn := HM.out.2.1
      rw [← getD_tf (by omega)] at hn
      refine wpOp_free rfl rfl (fun K' hK => ?_)
      clear HM
      go_simp
      refine hK.out _ _ ⟨upd u 5 (.pointer (some ⟨wx.heap.size, 0, none⟩)), ?_, N3, N4, wx.heap.size, y3, y4, V.zero, HI.out.new8 hl12 hn⟩
      kernel_rfl
    | 9, _, HM =>
      have h9 := HM.out.2.2
      simp [Region.binds] at h9
      have ha : l.getD 6 false = true := by simpa using h9.1
      have hc : l.getD 1 false = true := by simpa using h9.2.1
      have hk := HI.out.e6 ha
      have hu1 := hk.1
      have hu2 : u 20 = .agg #[.int .u64 p.a, .int .u64 p.b, .int .u64 p.c, .string p.p, .string p.m] := HI.out.e1 hc
      obtain ⟨f0, f1, f2, f3, f4⟩ := hk.2.1.cells
      have l0 := hk.2.1.loose 0
      have l1 := hk.2.1.loose 1
      have l2 := hk.2.1.loose 2
      have l3 := hk.2.1.loose 3
      have l4 := hk.2.1.loose 4
      have HA := Lib.hid ha
      clear h9 ha hc hk
      refine wpOp_free rfl rfl (fun K' hK => ?_)
      clear HM
      go_simp
      refine hK.out _ _ ⟨u, ?_, N3, N4, N5, p, y4, y5, HI.out.put9 hl12 HA.out⟩
      rw [hu1, hu2]
      kernel_rfl
    | 10, _, HM =>
      have h9 := HM.out.2.2
      simp [Region.binds] at h9
      have ha : l.getD 7 false = true := by simpa using h9.1
      have hc : l.getD 3 false = true := by simpa using h9.2.1
      have hk := HI.out.e7 ha
      have hu1 := hk.1
      have hu2 : u 22 = .agg #[.int .u64 q.a, .int .u64 q.b, .int .u64 q.c, .string q.p, .string q.m] := HI.out.e3 hc
      obtain ⟨f0, f1, f2, f3, f4⟩ := hk.2.1.cells
      have l0 := hk.2.1.loose 0
      have l1 := hk.2.1.loose 1
      have l2 := hk.2.1.loose 2
      have l3 := hk.2.1.loose 3
      have l4 := hk.2.1.loose 4
      have HA := Lib.hid ha
      clear h9 ha hc hk
      refine wpOp_free rfl rfl (fun K' hK => ?_)
      clear HM
      go_simp
      refine hK.out _ _ ⟨u, ?_, N3, N4, N5, y3, q, y5, HI.out.put10 hl12 HA.out⟩
      rw [hu1, hu2]
      kernel_rfl
    | 11, _, HM =>
      have h9 := HM.out.2.2
      simp [Region.binds] at h9
      have ha : l.getD 8 false = true := by simpa using h9.1
      have hc : l.getD 5 false = true := by simpa using h9.2.1
      have hk := HI.out.e8 ha
      have hu1 := hk.1
      have hu2 : u 24 = .agg #[.int .u64 r.a, .int .u64 r.b, .int .u64 r.c, .string r.p, .string r.m] := HI.out.e5 hc
      obtain ⟨f0, f1, f2, f3, f4⟩ := hk.2.1.cells
      have l0 := hk.2.1.loose 0
      have l1 := hk.2.1.loose 1
      have l2 := hk.2.1.loose 2
      have l3 := hk.2.1.loose 3
      have l4 := hk.2.1.loose 4
      have HA := Lib.hid ha
      clear h9 ha hc hk
      refine wpOp_free rfl rfl (fun K' hK => ?_)
      clear HM
      go_simp
      refine hK.out _ _ ⟨u, ?_, N3, N4, N5, y3, y4, r, HI.out.put11 hl12 HA.out⟩
      rw [hu1, hu2]
      kernel_rfl
  · intro l u wx ⟨N3, N4, N5, y3, y4, y5, I⟩ hs hr
    have hl12 : l.size = 12 := hs
    have f : ∀ i, i < 12 → l.getD i true = true → l.getD i false = true := fun i hi h => by rw [getD_tf (by omega)]; exact h
    have n0 := f 0 (by omega) (not_ready hr 0 (by decide) (by simp))
    have n1 := f 1 (by omega) (not_ready hr 1 (by decide) (by simp at n0; simp [n0]))
    have n2 := f 2 (by omega) (not_ready hr 2 (by decide) (by simp))
    have n3 := f 3 (by omega) (not_ready hr 3 (by decide) (by simp at n1 n2; simp [n1, n2]))
    have n4 := f 4 (by omega) (not_ready hr 4 (by decide) (by simp))
    have n5 := f 5 (by omega) (not_ready hr 5 (by decide) (by simp at n3 n4; simp [n3, n4]))
    have n6 := f 6 (by omega) (not_ready hr 6 (by decide) (by simp))
    have n7 := f 7 (by omega) (not_ready hr 7 (by decide) (by simp))
    have n8 := f 8 (by omega) (not_ready hr 8 (by decide) (by simp))
    have n9 := f 9 (by omega) (not_ready hr 9 (by decide) (by simp at n0 n1 n2 n3 n4 n5 n6 n7 n8; simp [n0, n1, n2, n3, n4, n5, n6, n7, n8]))
    have n10 := f 10 (by omega) (not_ready hr 10 (by decide) (by simp at n0 n1 n2 n3 n4 n5 n6 n7 n8 n9; simp [n0, n1, n2, n3, n4, n5, n6, n7, n8, n9]))
    have n11 := f 11 (by omega) (not_ready hr 11 (by decide) (by simp at n0 n1 n2 n3 n4 n5 n6 n7 n8 n9 n10; simp [n0, n1, n2, n3, n4, n5, n6, n7, n8, n9, n10]))
    have u3 := (I.e6 n6).1
    have u4 := (I.e7 n7).1
    have u5 := (I.e8 n8).1
    have a3 := (I.e6 n6).2.1
    have a4 := (I.e7 n7).2.1
    have a5 := (I.e8 n8).2.1
    rw [I.s9 n9] at a3
    rw [I.s10 n10] at a4
    rw [I.s11 n11] at a5
    have HA3 := Lib.hid a3
    have HA4 := Lib.hid a4
    have HA5 := Lib.hid a5
    have HAX := Lib.hid I.atx
    have HBX := Lib.hid I.bel
    clear d0 d1 d2 d3 d4 n0 n1 n2 n3 n4 n5 n6 n7 n8 n9 n10 n11 f hr hs hl12 a3 a4 a5 I HX5 HB5 HX0 HCP HCQ HCR
    simp only [putAll, Act.put, List.setIfInBounds_toArray, List.set_cons_succ, List.set_cons_zero, u3, u4, u5]
    have HNX := Lib.hid (HN.out.below HBX.out)
    obtain ⟨d0, d1, d2, d3, d4⟩ := HAX.out.cells
    simp only [V.bare] at d0 d1 d2 d3 d4
    obtain ⟨f0, f1, f2, f3, f4⟩ := HA3.out.cells
    obtain ⟨g0, g1, g2, g3, g4⟩ := HA4.out.cells
    obtain ⟨j0, j1, j2, j3, j4⟩ := HA5.out.cells
    have GP : Hid p.pGood := Lib.hid (by rw [← HPE.out]; exact .inl rfl)
    have GQ : Hid q.pGood := Lib.hid (by rw [← HQE.out]; exact .inl rfl)
    have GR : Hid r.pGood := Lib.hid (by rw [← HRE.out]; exact .inl rfl)
    have GPZ : Hid (p.p.size ≤ 2147483647) := Lib.hid (by rw [← HPE.out]; show (0 : Nat) ≤ _; omega)
    have GQZ : Hid (q.p.size ≤ 2147483647) := Lib.hid (by rw [← HQE.out]; show (0 : Nat) ≤ _; omega)
    have GRZ : Hid (r.p.size ≤ 2147483647) := Lib.hid (by rw [← HRE.out]; show (0 : Nat) ≤ _; omega)
    have HTP := Lib.hid (show T.tilde ⟨6, 3, x.a, x.b, x.c, ⟨#[]⟩⟩ p = true by rw [← HPE.out]; exact tilde_patch 6 x.a x.b x.c)
    have HCP0 := Lib.hid (show T.caret ⟨7, 3, x.a, x.b, x.c, ⟨#[]⟩⟩ p = (decide (0 < x.a) || decide (0 < x.b)) by rw [← HPE.out]; exact caret_patch 7 x.a x.b x.c)
    have HTQ := Lib.hid (show T.tilde ⟨6, 3, x.a, x.b, x.c, ⟨#[]⟩⟩ q = false by rw [← HQE.out]; exact tilde_minor 6 x.a x.b x.c HZ.out)
    have HCQ0 := Lib.hid (show T.caret ⟨7, 3, x.a, x.b, x.c, ⟨#[]⟩⟩ q = decide (0 < x.a) by rw [← HQE.out]; exact caret_minor 7 x.a x.b x.c)
    have HTR := Lib.hid (show T.tilde ⟨6, 3, x.a, x.b, x.c, ⟨#[]⟩⟩ r = false by rw [← HRE.out]; exact tilde_major 6 x.a x.b x.c HZ.out)
    have HCRR := Lib.hid (show T.caret ⟨7, 3, x.a, x.b, x.c, ⟨#[]⟩⟩ r = false by rw [← HRE.out]; exact caret_major 7 x.a x.b x.c)
    clear u3 u4 u5
    go_upto_region 7 with fail
    by_cases hA : 0 < x.a
    · have HCPP := Lib.hid (show T.caret ⟨7, 3, x.a, x.b, x.c, ⟨#[]⟩⟩ p = true by rw [HCP0.out]; simp [hA])
      have HCQQ := Lib.hid (show T.caret ⟨7, 3, x.a, x.b, x.c, ⟨#[]⟩⟩ q = true by rw [HCQ0.out]; simp [hA])
      refine wp_region_held_drew (S := (fun w' => w'.cell? ⟨w.heap.size, 0, none⟩ = some (.int .u64 x.a) ∧ w'.cell? ⟨w.heap.size, 1, none⟩ = some (.int .u64 x.b) ∧ w'.cell? ⟨w.heap.size, 2, none⟩ = some (.int .u64 x.c) ∧ w'.cell? ⟨w.heap.size, 3, none⟩ = some (.string ⟨#[]⟩) ∧ w'.cell? ⟨w.heap.size, 4, none⟩ = some (.string ⟨#[]⟩) ∧ w'.cell? ⟨N3, 0, none⟩ = some (.int .u64 p.a) ∧ w'.cell? ⟨N3, 1, none⟩ = some (.int .u64 p.b) ∧ w'.cell? ⟨N3, 2, none⟩ = some (.int .u64 p.c) ∧ w'.cell? ⟨N3, 3, none⟩ = some (.string p.p) ∧ w'.cell? ⟨N3, 4, none⟩ = some (.string p.m) ∧ w'.cell? ⟨N4, 0, none⟩ = some (.int .u64 q.a) ∧ w'.cell? ⟨N4, 1, none⟩ = some (.int .u64 q.b) ∧ w'.cell? ⟨N4, 2, none⟩ = some (.int .u64 q.c) ∧ w'.cell? ⟨N4, 3, none⟩ = some (.string q.p) ∧ w'.cell? ⟨N4, 4, none⟩ = some (.string q.m) ∧ w'.cell? ⟨N5, 0, none⟩ = some (.int .u64 r.a) ∧ w'.cell? ⟨N5, 1, none⟩ = some (.int .u64 r.b) ∧ w'.cell? ⟨N5, 2, none⟩ = some (.int .u64 r.c) ∧ w'.cell? ⟨N5, 3, none⟩ = some (.string r.p) ∧ w'.cell? ⟨N5, 4, none⟩ = some (.string r.m))) (by kernel_rfl) ?_ (fun hHeld => ?_)
      · ((try dsimp only); all_goals (refine ⟨?_, ?_, ?_, ?_, ?_, ?_, ?_, ?_, ?_, ?_, ?_, ?_, ?_, ?_, ?_, ?_, ?_, ?_, ?_, ?_⟩ <;> (repeat (first | with_reducible assumption | with_reducible apply cell_alloc_some | with_reducible apply cell_drew_some | with_reducible refine cell_below (by with_reducible assumption) ?_ | with_reducible refine cell_set_other (by omega) ?_))))
      refine wpAnyH_take (i := 0) (v := ?_) rfl (by kernel_rfl) (by kernel_rfl) (by kernel_rfl) (fun _ _ _ h => h) (Or.inl ⟨by kernel_rfl, ?_⟩) (by assumption) ?_
      rotate_left
      · (intro w hSw; (try dsimp only at hSw); go_simp <;> with_reducible rfl)
      try (simp only [Act.put]; (try simp only [List.setIfInBounds_toArray]); (try simp only [List.set_cons_succ]); (try simp only [List.set_cons_zero]))
      refine wpAnyH_take (i := 1) (v := ?_) rfl (by kernel_rfl) (by kernel_rfl) (by kernel_rfl) (fun _ _ _ h => h) (Or.inl ⟨by kernel_rfl, ?_⟩) (by assumption) ?_
      rotate_left
      · (intro w hSw; (try dsimp only at hSw); go_simp <;> with_reducible rfl)
      try (simp only [Act.put]; (try simp only [List.setIfInBounds_toArray]); (try simp only [List.set_cons_succ]); (try simp only [List.set_cons_zero]))
      refine wpAnyH_ready (rs := [2]) (by kernel_rfl) (by simp) ?_
      refine AllReadyH.cons rfl (fun K hK => ?_) AllReadyH.nil
      go_simp
      (go_at_call 11; (with_reducible refine (stH_6 x.a x.b x.c p true _ (HNX.out.below (by (repeat (first | exact Below.refl _ _ | apply Below.drew | (apply below_alloc_on (Nat.le_refl _)))))) GP GPZ HTP).mono ?_); rintro e w31 ⟨rfl, hb⟩; have HB1 := Lib.hid (Below.up (w := wx) (by (repeat (first | exact Below.refl _ _ | apply Below.drew | (apply below_alloc_on (Nat.le_refl _))))) hb))
      refine hK.out _ _ ?_ (fun hHeld => ?_)
      · ((try dsimp only); all_goals (refine ⟨?_, ?_, ?_, ?_, ?_, ?_, ?_, ?_, ?_, ?_, ?_, ?_, ?_, ?_, ?_, ?_, ?_, ?_, ?_, ?_⟩ <;> (repeat (first | with_reducible assumption | with_reducible apply cell_alloc_some | with_reducible apply cell_drew_some | with_reducible refine cell_below (by with_reducible assumption) ?_ | with_reducible refine cell_set_other (by omega) ?_))))
      clear hK K
      try (simp only [Act.put]; (try simp only [List.setIfInBounds_toArray]); (try simp only [List.set_cons_succ]); (try simp only [List.set_cons_zero]))
      refine wpAnyH_ready (rs := [3]) (by kernel_rfl) (by simp) ?_
      refine AllReadyH.cons rfl (fun K hK => ?_) AllReadyH.nil
      go_simp
      refine hK.out _ _ ?_ (fun hHeld => ?_)
      · ((try dsimp only); all_goals (refine ⟨?_, ?_, ?_, ?_, ?_, ?_, ?_, ?_, ?_, ?_, ?_, ?_, ?_, ?_, ?_, ?_, ?_, ?_, ?_, ?_⟩ <;> (repeat (first | with_reducible assumption | with_reducible apply cell_alloc_some | with_reducible apply cell_drew_some | with_reducible refine cell_below (by with_reducible assumption) ?_ | with_reducible refine cell_set_other (by omega) ?_))))
      clear hK K
      try (simp only [Act.put]; (try simp only [List.setIfInBounds_toArray]); (try simp only [List.set_cons_succ]); (try simp only [List.set_cons_zero]))
      refine wpAnyH_take (i := 4) (v := ?_) rfl (by kernel_rfl) (by kernel_rfl) (by kernel_rfl) (fun _ _ _ h => h) (Or.inl ⟨by kernel_rfl, ?_⟩) (by assumption) ?_
      rotate_left
      · (intro w hSw; (try dsimp only at hSw); go_simp <;> with_reducible rfl)
      try (simp only [Act.put]; (try simp only [List.setIfInBounds_toArray]); (try simp only [List.set_cons_succ]); (try simp only [List.set_cons_zero]))
      refine wpAnyH_take (i := 5) (v := ?_) rfl (by kernel_rfl) (by kernel_rfl) (by kernel_rfl) (fun _ _ _ h => h) (Or.inl ⟨by kernel_rfl, ?_⟩) (by assumption) ?_
      rotate_left
      · (intro w hSw; (try dsimp only at hSw); go_simp <;> with_reducible rfl)
      try (simp only [Act.put]; (try simp only [List.setIfInBounds_toArray]); (try simp only [List.set_cons_succ]); (try simp only [List.set_cons_zero]))
      refine wpAnyH_take (i := 7) (v := ?_) rfl (by kernel_rfl) (by kernel_rfl) (by kernel_rfl) (fun _ _ _ h => h) (Or.inl ⟨by kernel_rfl, ?_⟩) (by assumption) ?_
      rotate_left
      · (intro w hSw; (try dsimp only at hSw); go_simp <;> with_reducible rfl)
      try (simp only [Act.put]; (try simp only [List.setIfInBounds_toArray]); (try simp only [List.set_cons_succ]); (try simp only [List.set_cons_zero]))
      refine wpAnyH_take (i := 8) (v := ?_) rfl (by kernel_rfl) (by kernel_rfl) (by kernel_rfl) (fun _ _ _ h => h) (Or.inl ⟨by kernel_rfl, ?_⟩) (by assumption) ?_
      rotate_left
      · (intro w hSw; (try dsimp only at hSw); go_simp <;> with_reducible rfl)
      try (simp only [Act.put]; (try simp only [List.setIfInBounds_toArray]); (try simp only [List.set_cons_succ]); (try simp only [List.set_cons_zero]))
      refine wpAnyH_take (i := 9) (v := ?_) rfl (by kernel_rfl) (by kernel_rfl) (by kernel_rfl) (fun _ _ _ h => h) (Or.inl ⟨by kernel_rfl, ?_⟩) (by assumption) ?_
      rotate_left
      · (intro w hSw; (try dsimp only at hSw); go_simp <;> with_reducible rfl)
      try (simp only [Act.put]; (try simp only [List.setIfInBounds_toArray]); (try simp only [List.set_cons_succ]); (try simp only [List.set_cons_zero]))
      refine wpAnyH_ready (rs := [6]) (by kernel_rfl) (by simp) ?_
      refine AllReadyH.cons rfl (fun K hK => ?_) AllReadyH.nil
      go_simp
      (go_at_call 11; (with_reducible refine (stH_7 x.a x.b x.c p true _ (HNX.out.below (Below.up HB1.out (by (repeat (first | exact Below.refl _ _ | apply Below.drew | (apply below_alloc_on (Nat.le_refl _))))))) GP GPZ HCPP).mono ?_); rintro e w32 ⟨rfl, hb⟩; have HB2 := Lib.hid (Below.up HB1.out (Below.up (by (repeat (first | exact Below.refl _ _ | apply Below.drew | (apply below_alloc_on (Nat.le_refl _))))) hb)))
      refine hK.out _ _ ?_ (fun hHeld => ?_)
      · ((try dsimp only); all_goals (refine ⟨?_, ?_, ?_, ?_, ?_, ?_, ?_, ?_, ?_, ?_, ?_, ?_, ?_, ?_, ?_, ?_, ?_, ?_, ?_, ?_⟩ <;> (repeat (first | with_reducible assumption | with_reducible apply cell_alloc_some | with_reducible apply cell_drew_some | with_reducible refine cell_below (by with_reducible assumption) ?_ | with_reducible refine cell_set_other (by omega) ?_))))
      clear hK K
      try (simp only [Act.put]; (try simp only [List.setIfInBounds_toArray]); (try simp only [List.set_cons_succ]); (try simp only [List.set_cons_zero]))
      refine wpAnyH_ready (rs := [10]) (by kernel_rfl) (by simp) ?_
      refine AllReadyH.cons rfl (fun K hK => ?_) AllReadyH.nil
      go_simp
      refine hK.out _ _ ?_ (fun hHeld => ?_)
      · ((try dsimp only); all_goals (refine ⟨?_, ?_, ?_, ?_, ?_, ?_, ?_, ?_, ?_, ?_, ?_, ?_, ?_, ?_, ?_, ?_, ?_, ?_, ?_, ?_⟩ <;> (repeat (first | with_reducible assumption | with_reducible apply cell_alloc_some | with_reducible apply cell_drew_some | with_reducible refine cell_below (by with_reducible assumption) ?_ | with_reducible refine cell_set_other (by omega) ?_))))
      clear hK K
      try (simp only [Act.put]; (try simp only [List.setIfInBounds_toArray]); (try simp only [List.set_cons_succ]); (try simp only [List.set_cons_zero]))
      refine wpAnyH_take (i := 11) (v := undef) rfl (by kernel_rfl) (by kernel_rfl) (by kernel_rfl) (fun _ _ _ h => h) (Or.inr ⟨by kernel_rfl, Eq.refl undef⟩) (by assumption) ?_
      try (simp only [Act.put]; (try simp only [List.setIfInBounds_toArray]); (try simp only [List.set_cons_succ]); (try simp only [List.set_cons_zero]))
      refine wpAnyH_take (i := 12) (v := undef) rfl (by kernel_rfl) (by kernel_rfl) (by kernel_rfl) (fun _ _ _ h => h) (Or.inr ⟨by kernel_rfl, Eq.refl undef⟩) (by assumption) ?_
      try (simp only [Act.put]; (try simp only [List.setIfInBounds_toArray]); (try simp only [List.set_cons_succ]); (try simp only [List.set_cons_zero]))
      refine wpAnyH_take (i := 13) (v := undef) rfl (by kernel_rfl) (by kernel_rfl) (by kernel_rfl) (fun _ _ _ h => h) (Or.inr ⟨by kernel_rfl, Eq.refl undef⟩) (by assumption) ?_
      try (simp only [Act.put]; (try simp only [List.setIfInBounds_toArray]); (try simp only [List.set_cons_succ]); (try simp only [List.set_cons_zero]))
      refine wpAnyH_ready (rs := [14]) (by kernel_rfl) (by simp) ?_
      refine AllReadyH.cons rfl (fun K hK => ?_) AllReadyH.nil
      go_simp
      refine hK.out _ _ ?_ (fun hHeld => ?_)
      · ((try dsimp only); all_goals (refine ⟨?_, ?_, ?_, ?_, ?_, ?_, ?_, ?_, ?_, ?_, ?_, ?_, ?_, ?_, ?_, ?_, ?_, ?_, ?_, ?_⟩ <;> (repeat (first | with_reducible assumption | with_reducible apply cell_alloc_some | with_reducible apply cell_drew_some | with_reducible refine cell_below (by with_reducible assumption) ?_ | with_reducible refine cell_set_other (by omega) ?_))))
      clear hK K
      try (simp only [Act.put]; (try simp only [List.setIfInBounds_toArray]); (try simp only [List.set_cons_succ]); (try simp only [List.set_cons_zero]))
      refine wpAnyH_ready (rs := [15]) (by kernel_rfl) (by simp) ?_
      refine AllReadyH.cons rfl (fun K hK => ?_) AllReadyH.nil
      go_simp
      refine hK.out _ _ ?_ (fun hHeld => ?_)
      · ((try dsimp only); all_goals (refine ⟨?_, ?_, ?_, ?_, ?_, ?_, ?_, ?_, ?_, ?_, ?_, ?_, ?_, ?_, ?_, ?_, ?_, ?_, ?_, ?_⟩ <;> (repeat (first | with_reducible assumption | with_reducible apply cell_alloc_some | with_reducible apply cell_drew_some | with_reducible refine cell_below (by with_reducible assumption) ?_ | with_reducible refine cell_set_other (by omega) ?_))))
      clear hK K
      try (simp only [Act.put]; (try simp only [List.setIfInBounds_toArray]); (try simp only [List.set_cons_succ]); (try simp only [List.set_cons_zero]))
      refine wpAnyH_ready (rs := [16]) (by kernel_rfl) (by simp) ?_
      refine AllReadyH.cons rfl (fun K hK => ?_) AllReadyH.nil
      go_simp
      refine hK.out _ _ ?_ (fun hHeld => ?_)
      · ((try dsimp only); all_goals (refine ⟨?_, ?_, ?_, ?_, ?_, ?_, ?_, ?_, ?_, ?_, ?_, ?_, ?_, ?_, ?_, ?_, ?_, ?_, ?_, ?_⟩ <;> (repeat (first | with_reducible assumption | with_reducible apply cell_alloc_some | with_reducible apply cell_drew_some | with_reducible refine cell_below (by with_reducible assumption) ?_ | with_reducible refine cell_set_other (by omega) ?_))))
      clear hK K
      try (simp only [Act.put]; (try simp only [List.setIfInBounds_toArray]); (try simp only [List.set_cons_succ]); (try simp only [List.set_cons_zero]))
      refine wpAnyH_ready (rs := [17]) (by kernel_rfl) (by simp) ?_
      refine AllReadyH.cons rfl (fun K hK => ?_) AllReadyH.nil
      go_simp
      refine hK.out _ _ ?_ (fun hHeld => ?_)
      · ((try dsimp only); all_goals (refine ⟨?_, ?_, ?_, ?_, ?_, ?_, ?_, ?_, ?_, ?_, ?_, ?_, ?_, ?_, ?_, ?_, ?_, ?_, ?_, ?_⟩ <;> (repeat (first | with_reducible assumption | with_reducible apply cell_alloc_some | with_reducible apply cell_drew_some | with_reducible refine cell_below (by with_reducible assumption) ?_ | with_reducible refine cell_set_other (by omega) ?_))))
      clear hK K
      try (simp only [Act.put]; (try simp only [List.setIfInBounds_toArray]); (try simp only [List.set_cons_succ]); (try simp only [List.set_cons_zero]))
      refine wpAnyH_take (i := 18) (v := ?_) rfl (by kernel_rfl) (by kernel_rfl) (by kernel_rfl) (fun _ _ _ h => h) (Or.inl ⟨by kernel_rfl, ?_⟩) (by assumption) ?_
      rotate_left
      · (intro w hSw; (try dsimp only at hSw); go_simp <;> with_reducible rfl)
      try (simp only [Act.put]; (try simp only [List.setIfInBounds_toArray]); (try simp only [List.set_cons_succ]); (try simp only [List.set_cons_zero]))
      refine wpAnyH_take (i := 19) (v := ?_) rfl (by kernel_rfl) (by kernel_rfl) (by kernel_rfl) (fun _ _ _ h => h) (Or.inl ⟨by kernel_rfl, ?_⟩) (by assumption) ?_
      rotate_left
      · (intro w hSw; (try dsimp only at hSw); go_simp <;> with_reducible rfl)
      try (simp only [Act.put]; (try simp only [List.setIfInBounds_toArray]); (try simp only [List.set_cons_succ]); (try simp only [List.set_cons_zero]))
      refine wpAnyH_ready (rs := [20]) (by kernel_rfl) (by simp) ?_
      refine AllReadyH.cons rfl (fun K hK => ?_) AllReadyH.nil
      go_simp
      (go_at_call 11; (with_reducible refine (stH_6 x.a x.b x.c q false _ (HNX.out.below (Below.up HB2.out (by (repeat (first | exact Below.refl _ _ | apply Below.drew | (apply below_alloc_on (Nat.le_refl _))))))) GQ GQZ HTQ).mono ?_); rintro e w33 ⟨rfl, hb⟩; have HB3 := Lib.hid (Below.up HB2.out (Below.up (by (repeat (first | exact Below.refl _ _ | apply Below.drew | (apply below_alloc_on (Nat.le_refl _))))) hb)))
      refine hK.out _ _ ?_ (fun hHeld => ?_)
      · ((try dsimp only); all_goals (refine ⟨?_, ?_, ?_, ?_, ?_, ?_, ?_, ?_, ?_, ?_, ?_, ?_, ?_, ?_, ?_, ?_, ?_, ?_, ?_, ?_⟩ <;> (repeat (first | with_reducible assumption | with_reducible apply cell_alloc_some | with_reducible apply cell_drew_some | with_reducible refine cell_below (by with_reducible assumption) ?_ | with_reducible refine cell_set_other (by omega) ?_))))
      clear hK K
      try (simp only [Act.put]; (try simp only [List.setIfInBounds_toArray]); (try simp only [List.set_cons_succ]); (try simp only [List.set_cons_zero]))
      refine wpAnyH_ready (rs := [21]) (by kernel_rfl) (by simp) ?_
      refine AllReadyH.cons rfl (fun K hK => ?_) AllReadyH.nil
      go_simp
      refine hK.out _ _ ?_ (fun hHeld => ?_)
      · ((try dsimp only); all_goals (refine ⟨?_, ?_, ?_, ?_, ?_, ?_, ?_, ?_, ?_, ?_, ?_, ?_, ?_, ?_, ?_, ?_, ?_, ?_, ?_, ?_⟩ <;> (repeat (first | with_reducible assumption | with_reducible apply cell_alloc_some | with_reducible apply cell_drew_some | with_reducible refine cell_below (by with_reducible assumption) ?_ | with_reducible refine cell_set_other (by omega) ?_))))
      clear hK K
      try (simp only [Act.put]; (try simp only [List.setIfInBounds_toArray]); (try simp only [List.set_cons_succ]); (try simp only [List.set_cons_zero]))
      refine wpAnyH_ready (rs := [22]) (by kernel_rfl) (by simp) ?_
      refine AllReadyH.cons rfl (fun K hK => ?_) AllReadyH.nil
      go_simp
      refine hK.out _ _ ?_ (fun hHeld => ?_)
      · ((try dsimp only); all_goals (refine ⟨?_, ?_, ?_, ?_, ?_, ?_, ?_, ?_, ?_, ?_, ?_, ?_, ?_, ?_, ?_, ?_, ?_, ?_, ?_, ?_⟩ <;> (repeat (first | with_reducible assumption | with_reducible apply cell_alloc_some | with_reducible apply cell_drew_some | with_reducible refine cell_below (by with_reducible assumption) ?_ | with_reducible refine cell_set_other (by omega) ?_))))
      clear hK K
      try (simp only [Act.put]; (try simp only [List.setIfInBounds_toArray]); (try simp only [List.set_cons_succ]); (try simp only [List.set_cons_zero]))
      refine wpAnyH_ready (rs := [23]) (by kernel_rfl) (by simp) ?_
      refine AllReadyH.cons rfl (fun K hK => ?_) AllReadyH.nil
      go_simp
      refine hK.out _ _ ?_ (fun hHeld => ?_)
      · ((try dsimp only); all_goals (refine ⟨?_, ?_, ?_, ?_, ?_, ?_, ?_, ?_, ?_, ?_, ?_, ?_, ?_, ?_, ?_, ?_, ?_, ?_, ?_, ?_⟩ <;> (repeat (first | with_reducible assumption | with_reducible apply cell_alloc_some | with_reducible apply cell_drew_some | with_reducible refine cell_below (by with_reducible assumption) ?_ | with_reducible refine cell_set_other (by omega) ?_))))
      clear hK K
      try (simp only [Act.put]; (try simp only [List.setIfInBounds_toArray]); (try simp only [List.set_cons_succ]); (try simp only [List.set_cons_zero]))
      refine wpAnyH_take (i := 24) (v := ?_) rfl (by kernel_rfl) (by kernel_rfl) (by kernel_rfl) (fun _ _ _ h => h) (Or.inl ⟨by kernel_rfl, ?_⟩) (by assumption) ?_
      rotate_left
      · (intro w hSw; (try dsimp only at hSw); go_simp <;> with_reducible rfl)
      try (simp only [Act.put]; (try simp only [List.setIfInBounds_toArray]); (try simp only [List.set_cons_succ]); (try simp only [List.set_cons_zero]))
      refine wpAnyH_take (i := 25) (v := ?_) rfl (by kernel_rfl) (by kernel_rfl) (by kernel_rfl) (fun _ _ _ h => h) (Or.inl ⟨by kernel_rfl, ?_⟩) (by assumption) ?_
      rotate_left
      · (intro w hSw; (try dsimp only at hSw); go_simp <;> with_reducible rfl)
      try (simp only [Act.put]; (try simp only [List.setIfInBounds_toArray]); (try simp only [List.set_cons_succ]); (try simp only [List.set_cons_zero]))
      refine wpAnyH_take (i := 27) (v := ?_) rfl (by kernel_rfl) (by kernel_rfl) (by kernel_rfl) (fun _ _ _ h => h) (Or.inl ⟨by kernel_rfl, ?_⟩) (by assumption) ?_
      rotate_left
      · (intro w hSw; (try dsimp only at hSw); go_simp <;> with_reducible rfl)
      try (simp only [Act.put]; (try simp only [List.setIfInBounds_toArray]); (try simp only [List.set_cons_succ]); (try simp only [List.set_cons_zero]))
      refine wpAnyH_take (i := 28) (v := ?_) rfl (by kernel_rfl) (by kernel_rfl) (by kernel_rfl) (fun _ _ _ h => h) (Or.inl ⟨by kernel_rfl, ?_⟩) (by assumption) ?_
      rotate_left
      · (intro w hSw; (try dsimp only at hSw); go_simp <;> with_reducible rfl)
      try (simp only [Act.put]; (try simp only [List.setIfInBounds_toArray]); (try simp only [List.set_cons_succ]); (try simp only [List.set_cons_zero]))
      refine wpAnyH_take (i := 29) (v := ?_) rfl (by kernel_rfl) (by kernel_rfl) (by kernel_rfl) (fun _ _ _ h => h) (Or.inl ⟨by kernel_rfl, ?_⟩) (by assumption) ?_
      rotate_left
      · (intro w hSw; (try dsimp only at hSw); go_simp <;> with_reducible rfl)
      try (simp only [Act.put]; (try simp only [List.setIfInBounds_toArray]); (try simp only [List.set_cons_succ]); (try simp only [List.set_cons_zero]))
      refine wpAnyH_ready (rs := [26]) (by kernel_rfl) (by simp) ?_
      refine AllReadyH.cons rfl (fun K hK => ?_) AllReadyH.nil
      go_simp
      (go_at_call 11; (with_reducible refine (stH_7 x.a x.b x.c q true _ (HNX.out.below (Below.up HB3.out (by (repeat (first | exact Below.refl _ _ | apply Below.drew | (apply below_alloc_on (Nat.le_refl _))))))) GQ GQZ HCQQ).mono ?_); rintro e w34 ⟨rfl, hb⟩; have HB4 := Lib.hid (Below.up HB3.out (Below.up (by (repeat (first | exact Below.refl _ _ | apply Below.drew | (apply below_alloc_on (Nat.le_refl _))))) hb)))
      refine hK.out _ _ ?_ (fun hHeld => ?_)
      · ((try dsimp only); all_goals (refine ⟨?_, ?_, ?_, ?_, ?_, ?_, ?_, ?_, ?_, ?_, ?_, ?_, ?_, ?_, ?_, ?_, ?_, ?_, ?_, ?_⟩ <;> (repeat (first | with_reducible assumption | with_reducible apply cell_alloc_some | with_reducible apply cell_drew_some | with_reducible refine cell_below (by with_reducible assumption) ?_ | with_reducible refine cell_set_other (by omega) ?_))))
      clear hK K
      try (simp only [Act.put]; (try simp only [List.setIfInBounds_toArray]); (try simp only [List.set_cons_succ]); (try simp only [List.set_cons_zero]))
      refine wpAnyH_ready (rs := [30]) (by kernel_rfl) (by simp) ?_
      refine AllReadyH.cons rfl (fun K hK => ?_) AllReadyH.nil
      go_simp
      refine hK.out _ _ ?_ (fun hHeld => ?_)
      · ((try dsimp only); all_goals (refine ⟨?_, ?_, ?_, ?_, ?_, ?_, ?_, ?_, ?_, ?_, ?_, ?_, ?_, ?_, ?_, ?_, ?_, ?_, ?_, ?_⟩ <;> (repeat (first | with_reducible assumption | with_reducible apply cell_alloc_some | with_reducible apply cell_drew_some | with_reducible refine cell_below (by with_reducible assumption) ?_ | with_reducible refine cell_set_other (by omega) ?_))))
      clear hK K
      try (simp only [Act.put]; (try simp only [List.setIfInBounds_toArray]); (try simp only [List.set_cons_succ]); (try simp only [List.set_cons_zero]))
      refine wpAnyH_ready (rs := [31]) (by kernel_rfl) (by simp) ?_
      refine AllReadyH.cons rfl (fun K hK => ?_) AllReadyH.nil
      go_simp
      refine hK.out _ _ ?_ (fun hHeld => ?_)
      · ((try dsimp only); all_goals (refine ⟨?_, ?_, ?_, ?_, ?_, ?_, ?_, ?_, ?_, ?_, ?_, ?_, ?_, ?_, ?_, ?_, ?_, ?_, ?_, ?_⟩ <;> (repeat (first | with_reducible assumption | with_reducible apply cell_alloc_some | with_reducible apply cell_drew_some | with_reducible refine cell_below (by with_reducible assumption) ?_ | with_reducible refine cell_set_other (by omega) ?_))))
      clear hK K
      try (simp only [Act.put]; (try simp only [List.setIfInBounds_toArray]); (try simp only [List.set_cons_succ]); (try simp only [List.set_cons_zero]))
      refine wpAnyH_ready (rs := [32]) (by kernel_rfl) (by simp) ?_
      refine AllReadyH.cons rfl (fun K hK => ?_) AllReadyH.nil
      go_simp
      refine hK.out _ _ ?_ (fun hHeld => ?_)
      · ((try dsimp only); all_goals (refine ⟨?_, ?_, ?_, ?_, ?_, ?_, ?_, ?_, ?_, ?_, ?_, ?_, ?_, ?_, ?_, ?_, ?_, ?_, ?_, ?_⟩ <;> (repeat (first | with_reducible assumption | with_reducible apply cell_alloc_some | with_reducible apply cell_drew_some | with_reducible refine cell_below (by with_reducible assumption) ?_ | with_reducible refine cell_set_other (by omega) ?_))))
      clear hK K
      try (simp only [Act.put]; (try simp only [List.setIfInBounds_toArray]); (try simp only [List.set_cons_succ]); (try simp only [List.set_cons_zero]))
      refine wpAnyH_take (i := 33) (v := ?_) rfl (by kernel_rfl) (by kernel_rfl) (by kernel_rfl) (fun _ _ _ h => h) (Or.inl ⟨by kernel_rfl, ?_⟩) (by assumption) ?_
      rotate_left
      · (intro w hSw; (try dsimp only at hSw); go_simp <;> with_reducible rfl)
      try (simp only [Act.put]; (try simp only [List.setIfInBounds_toArray]); (try simp only [List.set_cons_succ]); (try simp only [List.set_cons_zero]))
      refine wpAnyH_take (i := 34) (v := ?_) rfl (by kernel_rfl) (by kernel_rfl) (by kernel_rfl) (fun _ _ _ h => h) (Or.inl ⟨by kernel_rfl, ?_⟩) (by assumption) ?_
      rotate_left
      · (intro w hSw; (try dsimp only at hSw); go_simp <;> with_reducible rfl)
      try (simp only [Act.put]; (try simp only [List.setIfInBounds_toArray]); (try simp only [List.set_cons_succ]); (try simp only [List.set_cons_zero]))
      refine wpAnyH_ready (rs := [35]) (by kernel_rfl) (by simp) ?_
      refine AllReadyH.cons rfl (fun K hK => ?_) AllReadyH.nil
      go_simp
      (go_at_call 11; (with_reducible refine (stH_6 x.a x.b x.c r false _ (HNX.out.below (Below.up HB4.out (by (repeat (first | exact Below.refl _ _ | apply Below.drew | (apply below_alloc_on (Nat.le_refl _))))))) GR GRZ HTR).mono ?_); rintro e w35 ⟨rfl, hb⟩; have HB5 := Lib.hid (Below.up HB4.out (Below.up (by (repeat (first | exact Below.refl _ _ | apply Below.drew | (apply below_alloc_on (Nat.le_refl _))))) hb)))
      refine hK.out _ _ ?_ (fun hHeld => ?_)
      · ((try dsimp only); all_goals (refine ⟨?_, ?_, ?_, ?_, ?_, ?_, ?_, ?_, ?_, ?_, ?_, ?_, ?_, ?_, ?_, ?_, ?_, ?_, ?_, ?_⟩ <;> (repeat (first | with_reducible assumption | with_reducible apply cell_alloc_some | with_reducible apply cell_drew_some | with_reducible refine cell_below (by with_reducible assumption) ?_ | with_reducible refine cell_set_other (by omega) ?_))))
      clear hK K
      try (simp only [Act.put]; (try simp only [List.setIfInBounds_toArray]); (try simp only [List.set_cons_succ]); (try simp only [List.set_cons_zero]))
      refine wpAnyH_ready (rs := [36]) (by kernel_rfl) (by simp) ?_
      refine AllReadyH.cons rfl (fun K hK => ?_) AllReadyH.nil
      go_simp
      refine hK.out _ _ ?_ (fun hHeld => ?_)
      · ((try dsimp only); all_goals (refine ⟨?_, ?_, ?_, ?_, ?_, ?_, ?_, ?_, ?_, ?_, ?_, ?_, ?_, ?_, ?_, ?_, ?_, ?_, ?_, ?_⟩ <;> (repeat (first | with_reducible assumption | with_reducible apply cell_alloc_some | with_reducible apply cell_drew_some | with_reducible refine cell_below (by with_reducible assumption) ?_ | with_reducible refine cell_set_other (by omega) ?_))))
      clear hK K
      try (simp only [Act.put]; (try simp only [List.setIfInBounds_toArray]); (try simp only [List.set_cons_succ]); (try simp only [List.set_cons_zero]))
      refine wpAnyH_ready (rs := [37]) (by kernel_rfl) (by simp) ?_
      refine AllReadyH.cons rfl (fun K hK => ?_) AllReadyH.nil
      go_simp
      refine hK.out _ _ ?_ (fun hHeld => ?_)
      · ((try dsimp only); all_goals (refine ⟨?_, ?_, ?_, ?_, ?_, ?_, ?_, ?_, ?_, ?_, ?_, ?_, ?_, ?_, ?_, ?_, ?_, ?_, ?_, ?_⟩ <;> (repeat (first | with_reducible assumption | with_reducible apply cell_alloc_some | with_reducible apply cell_drew_some | with_reducible refine cell_below (by with_reducible assumption) ?_ | with_reducible refine cell_set_other (by omega) ?_))))
      clear hK K
      try (simp only [Act.put]; (try simp only [List.setIfInBounds_toArray]); (try simp only [List.set_cons_succ]); (try simp only [List.set_cons_zero]))
      refine wpAnyH_ready (rs := [38]) (by kernel_rfl) (by simp) ?_
      refine AllReadyH.cons rfl (fun K hK => ?_) AllReadyH.nil
      go_simp
      refine hK.out _ _ ?_ (fun hHeld => ?_)
      · ((try dsimp only); all_goals (refine ⟨?_, ?_, ?_, ?_, ?_, ?_, ?_, ?_, ?_, ?_, ?_, ?_, ?_, ?_, ?_, ?_, ?_, ?_, ?_, ?_⟩ <;> (repeat (first | with_reducible assumption | with_reducible apply cell_alloc_some | with_reducible apply cell_drew_some | with_reducible refine cell_below (by with_reducible assumption) ?_ | with_reducible refine cell_set_other (by omega) ?_))))
      clear hK K
      try (simp only [Act.put]; (try simp only [List.setIfInBounds_toArray]); (try simp only [List.set_cons_succ]); (try simp only [List.set_cons_zero]))
      refine wpAnyH_take (i := 39) (v := ?_) rfl (by kernel_rfl) (by kernel_rfl) (by kernel_rfl) (fun _ _ _ h => h) (Or.inl ⟨by kernel_rfl, ?_⟩) (by assumption) ?_
      rotate_left
      · (intro w hSw; (try dsimp only at hSw); go_simp <;> with_reducible rfl)
      try (simp only [Act.put]; (try simp only [List.setIfInBounds_toArray]); (try simp only [List.set_cons_succ]); (try simp only [List.set_cons_zero]))
      refine wpAnyH_take (i := 40) (v := ?_) rfl (by kernel_rfl) (by kernel_rfl) (by kernel_rfl) (fun _ _ _ h => h) (Or.inl ⟨by kernel_rfl, ?_⟩) (by assumption) ?_
      rotate_left
      · (intro w hSw; (try dsimp only at hSw); go_simp <;> with_reducible rfl)
      try (simp only [Act.put]; (try simp only [List.setIfInBounds_toArray]); (try simp only [List.set_cons_succ]); (try simp only [List.set_cons_zero]))
      refine wpAnyH_ready (rs := [41]) (by kernel_rfl) (by simp) ?_
      refine AllReadyH.cons rfl (fun K hK => ?_) AllReadyH.nil
      go_simp
      (go_at_call 11; (with_reducible refine (stH_7 x.a x.b x.c r false _ (HNX.out.below (Below.up HB5.out (by (repeat (first | exact Below.refl _ _ | apply Below.drew | (apply below_alloc_on (Nat.le_refl _))))))) GR GRZ HCRR).mono ?_); rintro e w36 ⟨rfl, hb⟩; have HB6 := Lib.hid (Below.up HB5.out (Below.up (by (repeat (first | exact Below.refl _ _ | apply Below.drew | (apply below_alloc_on (Nat.le_refl _))))) hb)))
      refine hK.out _ _ ?_ (fun hHeld => ?_)
      · ((try dsimp only); all_goals (refine ⟨?_, ?_, ?_, ?_, ?_, ?_, ?_, ?_, ?_, ?_, ?_, ?_, ?_, ?_, ?_, ?_, ?_, ?_, ?_, ?_⟩ <;> (repeat (first | with_reducible assumption | with_reducible apply cell_alloc_some | with_reducible apply cell_drew_some | with_reducible refine cell_below (by with_reducible assumption) ?_ | with_reducible refine cell_set_other (by omega) ?_))))
      clear hK K
      try (simp only [Act.put]; (try simp only [List.setIfInBounds_toArray]); (try simp only [List.set_cons_succ]); (try simp only [List.set_cons_zero]))
      refine wpAnyH_ready (rs := [42]) (by kernel_rfl) (by simp) ?_
      refine AllReadyH.cons rfl (fun K hK => ?_) AllReadyH.nil
      go_simp
      refine hK.out _ _ ?_ (fun hHeld => ?_)
      · ((try dsimp only); all_goals (refine ⟨?_, ?_, ?_, ?_, ?_, ?_, ?_, ?_, ?_, ?_, ?_, ?_, ?_, ?_, ?_, ?_, ?_, ?_, ?_, ?_⟩ <;> (repeat (first | with_reducible assumption | with_reducible apply cell_alloc_some | with_reducible apply cell_drew_some | with_reducible refine cell_below (by with_reducible assumption) ?_ | with_reducible refine cell_set_other (by omega) ?_))))
      clear hK K
      try (simp only [Act.put]; (try simp only [List.setIfInBounds_toArray]); (try simp only [List.set_cons_succ]); (try simp only [List.set_cons_zero]))
      refine wpAnyH_ready (rs := [43]) (by kernel_rfl) (by simp) ?_
      refine AllReadyH.cons rfl (fun K hK => ?_) AllReadyH.nil
      go_simp
      refine hK.out _ _ ?_ (fun hHeld => ?_)
      · ((try dsimp only); all_goals (refine ⟨?_, ?_, ?_, ?_, ?_, ?_, ?_, ?_, ?_, ?_, ?_, ?_, ?_, ?_, ?_, ?_, ?_, ?_, ?_, ?_⟩ <;> (repeat (first | with_reducible assumption | with_reducible apply cell_alloc_some | with_reducible apply cell_drew_some | with_reducible refine cell_below (by with_reducible assumption) ?_ | with_reducible refine cell_set_other (by omega) ?_))))
      clear hK K
      try (simp only [Act.put]; (try simp only [List.setIfInBounds_toArray]); (try simp only [List.set_cons_succ]); (try simp only [List.set_cons_zero]))
      refine wpAnyH_ready (rs := [44]) (by kernel_rfl) (by simp) ?_
      refine AllReadyH.cons rfl (fun K hK => ?_) AllReadyH.nil
      go_simp
      refine hK.out _ _ ?_ (fun hHeld => ?_)
      · ((try dsimp only); all_goals (refine ⟨?_, ?_, ?_, ?_, ?_, ?_, ?_, ?_, ?_, ?_, ?_, ?_, ?_, ?_, ?_, ?_, ?_, ?_, ?_, ?_⟩ <;> (repeat (first | with_reducible assumption | with_reducible apply cell_alloc_some | with_reducible apply cell_drew_some | with_reducible refine cell_below (by with_reducible assumption) ?_ | with_reducible refine cell_set_other (by omega) ?_))))
      clear hK K
      try (simp only [Act.put]; (try simp only [List.setIfInBounds_toArray]); (try simp only [List.set_cons_succ]); (try simp only [List.set_cons_zero]))
      refine wpAnyH_done (by kernel_rfl) ?_ _
      go_wp2
      go_ret
      exact ⟨rfl, Below.up HBX.out (Below.up HB6.out (by (repeat (first | exact Below.refl _ _ | apply Below.drew | (apply below_alloc_on (Nat.le_refl _))))))⟩
    by_cases hB : 0 < x.b
    · have HCPP := Lib.hid (show T.caret ⟨7, 3, x.a, x.b, x.c, ⟨#[]⟩⟩ p = true by rw [HCP0.out]; simp [hB])
      have HCQQ := Lib.hid (show T.caret ⟨7, 3, x.a, x.b, x.c, ⟨#[]⟩⟩ q = false by rw [HCQ0.out]; exact decide_eq_false hA)
      refine wp_region_held_drew (S := (fun w' => w'.cell? ⟨w.heap.size, 0, none⟩ = some (.int .u64 x.a) ∧ w'.cell? ⟨w.heap.size, 1, none⟩ = some (.int .u64 x.b) ∧ w'.cell? ⟨w.heap.size, 2, none⟩ = some (.int .u64 x.c) ∧ w'.cell? ⟨w.heap.size, 3, none⟩ = some (.string ⟨#[]⟩) ∧ w'.cell? ⟨w.heap.size, 4, none⟩ = some (.string ⟨#[]⟩) ∧ w'.cell? ⟨N3, 0, none⟩ = some (.int .u64 p.a) ∧ w'.cell? ⟨N3, 1, none⟩ = some (.int .u64 p.b) ∧ w'.cell? ⟨N3, 2, none⟩ = some (.int .u64 p.c) ∧ w'.cell? ⟨N3, 3, none⟩ = some (.string p.p) ∧ w'.cell? ⟨N3, 4, none⟩ = some (.string p.m) ∧ w'.cell? ⟨N4, 0, none⟩ = some (.int .u64 q.a) ∧ w'.cell? ⟨N4, 1, none⟩ = some (.int .u64 q.b) ∧ w'.cell? ⟨N4, 2, none⟩ = some (.int .u64 q.c) ∧ w'.cell? ⟨N4, 3, none⟩ = some (.string q.p) ∧ w'.cell? ⟨N4, 4, none⟩ = some (.string q.m) ∧ w'.cell? ⟨N5, 0, none⟩ = some (.int .u64 r.a) ∧ w'.cell? ⟨N5, 1, none⟩ = some (.int .u64 r.b) ∧ w'.cell? ⟨N5, 2, none⟩ = some (.int .u64 r.c) ∧ w'.cell? ⟨N5, 3, none⟩ = some (.string r.p) ∧ w'.cell? ⟨N5, 4, none⟩ = some (.string r.m))) (by kernel_rfl) ?_ (fun hHeld => ?_)
      · ((try dsimp only); all_goals (refine ⟨?_, ?_, ?_, ?_, ?_, ?_, ?_, ?_, ?_, ?_, ?_, ?_, ?_, ?_, ?_, ?_, ?_, ?_, ?_, ?_⟩ <;> (repeat (first | with_reducible assumption | with_reducible apply cell_alloc_some | with_reducible apply cell_drew_some | with_reducible refine cell_below (by with_reducible assumption) ?_ | with_reducible refine cell_set_other (by omega) ?_))))
      refine wpAnyH_take (i := 0) (v := ?_) rfl (by kernel_rfl) (by kernel_rfl) (by kernel_rfl) (fun _ _ _ h => h) (Or.inl ⟨by kernel_rfl, ?_⟩) (by assumption) ?_
      rotate_left
      · (intro w hSw; (try dsimp only at hSw); go_simp <;> with_reducible rfl)
      try (simp only [Act.put]; (try simp only [List.setIfInBounds_toArray]); (try simp only [List.set_cons_succ]); (try simp only [List.set_cons_zero]))
      refine wpAnyH_take (i := 1) (v := ?_) rfl (by kernel_rfl) (by kernel_rfl) (by kernel_rfl) (fun _ _ _ h => h) (Or.inl ⟨by kernel_rfl, ?_⟩) (by assumption) ?_
      rotate_left
      · (intro w hSw; (try dsimp only at hSw); go_simp <;> with_reducible rfl)
      try (simp only [Act.put]; (try simp only [List.setIfInBounds_toArray]); (try simp only [List.set_cons_succ]); (try simp only [List.set_cons_zero]))
      refine wpAnyH_ready (rs := [2]) (by kernel_rfl) (by simp) ?_
      refine AllReadyH.cons rfl (fun K hK => ?_) AllReadyH.nil
      go_simp
      (go_at_call 11; (with_reducible refine (stH_6 x.a x.b x.c p true _ (HNX.out.below (by (repeat (first | exact Below.refl _ _ | apply Below.drew | (apply below_alloc_on (Nat.le_refl _)))))) GP GPZ HTP).mono ?_); rintro e w31 ⟨rfl, hb⟩; have HB1 := Lib.hid (Below.up (w := wx) (by (repeat (first | exact Below.refl _ _ | apply Below.drew | (apply below_alloc_on (Nat.le_refl _))))) hb))
      refine hK.out _ _ ?_ (fun hHeld => ?_)
      · ((try dsimp only); all_goals (refine ⟨?_, ?_, ?_, ?_, ?_, ?_, ?_, ?_, ?_, ?_, ?_, ?_, ?_, ?_, ?_, ?_, ?_, ?_, ?_, ?_⟩ <;> (repeat (first | with_reducible assumption | with_reducible apply cell_alloc_some | with_reducible apply cell_drew_some | with_reducible refine cell_below (by with_reducible assumption) ?_ | with_reducible refine cell_set_other (by omega) ?_))))
      clear hK K
      try (simp only [Act.put]; (try simp only [List.setIfInBounds_toArray]); (try simp only [List.set_cons_succ]); (try simp only [List.set_cons_zero]))
      refine wpAnyH_ready (rs := [3]) (by kernel_rfl) (by simp) ?_
      refine AllReadyH.cons rfl (fun K hK => ?_) AllReadyH.nil
      go_simp
      refine hK.out _ _ ?_ (fun hHeld => ?_)
      · ((try dsimp only); all_goals (refine ⟨?_, ?_, ?_, ?_, ?_, ?_, ?_, ?_, ?_, ?_, ?_, ?_, ?_, ?_, ?_, ?_, ?_, ?_, ?_, ?_⟩ <;> (repeat (first | with_reducible assumption | with_reducible apply cell_alloc_some | with_reducible apply cell_drew_some | with_reducible refine cell_below (by with_reducible assumption) ?_ | with_reducible refine cell_set_other (by omega) ?_))))
      clear hK K
      try (simp only [Act.put]; (try simp only [List.setIfInBounds_toArray]); (try simp only [List.set_cons_succ]); (try simp only [List.set_cons_zero]))
      refine wpAnyH_take (i := 4) (v := ?_) rfl (by kernel_rfl) (by kernel_rfl) (by kernel_rfl) (fun _ _ _ h => h) (Or.inl ⟨by kernel_rfl, ?_⟩) (by assumption) ?_
      rotate_left
      · (intro w hSw; (try dsimp only at hSw); go_simp <;> with_reducible rfl)
      try (simp only [Act.put]; (try simp only [List.setIfInBounds_toArray]); (try simp only [List.set_cons_succ]); (try simp only [List.set_cons_zero]))
      refine wpAnyH_take (i := 5) (v := ?_) rfl (by kernel_rfl) (by kernel_rfl) (by kernel_rfl) (fun _ _ _ h => h) (Or.inl ⟨by kernel_rfl, ?_⟩) (by assumption) ?_
      rotate_left
      · (intro w hSw; (try dsimp only at hSw); go_simp <;> with_reducible rfl)
      try (simp only [Act.put]; (try simp only [List.setIfInBounds_toArray]); (try simp only [List.set_cons_succ]); (try simp only [List.set_cons_zero]))
      refine wpAnyH_take (i := 7) (v := ?_) rfl (by kernel_rfl) (by kernel_rfl) (by kernel_rfl) (fun _ _ _ h => h) (Or.inl ⟨by kernel_rfl, ?_⟩) (by assumption) ?_
      rotate_left
      · (intro w hSw; (try dsimp only at hSw); go_simp <;> with_reducible rfl)
      try (simp only [Act.put]; (try simp only [List.setIfInBounds_toArray]); (try simp only [List.set_cons_succ]); (try simp only [List.set_cons_zero]))
      refine wpAnyH_take (i := 8) (v := ?_) rfl (by kernel_rfl) (by kernel_rfl) (by kernel_rfl) (fun _ _ _ h => h) (Or.inl ⟨by kernel_rfl, ?_⟩) (by assumption) ?_
      rotate_left
      · (intro w hSw; (try dsimp only at hSw); go_simp <;> with_reducible rfl)
      try (simp only [Act.put]; (try simp only [List.setIfInBounds_toArray]); (try simp only [List.set_cons_succ]); (try simp only [List.set_cons_zero]))
      refine wpAnyH_take (i := 9) (v := ?_) rfl (by kernel_rfl) (by kernel_rfl) (by kernel_rfl) (fun _ _ _ h => h) (Or.inl ⟨by kernel_rfl, ?_⟩) (by assumption) ?_
      rotate_left
      · (intro w hSw; (try dsimp only at hSw); go_simp <;> with_reducible rfl)
      try (simp only [Act.put]; (try simp only [List.setIfInBounds_toArray]); (try simp only [List.set_cons_succ]); (try simp only [List.set_cons_zero]))
      refine wpAnyH_ready (rs := [6]) (by kernel_rfl) (by simp) ?_
      refine AllReadyH.cons rfl (fun K hK => ?_) AllReadyH.nil
      go_simp
      (go_at_call 11; (with_reducible refine (stH_7 x.a x.b x.c p true _ (HNX.out.below (Below.up HB1.out (by (repeat (first | exact Below.refl _ _ | apply Below.drew | (apply below_alloc_on (Nat.le_refl _))))))) GP GPZ HCPP).mono ?_); rintro e w32 ⟨rfl, hb⟩; have HB2 := Lib.hid (Below.up HB1.out (Below.up (by (repeat (first | exact Below.refl _ _ | apply Below.drew | (apply below_alloc_on (Nat.le_refl _))))) hb)))
      refine hK.out _ _ ?_ (fun hHeld => ?_)
      · ((try dsimp only); all_goals (refine ⟨?_, ?_, ?_, ?_, ?_, ?_, ?_, ?_, ?_, ?_, ?_, ?_, ?_, ?_, ?_, ?_, ?_, ?_, ?_, ?_⟩ <;> (repeat (first | with_reducible assumption | with_reducible apply cell_alloc_some | with_reducible apply cell_drew_some | with_reducible refine cell_below (by with_reducible assumption) ?_ | with_reducible refine cell_set_other (by omega) ?_))))
      clear hK K
      try (simp only [Act.put]; (try simp only [List.setIfInBounds_toArray]); (try simp only [List.set_cons_succ]); (try simp only [List.set_cons_zero]))
      refine wpAnyH_ready (rs := [10]) (by kernel_rfl) (by simp) ?_
      refine AllReadyH.cons rfl (fun K hK => ?_) AllReadyH.nil
      go_simp
      refine hK.out _ _ ?_ (fun hHeld => ?_)
      · ((try dsimp only); all_goals (refine ⟨?_, ?_, ?_, ?_, ?_, ?_, ?_, ?_, ?_, ?_, ?_, ?_, ?_, ?_, ?_, ?_, ?_, ?_, ?_, ?_⟩ <;> (repeat (first | with_reducible assumption | with_reducible apply cell_alloc_some | with_reducible apply cell_drew_some | with_reducible refine cell_below (by with_reducible assumption) ?_ | with_reducible refine cell_set_other (by omega) ?_))))
      clear hK K
      try (simp only [Act.put]; (try simp only [List.setIfInBounds_toArray]); (try simp only [List.set_cons_succ]); (try simp only [List.set_cons_zero]))
      refine wpAnyH_take (i := 11) (v := ?_) rfl (by kernel_rfl) (by kernel_rfl) (by kernel_rfl) (fun _ _ _ h => h) (Or.inl ⟨by kernel_rfl, ?_⟩) (by assumption) ?_
      rotate_left
      · (intro w hSw; (try dsimp only at hSw); go_simp <;> with_reducible rfl)
      try (simp only [Act.put]; (try simp only [List.setIfInBounds_toArray]); (try simp only [List.set_cons_succ]); (try simp only [List.set_cons_zero]))
      refine wpAnyH_take (i := 12) (v := ?_) rfl (by kernel_rfl) (by kernel_rfl) (by kernel_rfl) (fun _ _ _ h => h) (Or.inl ⟨by kernel_rfl, ?_⟩) (by assumption) ?_
      rotate_left
      · (intro w hSw; (try dsimp only at hSw); go_simp <;> with_reducible rfl)
      try (simp only [Act.put]; (try simp only [List.setIfInBounds_toArray]); (try simp only [List.set_cons_succ]); (try simp only [List.set_cons_zero]))
      refine wpAnyH_take (i := 13) (v := ?_) rfl (by kernel_rfl) (by kernel_rfl) (by kernel_rfl) (fun _ _ _ h => h) (Or.inl ⟨by kernel_rfl, ?_⟩) (by assumption) ?_
      rotate_left
      · (intro w hSw; (try dsimp only at hSw); go_simp <;> with_reducible rfl)
      try (simp only [Act.put]; (try simp only [List.setIfInBounds_toArray]); (try simp only [List.set_cons_succ]); (try simp only [List.set_cons_zero]))
      refine wpAnyH_ready (rs := [14]) (by kernel_rfl) (by simp) ?_
      refine AllReadyH.cons rfl (fun K hK => ?_) AllReadyH.nil
      go_simp
      refine hK.out _ _ ?_ (fun hHeld => ?_)
      · ((try dsimp only); all_goals (refine ⟨?_, ?_, ?_, ?_, ?_, ?_, ?_, ?_, ?_, ?_, ?_, ?_, ?_, ?_, ?_, ?_, ?_, ?_, ?_, ?_⟩ <;> (repeat (first | with_reducible assumption | with_reducible apply cell_alloc_some | with_reducible apply cell_drew_some | with_reducible refine cell_below (by with_reducible assumption) ?_ | with_reducible refine cell_set_other (by omega) ?_))))
      clear hK K
      try (simp only [Act.put]; (try simp only [List.setIfInBounds_toArray]); (try simp only [List.set_cons_succ]); (try simp only [List.set_cons_zero]))
      refine wpAnyH_ready (rs := [15]) (by kernel_rfl) (by simp) ?_
      refine AllReadyH.cons rfl (fun K hK => ?_) AllReadyH.nil
      go_simp
      refine hK.out _ _ ?_ (fun hHeld => ?_)
      · ((try dsimp only); all_goals (refine ⟨?_, ?_, ?_, ?_, ?_, ?_, ?_, ?_, ?_, ?_, ?_, ?_, ?_, ?_, ?_, ?_, ?_, ?_, ?_, ?_⟩ <;> (repeat (first | with_reducible assumption | with_reducible apply cell_alloc_some | with_reducible apply cell_drew_some | with_reducible refine cell_below (by with_reducible assumption) ?_ | with_reducible refine cell_set_other (by omega) ?_))))
      clear hK K
      try (simp only [Act.put]; (try simp only [List.setIfInBounds_toArray]); (try simp only [List.set_cons_succ]); (try simp only [List.set_cons_zero]))
      refine wpAnyH_ready (rs := [16]) (by kernel_rfl) (by simp) ?_
      refine AllReadyH.cons rfl (fun K hK => ?_) AllReadyH.nil
      go_simp
      refine hK.out _ _ ?_ (fun hHeld => ?_)
      · ((try dsimp only); all_goals (refine ⟨?_, ?_, ?_, ?_, ?_, ?_, ?_, ?_, ?_, ?_, ?_, ?_, ?_, ?_, ?_, ?_, ?_, ?_, ?_, ?_⟩ <;> (repeat (first | with_reducible assumption | with_reducible apply cell_alloc_some | with_reducible apply cell_drew_some | with_reducible refine cell_below (by with_reducible assumption) ?_ | with_reducible refine cell_set_other (by omega) ?_))))
      clear hK K
      try (simp only [Act.put]; (try simp only [List.setIfInBounds_toArray]); (try simp only [List.set_cons_succ]); (try simp only [List.set_cons_zero]))
      refine wpAnyH_ready (rs := [17]) (by kernel_rfl) (by simp) ?_
      refine AllReadyH.cons rfl (fun K hK => ?_) AllReadyH.nil
      go_simp
      refine hK.out _ _ ?_ (fun hHeld => ?_)
      · ((try dsimp only); all_goals (refine ⟨?_, ?_, ?_, ?_, ?_, ?_, ?_, ?_, ?_, ?_, ?_, ?_, ?_, ?_, ?_, ?_, ?_, ?_, ?_, ?_⟩ <;> (repeat (first | with_reducible assumption | with_reducible apply cell_alloc_some | with_reducible apply cell_drew_some | with_reducible refine cell_below (by with_reducible assumption) ?_ | with_reducible refine cell_set_other (by omega) ?_))))
      clear hK K
      try (simp only [Act.put]; (try simp only [List.setIfInBounds_toArray]); (try simp only [List.set_cons_succ]); (try simp only [List.set_cons_zero]))
      refine wpAnyH_take (i := 18) (v := ?_) rfl (by kernel_rfl) (by kernel_rfl) (by kernel_rfl) (fun _ _ _ h => h) (Or.inl ⟨by kernel_rfl, ?_⟩) (by assumption) ?_
      rotate_left
      · (intro w hSw; (try dsimp only at hSw); go_simp <;> with_reducible rfl)
      try (simp only [Act.put]; (try simp only [List.setIfInBounds_toArray]); (try simp only [List.set_cons_succ]); (try simp only [List.set_cons_zero]))
      refine wpAnyH_take (i := 19) (v := ?_) rfl (by kernel_rfl) (by kernel_rfl) (by kernel_rfl) (fun _ _ _ h => h) (Or.inl ⟨by kernel_rfl, ?_⟩) (by assumption) ?_
      rotate_left
      · (intro w hSw; (try dsimp only at hSw); go_simp <;> with_reducible rfl)
      try (simp only [Act.put]; (try simp only [List.setIfInBounds_toArray]); (try simp only [List.set_cons_succ]); (try simp only [List.set_cons_zero]))
      refine wpAnyH_ready (rs := [20]) (by kernel_rfl) (by simp) ?_
      refine AllReadyH.cons rfl (fun K hK => ?_) AllReadyH.nil
      go_simp
      (go_at_call 11; (with_reducible refine (stH_6 x.a x.b x.c q false _ (HNX.out.below (Below.up HB2.out (by (repeat (first | exact Below.refl _ _ | apply Below.drew | (apply below_alloc_on (Nat.le_refl _))))))) GQ GQZ HTQ).mono ?_); rintro e w33 ⟨rfl, hb⟩; have HB3 := Lib.hid (Below.up HB2.out (Below.up (by (repeat (first | exact Below.refl _ _ | apply Below.drew | (apply below_alloc_on (Nat.le_refl _))))) hb)))
      refine hK.out _ _ ?_ (fun hHeld => ?_)
      · ((try dsimp only); all_goals (refine ⟨?_, ?_, ?_, ?_, ?_, ?_, ?_, ?_, ?_, ?_, ?_, ?_, ?_, ?_, ?_, ?_, ?_, ?_, ?_, ?_⟩ <;> (repeat (first | with_reducible assumption | with_reducible apply cell_alloc_some | with_reducible apply cell_drew_some | with_reducible refine cell_below (by with_reducible assumption) ?_ | with_reducible refine cell_set_other (by omega) ?_))))
      clear hK K
      try (simp only [Act.put]; (try simp only [List.setIfInBounds_toArray]); (try simp only [List.set_cons_succ]); (try simp only [List.set_cons_zero]))
      refine wpAnyH_ready (rs := [21]) (by kernel_rfl) (by simp) ?_
      refine AllReadyH.cons rfl (fun K hK => ?_) AllReadyH.nil
      go_simp
      refine hK.out _ _ ?_ (fun hHeld => ?_)
      · ((try dsimp only); all_goals (refine ⟨?_, ?_, ?_, ?_, ?_, ?_, ?_, ?_, ?_, ?_, ?_, ?_, ?_, ?_, ?_, ?_, ?_, ?_, ?_, ?_⟩ <;> (repeat (first | with_reducible assumption | with_reducible apply cell_alloc_some | with_reducible apply cell_drew_some | with_reducible refine cell_below (by with_reducible assumption) ?_ | with_reducible refine cell_set_other (by omega) ?_))))
      clear hK K
      try (simp only [Act.put]; (try simp only [List.setIfInBounds_toArray]); (try simp only [List.set_cons_succ]); (try simp only [List.set_cons_zero]))
      refine wpAnyH_ready (rs := [22]) (by kernel_rfl) (by simp) ?_
      refine AllReadyH.cons rfl (fun K hK => ?_) AllReadyH.nil
      go_simp
      refine hK.out _ _ ?_ (fun hHeld => ?_)
      · ((try dsimp only); all_goals (refine ⟨?_, ?_, ?_, ?_, ?_, ?_, ?_, ?_, ?_, ?_, ?_, ?_, ?_, ?_, ?_, ?_, ?_, ?_, ?_, ?_⟩ <;> (repeat (first | with_reducible assumption | with_reducible apply cell_alloc_some | with_reducible apply cell_drew_some | with_reducible refine cell_below (by with_reducible assumption) ?_ | with_reducible refine cell_set_other (by omega) ?_))))
      clear hK K
      try (simp only [Act.put]; (try simp only [List.setIfInBounds_toArray]); (try simp only [List.set_cons_succ]); (try simp only [List.set_cons_zero]))
      refine wpAnyH_ready (rs := [23]) (by kernel_rfl) (by simp) ?_
      refine AllReadyH.cons rfl (fun K hK => ?_) AllReadyH.nil
      go_simp
      refine hK.out _ _ ?_ (fun hHeld => ?_)
      · ((try dsimp only); all_goals (refine ⟨?_, ?_, ?_, ?_, ?_, ?_, ?_, ?_, ?_, ?_, ?_, ?_, ?_, ?_, ?_, ?_, ?_, ?_, ?_, ?_⟩ <;> (repeat (first | with_reducible assumption | with_reducible apply cell_alloc_some | with_reducible apply cell_drew_some | with_reducible refine cell_below (by with_reducible assumption) ?_ | with_reducible refine cell_set_other (by omega) ?_))))
      clear hK K
      try (simp only [Act.put]; (try simp only [List.setIfInBounds_toArray]); (try simp only [List.set_cons_succ]); (try simp only [List.set_cons_zero]))
      refine wpAnyH_take (i := 24) (v := ?_) rfl (by kernel_rfl) (by kernel_rfl) (by kernel_rfl) (fun _ _ _ h => h) (Or.inl ⟨by kernel_rfl, ?_⟩) (by assumption) ?_
      rotate_left
      · (intro w hSw; (try dsimp only at hSw); go_simp <;> with_reducible rfl)
      try (simp only [Act.put]; (try simp only [List.setIfInBounds_toArray]); (try simp only [List.set_cons_succ]); (try simp only [List.set_cons_zero]))
      refine wpAnyH_take (i := 25) (v := ?_) rfl (by kernel_rfl) (by kernel_rfl) (by kernel_rfl) (fun _ _ _ h => h) (Or.inl ⟨by kernel_rfl, ?_⟩) (by assumption) ?_
      rotate_left
      · (intro w hSw; (try dsimp only at hSw); go_simp <;> with_reducible rfl)
      try (simp only [Act.put]; (try simp only [List.setIfInBounds_toArray]); (try simp only [List.set_cons_succ]); (try simp only [List.set_cons_zero]))
      refine wpAnyH_take (i := 27) (v := ?_) rfl (by kernel_rfl) (by kernel_rfl) (by kernel_rfl) (fun _ _ _ h => h) (Or.inl ⟨by kernel_rfl, ?_⟩) (by assumption) ?_
      rotate_left
      · (intro w hSw; (try dsimp only at hSw); go_simp <;> with_reducible rfl)
      try (simp only [Act.put]; (try simp only [List.setIfInBounds_toArray]); (try simp only [List.set_cons_succ]); (try simp only [List.set_cons_zero]))
      refine wpAnyH_take (i := 28) (v := ?_) rfl (by kernel_rfl) (by kernel_rfl) (by kernel_rfl) (fun _ _ _ h => h) (Or.inl ⟨by kernel_rfl, ?_⟩) (by assumption) ?_
      rotate_left
      · (intro w hSw; (try dsimp only at hSw); go_simp <;> with_reducible rfl)
      try (simp only [Act.put]; (try simp only [List.setIfInBounds_toArray]); (try simp only [List.set_cons_succ]); (try simp only [List.set_cons_zero]))
      refine wpAnyH_take (i := 29) (v := ?_) rfl (by kernel_rfl) (by kernel_rfl) (by kernel_rfl) (fun _ _ _ h => h) (Or.inl ⟨by kernel_rfl, ?_⟩) (by assumption) ?_
      rotate_left
      · (intro w hSw; (try dsimp only at hSw); go_simp <;> with_reducible rfl)
      try (simp only [Act.put]; (try simp only [List.setIfInBounds_toArray]); (try simp only [List.set_cons_succ]); (try simp only [List.set_cons_zero]))
      refine wpAnyH_ready (rs := [26]) (by kernel_rfl) (by simp) ?_
      refine AllReadyH.cons rfl (fun K hK => ?_) AllReadyH.nil
      go_simp
      (go_at_call 11; (with_reducible refine (stH_7 x.a x.b x.c q false _ (HNX.out.below (Below.up HB3.out (by (repeat (first | exact Below.refl _ _ | apply Below.drew | (apply below_alloc_on (Nat.le_refl _))))))) GQ GQZ HCQQ).mono ?_); rintro e w34 ⟨rfl, hb⟩; have HB4 := Lib.hid (Below.up HB3.out (Below.up (by (repeat (first | exact Below.refl _ _ | apply Below.drew | (apply below_alloc_on (Nat.le_refl _))))) hb)))
      refine hK.out _ _ ?_ (fun hHeld => ?_)
      · ((try dsimp only); all_goals (refine ⟨?_, ?_, ?_, ?_, ?_, ?_, ?_, ?_, ?_, ?_, ?_, ?_, ?_, ?_, ?_, ?_, ?_, ?_, ?_, ?_⟩ <;> (repeat (first | with_reducible assumption | with_reducible apply cell_alloc_some | with_reducible apply cell_drew_some | with_reducible refine cell_below (by with_reducible assumption) ?_ | with_reducible refine cell_set_other (by omega) ?_))))
      clear hK K
      try (simp only [Act.put]; (try simp only [List.setIfInBounds_toArray]); (try simp only [List.set_cons_succ]); (try simp only [List.set_cons_zero]))
      refine wpAnyH_ready (rs := [30]) (by kernel_rfl) (by simp) ?_
      refine AllReadyH.cons rfl (fun K hK => ?_) AllReadyH.nil
      go_simp
      refine hK.out _ _ ?_ (fun hHeld => ?_)
      · ((try dsimp only); all_goals (refine ⟨?_, ?_, ?_, ?_, ?_, ?_, ?_, ?_, ?_, ?_, ?_, ?_, ?_, ?_, ?_, ?_, ?_, ?_, ?_, ?_⟩ <;> (repeat (first | with_reducible assumption | with_reducible apply cell_alloc_some | with_reducible apply cell_drew_some | with_reducible refine cell_below (by with_reducible assumption) ?_ | with_reducible refine cell_set_other (by omega) ?_))))
      clear hK K
      try (simp only [Act.put]; (try simp only [List.setIfInBounds_toArray]); (try simp only [List.set_cons_succ]); (try simp only [List.set_cons_zero]))
      refine wpAnyH_ready (rs := [31]) (by kernel_rfl) (by simp) ?_
      refine AllReadyH.cons rfl (fun K hK => ?_) AllReadyH.nil
      go_simp
      refine hK.out _ _ ?_ (fun hHeld => ?_)
      · ((try dsimp only); all_goals (refine ⟨?_, ?_, ?_, ?_, ?_, ?_, ?_, ?_, ?_, ?_, ?_, ?_, ?_, ?_, ?_, ?_, ?_, ?_, ?_, ?_⟩ <;> (repeat (first | with_reducible assumption | with_reducible apply cell_alloc_some | with_reducible apply cell_drew_some | with_reducible refine cell_below (by with_reducible assumption) ?_ | with_reducible refine cell_set_other (by omega) ?_))))
      clear hK K
      try (simp only [Act.put]; (try simp only [List.setIfInBounds_toArray]); (try simp only [List.set_cons_succ]); (try simp only [List.set_cons_zero]))
      refine wpAnyH_ready (rs := [32]) (by kernel_rfl) (by simp) ?_
      refine AllReadyH.cons rfl (fun K hK => ?_) AllReadyH.nil
      go_simp
      refine hK.out _ _ ?_ (fun hHeld => ?_)
      · ((try dsimp only); all_goals (refine ⟨?_, ?_, ?_, ?_, ?_, ?_, ?_, ?_, ?_, ?_, ?_, ?_, ?_, ?_, ?_, ?_, ?_, ?_, ?_, ?_⟩ <;> (repeat (first | with_reducible assumption | with_reducible apply cell_alloc_some | with_reducible apply cell_drew_some | with_reducible refine cell_below (by with_reducible assumption) ?_ | with_reducible refine cell_set_other (by omega) ?_))))
      clear hK K
      try (simp only [Act.put]; (try simp only [List.setIfInBounds_toArray]); (try simp only [List.set_cons_succ]); (try simp only [List.set_cons_zero]))
      refine wpAnyH_take (i := 33) (v := ?_) rfl (by kernel_rfl) (by kernel_rfl) (by kernel_rfl) (fun _ _ _ h => h) (Or.inl ⟨by kernel_rfl, ?_⟩) (by assumption) ?_
      rotate_left
      · (intro w hSw; (try dsimp only at hSw); go_simp <;> with_reducible rfl)
      try (simp only [Act.put]; (try simp only [List.setIfInBounds_toArray]); (try simp only [List.set_cons_succ]); (try simp only [List.set_cons_zero]))
      refine wpAnyH_take (i := 34) (v := ?_) rfl (by kernel_rfl) (by kernel_rfl) (by kernel_rfl) (fun _ _ _ h => h) (Or.inl ⟨by kernel_rfl, ?_⟩) (by assumption) ?_
      rotate_left
      · (intro w hSw; (try dsimp only at hSw); go_simp <;> with_reducible rfl)
      try (simp only [Act.put]; (try simp only [List.setIfInBounds_toArray]); (try simp only [List.set_cons_succ]); (try simp only [List.set_cons_zero]))
      refine wpAnyH_ready (rs := [35]) (by kernel_rfl) (by simp) ?_
      refine AllReadyH.cons rfl (fun K hK => ?_) AllReadyH.nil
      go_simp
      (go_at_call 11; (with_reducible refine (stH_6 x.a x.b x.c r false _ (HNX.out.below (Below.up HB4.out (by (repeat (first | exact Below.refl _ _ | apply Below.drew | (apply below_alloc_on (Nat.le_refl _))))))) GR GRZ HTR).mono ?_); rintro e w35 ⟨rfl, hb⟩; have HB5 := Lib.hid (Below.up HB4.out (Below.up (by (repeat (first | exact Below.refl _ _ | apply Below.drew | (apply below_alloc_on (Nat.le_refl _))))) hb)))
      refine hK.out _ _ ?_ (fun hHeld => ?_)
      · ((try dsimp only); all_goals (refine ⟨?_, ?_, ?_, ?_, ?_, ?_, ?_, ?_, ?_, ?_, ?_, ?_, ?_, ?_, ?_, ?_, ?_, ?_, ?_, ?_⟩ <;> (repeat (first | with_reducible assumption | with_reducible apply cell_alloc_some | with_reducible apply cell_drew_some | with_reducible refine cell_below (by with_reducible assumption) ?_ | with_reducible refine cell_set_other (by omega) ?_))))
      clear hK K
      try (simp only [Act.put]; (try simp only [List.setIfInBounds_toArray]); (try simp only [List.set_cons_succ]); (try simp only [List.set_cons_zero]))
      refine wpAnyH_ready (rs := [36]) (by kernel_rfl) (by simp) ?_
      refine AllReadyH.cons rfl (fun K hK => ?_) AllReadyH.nil
      go_simp
      refine hK.out _ _ ?_ (fun hHeld => ?_)
      · ((try dsimp only); all_goals (refine ⟨?_, ?_, ?_, ?_, ?_, ?_, ?_, ?_, ?_, ?_, ?_, ?_, ?_, ?_, ?_, ?_, ?_, ?_, ?_, ?_⟩ <;> (repeat (first | with_reducible assumption | with_reducible apply cell_alloc_some | with_reducible apply cell_drew_some | with_reducible refine cell_below (by with_reducible assumption) ?_ | with_reducible refine cell_set_other (by omega) ?_))))
      clear hK K
      try (simp only [Act.put]; (try simp only [List.setIfInBounds_toArray]); (try simp only [List.set_cons_succ]); (try simp only [List.set_cons_zero]))
      refine wpAnyH_ready (rs := [37]) (by kernel_rfl) (by simp) ?_
      refine AllReadyH.cons rfl (fun K hK => ?_) AllReadyH.nil
      go_simp
      refine hK.out _ _ ?_ (fun hHeld => ?_)
      · ((try dsimp only); all_goals (refine ⟨?_, ?_, ?_, ?_, ?_, ?_, ?_, ?_, ?_, ?_, ?_, ?_, ?_, ?_, ?_, ?_, ?_, ?_, ?_, ?_⟩ <;> (repeat (first | with_reducible assumption | with_reducible apply cell_alloc_some | with_reducible apply cell_drew_some | with_reducible refine cell_below (by with_reducible assumption) ?_ | with_reducible refine cell_set_other (by omega) ?_))))
      clear hK K
      try (simp only [Act.put]; (try simp only [List.setIfInBounds_toArray]); (try simp only [List.set_cons_succ]); (try simp only [List.set_cons_zero]))
      refine wpAnyH_ready (rs := [38]) (by kernel_rfl) (by simp) ?_
      refine AllReadyH.cons rfl (fun K hK => ?_) AllReadyH.nil
      go_simp
      refine hK.out _ _ ?_ (fun hHeld => ?_)
      · ((try dsimp only); all_goals (refine ⟨?_, ?_, ?_, ?_, ?_, ?_, ?_, ?_, ?_, ?_, ?_, ?_, ?_, ?_, ?_, ?_, ?_, ?_, ?_, ?_⟩ <;> (repeat (first | with_reducible assumption | with_reducible apply cell_alloc_some | with_reducible apply cell_drew_some | with_reducible refine cell_below (by with_reducible assumption) ?_ | with_reducible refine cell_set_other (by omega) ?_))))
      clear hK K
      try (simp only [Act.put]; (try simp only [List.setIfInBounds_toArray]); (try simp only [List.set_cons_succ]); (try simp only [List.set_cons_zero]))
      refine wpAnyH_take (i := 39) (v := ?_) rfl (by kernel_rfl) (by kernel_rfl) (by kernel_rfl) (fun _ _ _ h => h) (Or.inl ⟨by kernel_rfl, ?_⟩) (by assumption) ?_
      rotate_left
      · (intro w hSw; (try dsimp only at hSw); go_simp <;> with_reducible rfl)
      try (simp only [Act.put]; (try simp only [List.setIfInBounds_toArray]); (try simp only [List.set_cons_succ]); (try simp only [List.set_cons_zero]))
      refine wpAnyH_take (i := 40) (v := ?_) rfl (by kernel_rfl) (by kernel_rfl) (by kernel_rfl) (fun _ _ _ h => h) (Or.inl ⟨by kernel_rfl, ?_⟩) (by assumption) ?_
      rotate_left
      · (intro w hSw; (try dsimp only at hSw); go_simp <;> with_reducible rfl)
      try (simp only [Act.put]; (try simp only [List.setIfInBounds_toArray]); (try simp only [List.set_cons_succ]); (try simp only [List.set_cons_zero]))
      refine wpAnyH_ready (rs := [41]) (by kernel_rfl) (by simp) ?_
      refine AllReadyH.cons rfl (fun K hK => ?_) AllReadyH.nil
      go_simp
      (go_at_call 11; (with_reducible refine (stH_7 x.a x.b x.c r false _ (HNX.out.below (Below.up HB5.out (by (repeat (first | exact Below.refl _ _ | apply Below.drew | (apply below_alloc_on (Nat.le_refl _))))))) GR GRZ HCRR).mono ?_); rintro e w36 ⟨rfl, hb⟩; have HB6 := Lib.hid (Below.up HB5.out (Below.up (by (repeat (first | exact Below.refl _ _ | apply Below.drew | (apply below_alloc_on (Nat.le_refl _))))) hb)))
      refine hK.out _ _ ?_ (fun hHeld => ?_)
      · ((try dsimp only); all_goals (refine ⟨?_, ?_, ?_, ?_, ?_, ?_, ?_, ?_, ?_, ?_, ?_, ?_, ?_, ?_, ?_, ?_, ?_, ?_, ?_, ?_⟩ <;> (repeat (first | with_reducible assumption | with_reducible apply cell_alloc_some | with_reducible apply cell_drew_some | with_reducible refine cell_below (by with_reducible assumption) ?_ | with_reducible refine cell_set_other (by omega) ?_))))
      clear hK K
      try (simp only [Act.put]; (try simp only [List.setIfInBounds_toArray]); (try simp only [List.set_cons_succ]); (try simp only [List.set_cons_zero]))
      refine wpAnyH_ready (rs := [42]) (by kernel_rfl) (by simp) ?_
      refine AllReadyH.cons rfl (fun K hK => ?_) AllReadyH.nil
      go_simp
      refine hK.out _ _ ?_ (fun hHeld => ?_)
      · ((try dsimp only); all_goals (refine ⟨?_, ?_, ?_, ?_, ?_, ?_, ?_, ?_, ?_, ?_, ?_, ?_, ?_, ?_, ?_, ?_, ?_, ?_, ?_, ?_⟩ <;> (repeat (first | with_reducible assumption | with_reducible apply cell_alloc_some | with_reducible apply cell_drew_some | with_reducible refine cell_below (by with_reducible assumption) ?_ | with_reducible refine cell_set_other (by omega) ?_))))
      clear hK K
      try (simp only [Act.put]; (try simp only [List.setIfInBounds_toArray]); (try simp only [List.set_cons_succ]); (try simp only [List.set_cons_zero]))
      refine wpAnyH_ready (rs := [43]) (by kernel_rfl) (by simp) ?_
      refine AllReadyH.cons rfl (fun K hK => ?_) AllReadyH.nil
      go_simp
      refine hK.out _ _ ?_ (fun hHeld => ?_)
      · ((try dsimp only); all_goals (refine ⟨?_, ?_, ?_, ?_, ?_, ?_, ?_, ?_, ?_, ?_, ?_, ?_, ?_, ?_, ?_, ?_, ?_, ?_, ?_, ?_⟩ <;> (repeat (first | with_reducible assumption | with_reducible apply cell_alloc_some | with_reducible apply cell_drew_some | with_reducible refine cell_below (by with_reducible assumption) ?_ | with_reducible refine cell_set_other (by omega) ?_))))
      clear hK K
      try (simp only [Act.put]; (try simp only [List.setIfInBounds_toArray]); (try simp only [List.set_cons_succ]); (try simp only [List.set_cons_zero]))
      refine wpAnyH_ready (rs := [44]) (by kernel_rfl) (by simp) ?_
      refine AllReadyH.cons rfl (fun K hK => ?_) AllReadyH.nil
      go_simp
      refine hK.out _ _ ?_ (fun hHeld => ?_)
      · ((try dsimp only); all_goals (refine ⟨?_, ?_, ?_, ?_, ?_, ?_, ?_, ?_, ?_, ?_, ?_, ?_, ?_, ?_, ?_, ?_, ?_, ?_, ?_, ?_⟩ <;> (repeat (first | with_reducible assumption | with_reducible apply cell_alloc_some | with_reducible apply cell_drew_some | with_reducible refine cell_below (by with_reducible assumption) ?_ | with_reducible refine cell_set_other (by omega) ?_))))
      clear hK K
      try (simp only [Act.put]; (try simp only [List.setIfInBounds_toArray]); (try simp only [List.set_cons_succ]); (try simp only [List.set_cons_zero]))
      refine wpAnyH_done (by kernel_rfl) ?_ _
      go_wp2
      go_ret
      exact ⟨rfl, Below.up HBX.out (Below.up HB6.out (by (repeat (first | exact Below.refl _ _ | apply Below.drew | (apply below_alloc_on (Nat.le_refl _))))))⟩
    · have HCPP := Lib.hid (show T.caret ⟨7, 3, x.a, x.b, x.c, ⟨#[]⟩⟩ p = false by rw [HCP0.out, decide_eq_false hA, decide_eq_false hB]; rfl)
      have HCQQ := Lib.hid (show T.caret ⟨7, 3, x.a, x.b, x.c, ⟨#[]⟩⟩ q = false by rw [HCQ0.out]; exact decide_eq_false hA)
      refine wp_region_held_drew (S := (fun w' => w'.cell? ⟨w.heap.size, 0, none⟩ = some (.int .u64 x.a) ∧ w'.cell? ⟨w.heap.size, 1, none⟩ = some (.int .u64 x.b) ∧ w'.cell? ⟨w.heap.size, 2, none⟩ = some (.int .u64 x.c) ∧ w'.cell? ⟨w.heap.size, 3, none⟩ = some (.string ⟨#[]⟩) ∧ w'.cell? ⟨w.heap.size, 4, none⟩ = some (.string ⟨#[]⟩) ∧ w'.cell? ⟨N3, 0, none⟩ = some (.int .u64 p.a) ∧ w'.cell? ⟨N3, 1, none⟩ = some (.int .u64 p.b) ∧ w'.cell? ⟨N3, 2, none⟩ = some (.int .u64 p.c) ∧ w'.cell? ⟨N3, 3, none⟩ = some (.string p.p) ∧ w'.cell? ⟨N3, 4, none⟩ = some (.string p.m) ∧ w'.cell? ⟨N4, 0, none⟩ = some (.int .u64 q.a) ∧ w'.cell? ⟨N4, 1, none⟩ = some (.int .u64 q.b) ∧ w'.cell? ⟨N4, 2, none⟩ = some (.int .u64 q.c) ∧ w'.cell? ⟨N4, 3, none⟩ = some (.string q.p) ∧ w'.cell? ⟨N4, 4, none⟩ = some (.string q.m) ∧ w'.cell? ⟨N5, 0, none⟩ = some (.int .u64 r.a) ∧ w'.cell? ⟨N5, 1, none⟩ = some (.int .u64 r.b) ∧ w'.cell? ⟨N5, 2, none⟩ = some (.int .u64 r.c) ∧ w'.cell? ⟨N5, 3, none⟩ = some (.string r.p) ∧ w'.cell? ⟨N5, 4, none⟩ = some (.string r.m))) (by kernel_rfl) ?_ (fun hHeld => ?_)
      · ((try dsimp only); all_goals (refine ⟨?_, ?_, ?_, ?_, ?_, ?_, ?_, ?_, ?_, ?_, ?_, ?_, ?_, ?_, ?_, ?_, ?_, ?_, ?_, ?_⟩ <;> (repeat (first | with_reducible assumption | with_reducible apply cell_alloc_some | with_reducible apply cell_drew_some | with_reducible refine cell_below (by with_reducible assumption) ?_ | with_reducible refine cell_set_other (by omega) ?_))))
      refine wpAnyH_take (i := 0) (v := ?_) rfl (by kernel_rfl) (by kernel_rfl) (by kernel_rfl) (fun _ _ _ h => h) (Or.inl ⟨by kernel_rfl, ?_⟩) (by assumption) ?_
      rotate_left
      · (intro w hSw; (try dsimp only at hSw); go_simp <;> with_reducible rfl)
      try (simp only [Act.put]; (try simp only [List.setIfInBounds_toArray]); (try simp only [List.set_cons_succ]); (try simp only [List.set_cons_zero]))
      refine wpAnyH_take (i := 1) (v := ?_) rfl (by kernel_rfl) (by kernel_rfl) (by kernel_rfl) (fun _ _ _ h => h) (Or.inl ⟨by kernel_rfl, ?_⟩) (by assumption) ?_
      rotate_left
      · (intro w hSw; (try dsimp only at hSw); go_simp <;> with_reducible rfl)
      try (simp only [Act.put]; (try simp only [List.setIfInBounds_toArray]); (try simp only [List.set_cons_succ]); (try simp only [List.set_cons_zero]))
      refine wpAnyH_ready (rs := [2]) (by kernel_rfl) (by simp) ?_
      refine AllReadyH.cons rfl (fun K hK => ?_) AllReadyH.nil
      go_simp
      (go_at_call 11; (with_reducible refine (stH_6 x.a x.b x.c p true _ (HNX.out.below (by (repeat (first | exact Below.refl _ _ | apply Below.drew | (apply below_alloc_on (Nat.le_refl _)))))) GP GPZ HTP).mono ?_); rintro e w31 ⟨rfl, hb⟩; have HB1 := Lib.hid (Below.up (w := wx) (by (repeat (first | exact Below.refl _ _ | apply Below.drew | (apply below_alloc_on (Nat.le_refl _))))) hb))
      refine hK.out _ _ ?_ (fun hHeld => ?_)
      · ((try dsimp only); all_goals (refine ⟨?_, ?_, ?_, ?_, ?_, ?_, ?_, ?_, ?_, ?_, ?_, ?_, ?_, ?_, ?_, ?_, ?_, ?_, ?_, ?_⟩ <;> (repeat (first | with_reducible assumption | with_reducible apply cell_alloc_some | with_reducible apply cell_drew_some | with_reducible refine cell_below (by with_reducible assumption) ?_ | with_reducible refine cell_set_other (by omega) ?_))))
      clear hK K
      try (simp only [Act.put]; (try simp only [List.setIfInBounds_toArray]); (try simp only [List.set_cons_succ]); (try simp only [List.set_cons_zero]))
      refine wpAnyH_ready (rs := [3]) (by kernel_rfl) (by simp) ?_
      refine AllReadyH.cons rfl (fun K hK => ?_) AllReadyH.nil
      go_simp
      refine hK.out _ _ ?_ (fun hHeld => ?_)
      · ((try dsimp only); all_goals (refine ⟨?_, ?_, ?_, ?_, ?_, ?_, ?_, ?_, ?_, ?_, ?_, ?_, ?_, ?_, ?_, ?_, ?_, ?_, ?_, ?_⟩ <;> (repeat (first | with_reducible assumption | with_reducible apply cell_alloc_some | with_reducible apply cell_drew_some | with_reducible refine cell_below (by with_reducible assumption) ?_ | with_reducible refine cell_set_other (by omega) ?_))))
      clear hK K
      try (simp only [Act.put]; (try simp only [List.setIfInBounds_toArray]); (try simp only [List.set_cons_succ]); (try simp only [List.set_cons_zero]))
      refine wpAnyH_take (i := 4) (v := ?_) rfl (by kernel_rfl) (by kernel_rfl) (by kernel_rfl) (fun _ _ _ h => h) (Or.inl ⟨by kernel_rfl, ?_⟩) (by assumption) ?_
      rotate_left
      · (intro w hSw; (try dsimp only at hSw); go_simp <;> with_reducible rfl)
      try (simp only [Act.put]; (try simp only [List.setIfInBounds_toArray]); (try simp only [List.set_cons_succ]); (try simp only [List.set_cons_zero]))
      refine wpAnyH_take (i := 5) (v := ?_) rfl (by kernel_rfl) (by kernel_rfl) (by kernel_rfl) (fun _ _ _ h => h) (Or.inl ⟨by kernel_rfl, ?_⟩) (by assumption) ?_
      rotate_left
      · (intro w hSw; (try dsimp only at hSw); go_simp <;> with_reducible rfl)
      try (simp only [Act.put]; (try simp only [List.setIfInBounds_toArray]); (try simp only [List.set_cons_succ]); (try simp only [List.set_cons_zero]))
      refine wpAnyH_take (i := 7) (v := ?_) rfl (by kernel_rfl) (by kernel_rfl) (by kernel_rfl) (fun _ _ _ h => h) (Or.inl ⟨by kernel_rfl, ?_⟩) (by assumption) ?_
      rotate_left
      · (intro w hSw; (try dsimp only at hSw); go_simp <;> with_reducible rfl)
      try (simp only [Act.put]; (try simp only [List.setIfInBounds_toArray]); (try simp only [List.set_cons_succ]); (try simp only [List.set_cons_zero]))
      refine wpAnyH_take (i := 8) (v := ?_) rfl (by kernel_rfl) (by kernel_rfl) (by kernel_rfl) (fun _ _ _ h => h) (Or.inl ⟨by kernel_rfl, ?_⟩) (by assumption) ?_
      rotate_left
      · (intro w hSw; (try dsimp only at hSw); go_simp <;> with_reducible rfl)
      try (simp only [Act.put]; (try simp only [List.setIfInBounds_toArray]); (try simp only [List.set_cons_succ]); (try simp only [List.set_cons_zero]))
      refine wpAnyH_take (i := 9) (v := ?_) rfl (by kernel_rfl) (by kernel_rfl) (by kernel_rfl) (fun _ _ _ h => h) (Or.inl ⟨by kernel_rfl, ?_⟩) (by assumption) ?_
      rotate_left
      · (intro w hSw; (try dsimp only at hSw); go_simp <;> with_reducible rfl)
      try (simp only [Act.put]; (try simp only [List.setIfInBounds_toArray]); (try simp only [List.set_cons_succ]); (try simp only [List.set_cons_zero]))
      refine wpAnyH_ready (rs := [6]) (by kernel_rfl) (by simp) ?_
      refine AllReadyH.cons rfl (fun K hK => ?_) AllReadyH.nil
      go_simp
      (go_at_call 11; (with_reducible refine (stH_7 x.a x.b x.c p false _ (HNX.out.below (Below.up HB1.out (by (repeat (first | exact Below.refl _ _ | apply Below.drew | (apply below_alloc_on (Nat.le_refl _))))))) GP GPZ HCPP).mono ?_); rintro e w32 ⟨rfl, hb⟩; have HB2 := Lib.hid (Below.up HB1.out (Below.up (by (repeat (first | exact Below.refl _ _ | apply Below.drew | (apply below_alloc_on (Nat.le_refl _))))) hb)))
      refine hK.out _ _ ?_ (fun hHeld => ?_)
      · ((try dsimp only); all_goals (refine ⟨?_, ?_, ?_, ?_, ?_, ?_, ?_, ?_, ?_, ?_, ?_, ?_, ?_, ?_, ?_, ?_, ?_, ?_, ?_, ?_⟩ <;> (repeat (first | with_reducible assumption | with_reducible apply cell_alloc_some | with_reducible apply cell_drew_some | with_reducible refine cell_below (by with_reducible assumption) ?_ | with_reducible refine cell_set_other (by omega) ?_))))
      clear hK K
      try (simp only [Act.put]; (try simp only [List.setIfInBounds_toArray]); (try simp only [List.set_cons_succ]); (try simp only [List.set_cons_zero]))
      refine wpAnyH_ready (rs := [10]) (by kernel_rfl) (by simp) ?_
      refine AllReadyH.cons rfl (fun K hK => ?_) AllReadyH.nil
      go_simp
      refine hK.out _ _ ?_ (fun hHeld => ?_)
      · ((try dsimp only); all_goals (refine ⟨?_, ?_, ?_, ?_, ?_, ?_, ?_, ?_, ?_, ?_, ?_, ?_, ?_, ?_, ?_, ?_, ?_, ?_, ?_, ?_⟩ <;> (repeat (first | with_reducible assumption | with_reducible apply cell_alloc_some | with_reducible apply cell_drew_some | with_reducible refine cell_below (by with_reducible assumption) ?_ | with_reducible refine cell_set_other (by omega) ?_))))
      clear hK K
      try (simp only [Act.put]; (try simp only [List.setIfInBounds_toArray]); (try simp only [List.set_cons_succ]); (try simp only [List.set_cons_zero]))
      refine wpAnyH_take (i := 11) (v := ?_) rfl (by kernel_rfl) (by kernel_rfl) (by kernel_rfl) (fun _ _ _ h => h) (Or.inl ⟨by kernel_rfl, ?_⟩) (by assumption) ?_
      rotate_left
      · (intro w hSw; (try dsimp only at hSw); go_simp <;> with_reducible rfl)
      try (simp only [Act.put]; (try simp only [List.setIfInBounds_toArray]); (try simp only [List.set_cons_succ]); (try simp only [List.set_cons_zero]))
      refine wpAnyH_take (i := 12) (v := ?_) rfl (by kernel_rfl) (by kernel_rfl) (by kernel_rfl) (fun _ _ _ h => h) (Or.inl ⟨by kernel_rfl, ?_⟩) (by assumption) ?_
      rotate_left
      · (intro w hSw; (try dsimp only at hSw); go_simp <;> with_reducible rfl)
      try (simp only [Act.put]; (try simp only [List.setIfInBounds_toArray]); (try simp only [List.set_cons_succ]); (try simp only [List.set_cons_zero]))
      refine wpAnyH_take (i := 13) (v := ?_) rfl (by kernel_rfl) (by kernel_rfl) (by kernel_rfl) (fun _ _ _ h => h) (Or.inl ⟨by kernel_rfl, ?_⟩) (by assumption) ?_
      rotate_left
      · (intro w hSw; (try dsimp only at hSw); go_simp <;> with_reducible rfl)
      try (simp only [Act.put]; (try simp only [List.setIfInBounds_toArray]); (try simp only [List.set_cons_succ]); (try simp only [List.set_cons_zero]))
      refine wpAnyH_ready (rs := [14]) (by kernel_rfl) (by simp) ?_
      refine AllReadyH.cons rfl (fun K hK => ?_) AllReadyH.nil
      go_simp
      refine hK.out _ _ ?_ (fun hHeld => ?_)
      · ((try dsimp only); all_goals (refine ⟨?_, ?_, ?_, ?_, ?_, ?_, ?_, ?_, ?_, ?_, ?_, ?_, ?_, ?_, ?_, ?_, ?_, ?_, ?_, ?_⟩ <;> (repeat (first | with_reducible assumption | with_reducible apply cell_alloc_some | with_reducible apply cell_drew_some | with_reducible refine cell_below (by with_reducible assumption) ?_ | with_reducible refine cell_set_other (by omega) ?_))))
      clear hK K
      try (simp only [Act.put]; (try simp only [List.setIfInBounds_toArray]); (try simp only [List.set_cons_succ]); (try simp only [List.set_cons_zero]))
      refine wpAnyH_ready (rs := [15]) (by kernel_rfl) (by simp) ?_
      refine AllReadyH.cons rfl (fun K hK => ?_) AllReadyH.nil
      go_simp
      refine hK.out _ _ ?_ (fun hHeld => ?_)
      · ((try dsimp only); all_goals (refine ⟨?_, ?_, ?_, ?_, ?_, ?_, ?_, ?_, ?_, ?_, ?_, ?_, ?_, ?_, ?_, ?_, ?_, ?_, ?_, ?_⟩ <;> (repeat (first | with_reducible assumption | with_reducible apply cell_alloc_some | with_reducible apply cell_drew_some | with_reducible refine cell_below (by with_reducible assumption) ?_ | with_reducible refine cell_set_other (by omega) ?_))))
      clear hK K
      try (simp only [Act.put]; (try simp only [List.setIfInBounds_toArray]); (try simp only [List.set_cons_succ]); (try simp only [List.set_cons_zero]))
      refine wpAnyH_ready (rs := [16]) (by kernel_rfl) (by simp) ?_
      refine AllReadyH.cons rfl (fun K hK => ?_) AllReadyH.nil
      go_simp
      refine hK.out _ _ ?_ (fun hHeld => ?_)
      · ((try dsimp only); all_goals (refine ⟨?_, ?_, ?_, ?_, ?_, ?_, ?_, ?_, ?_, ?_, ?_, ?_, ?_, ?_, ?_, ?_, ?_, ?_, ?_, ?_⟩ <;> (repeat (first | with_reducible assumption | with_reducible apply cell_alloc_some | with_reducible apply cell_drew_some | with_reducible refine cell_below (by with_reducible assumption) ?_ | with_reducible refine cell_set_other (by omega) ?_))))
      clear hK K
      try (simp only [Act.put]; (try simp only [List.setIfInBounds_toArray]); (try simp only [List.set_cons_succ]); (try simp only [List.set_cons_zero]))
      refine wpAnyH_ready (rs := [17]) (by kernel_rfl) (by simp) ?_
      refine AllReadyH.cons rfl (fun K hK => ?_) AllReadyH.nil
      go_simp
      refine hK.out _ _ ?_ (fun hHeld => ?_)
      · ((try dsimp only); all_goals (refine ⟨?_, ?_, ?_, ?_, ?_, ?_, ?_, ?_, ?_, ?_, ?_, ?_, ?_, ?_, ?_, ?_, ?_, ?_, ?_, ?_⟩ <;> (repeat (first | with_reducible assumption | with_reducible apply cell_alloc_some | with_reducible apply cell_drew_some | with_reducible refine cell_below (by with_reducible assumption) ?_ | with_reducible refine cell_set_other (by omega) ?_))))
      clear hK K
      try (simp only [Act.put]; (try simp only [List.setIfInBounds_toArray]); (try simp only [List.set_cons_succ]); (try simp only [List.set_cons_zero]))
      refine wpAnyH_take (i := 18) (v := ?_) rfl (by kernel_rfl) (by kernel_rfl) (by kernel_rfl) (fun _ _ _ h => h) (Or.inl ⟨by kernel_rfl, ?_⟩) (by assumption) ?_
      rotate_left
      · (intro w hSw; (try dsimp only at hSw); go_simp <;> with_reducible rfl)
      try (simp only [Act.put]; (try simp only [List.setIfInBounds_toArray]); (try simp only [List.set_cons_succ]); (try simp only [List.set_cons_zero]))
      refine wpAnyH_take (i := 19) (v := ?_) rfl (by kernel_rfl) (by kernel_rfl) (by kernel_rfl) (fun _ _ _ h => h) (Or.inl ⟨by kernel_rfl, ?_⟩) (by assumption) ?_
      rotate_left
      · (intro w hSw; (try dsimp only at hSw); go_simp <;> with_reducible rfl)
      try (simp only [Act.put]; (try simp only [List.setIfInBounds_toArray]); (try simp only [List.set_cons_succ]); (try simp only [List.set_cons_zero]))
      refine wpAnyH_ready (rs := [20]) (by kernel_rfl) (by simp) ?_
      refine AllReadyH.cons rfl (fun K hK => ?_) AllReadyH.nil
      go_simp
      (go_at_call 11; (with_reducible refine (stH_6 x.a x.b x.c q false _ (HNX.out.below (Below.up HB2.out (by (repeat (first | exact Below.refl _ _ | apply Below.drew | (apply below_alloc_on (Nat.le_refl _))))))) GQ GQZ HTQ).mono ?_); rintro e w33 ⟨rfl, hb⟩; have HB3 := Lib.hid (Below.up HB2.out (Below.up (by (repeat (first | exact Below.refl _ _ | apply Below.drew | (apply below_alloc_on (Nat.le_refl _))))) hb)))
      refine hK.out _ _ ?_ (fun hHeld => ?_)
      · ((try dsimp only); all_goals (refine ⟨?_, ?_, ?_, ?_, ?_, ?_, ?_, ?_, ?_, ?_, ?_, ?_, ?_, ?_, ?_, ?_, ?_, ?_, ?_, ?_⟩ <;> (repeat (first | with_reducible assumption | with_reducible apply cell_alloc_some | with_reducible apply cell_drew_some | with_reducible refine cell_below (by with_reducible assumption) ?_ | with_reducible refine cell_set_other (by omega) ?_))))
      clear hK K
      try (simp only [Act.put]; (try simp only [List.setIfInBounds_toArray]); (try simp only [List.set_cons_succ]); (try simp only [List.set_cons_zero]))
      refine wpAnyH_ready (rs := [21]) (by kernel_rfl) (by simp) ?_
      refine AllReadyH.cons rfl (fun K hK => ?_) AllReadyH.nil
      go_simp
      refine hK.out _ _ ?_ (fun hHeld => ?_)
      · ((try dsimp only); all_goals (refine ⟨?_, ?_, ?_, ?_, ?_, ?_, ?_, ?_, ?_, ?_, ?_, ?_, ?_, ?_, ?_, ?_, ?_, ?_, ?_, ?_⟩ <;> (repeat (first | with_reducible assumption | with_reducible apply cell_alloc_some | with_reducible apply cell_drew_some | with_reducible refine cell_below (by with_reducible assumption) ?_ | with_reducible refine cell_set_other (by omega) ?_))))
      clear hK K
      try (simp only [Act.put]; (try simp only [List.setIfInBounds_toArray]); (try simp only [List.set_cons_succ]); (try simp only [List.set_cons_zero]))
      refine wpAnyH_ready (rs := [22]) (by kernel_rfl) (by simp) ?_
      refine AllReadyH.cons rfl (fun K hK => ?_) AllReadyH.nil
      go_simp
      refine hK.out _ _ ?_ (fun hHeld => ?_)
      · ((try dsimp only); all_goals (refine ⟨?_, ?_, ?_, ?_, ?_, ?_, ?_, ?_, ?_, ?_, ?_, ?_, ?_, ?_, ?_, ?_, ?_, ?_, ?_, ?_⟩ <;> (repeat (first | with_reducible assumption | with_reducible apply cell_alloc_some | with_reducible apply cell_drew_some | with_reducible refine cell_below (by with_reducible assumption) ?_ | with_reducible refine cell_set_other (by omega) ?_))))
      clear hK K
      try (simp only [Act.put]; (try simp only [List.setIfInBounds_toArray]); (try simp only [List.set_cons_succ]); (try simp only [List.set_cons_zero]))
      refine wpAnyH_ready (rs := [23]) (by kernel_rfl) (by simp) ?_
      refine AllReadyH.cons rfl (fun K hK => ?_) AllReadyH.nil
      go_simp
      refine hK.out _ _ ?_ (fun hHeld => ?_)
      · ((try dsimp only); all_goals (refine ⟨?_, ?_, ?_, ?_, ?_, ?_, ?_, ?_, ?_, ?_, ?_, ?_, ?_, ?_, ?_, ?_, ?_, ?_, ?_, ?_⟩ <;> (repeat (first | with_reducible assumption | with_reducible apply cell_alloc_some | with_reducible apply cell_drew_some | with_reducible refine cell_below (by with_reducible assumption) ?_ | with_reducible refine cell_set_other (by omega) ?_))))
      clear hK K
      try (simp only [Act.put]; (try simp only [List.setIfInBounds_toArray]); (try simp only [List.set_cons_succ]); (try simp only [List.set_cons_zero]))
      refine wpAnyH_take (i := 24) (v := ?_) rfl (by kernel_rfl) (by kernel_rfl) (by kernel_rfl) (fun _ _ _ h => h) (Or.inl ⟨by kernel_rfl, ?_⟩) (by assumption) ?_
      rotate_left
      · (intro w hSw; (try dsimp only at hSw); go_simp <;> with_reducible rfl)
      try (simp only [Act.put]; (try simp only [List.setIfInBounds_toArray]); (try simp only [List.set_cons_succ]); (try simp only [List.set_cons_zero]))
      refine wpAnyH_take (i := 25) (v := ?_) rfl (by kernel_rfl) (by kernel_rfl) (by kernel_rfl) (fun _ _ _ h => h) (Or.inl ⟨by kernel_rfl, ?_⟩) (by assumption) ?_
      rotate_left
      · (intro w hSw; (try dsimp only at hSw); go_simp <;> with_reducible rfl)
      try (simp only [Act.put]; (try simp only [List.setIfInBounds_toArray]); (try simp only [List.set_cons_succ]); (try simp only [List.set_cons_zero]))
      refine wpAnyH_take (i := 27) (v := ?_) rfl (by kernel_rfl) (by kernel_rfl) (by kernel_rfl) (fun _ _ _ h => h) (Or.inl ⟨by kernel_rfl, ?_⟩) (by assumption) ?_
      rotate_left
      · (intro w hSw; (try dsimp only at hSw); go_simp <;> with_reducible rfl)
      try (simp only [Act.put]; (try simp only [List.setIfInBounds_toArray]); (try simp only [List.set_cons_succ]); (try simp only [List.set_cons_zero]))
      refine wpAnyH_take (i := 28) (v := ?_) rfl (by kernel_rfl) (by kernel_rfl) (by kernel_rfl) (fun _ _ _ h => h) (Or.inl ⟨by kernel_rfl, ?_⟩) (by assumption) ?_
      rotate_left
      · (intro w hSw; (try dsimp only at hSw); go_simp <;> with_reducible rfl)
      try (simp only [Act.put]; (try simp only [List.setIfInBounds_toArray]); (try simp only [List.set_cons_succ]); (try simp only [List.set_cons_zero]))
      refine wpAnyH_take (i := 29) (v := ?_) rfl (by kernel_rfl) (by kernel_rfl) (by kernel_rfl) (fun _ _ _ h => h) (Or.inl ⟨by kernel_rfl, ?_⟩) (by assumption) ?_
      rotate_left
      · (intro w hSw; (try dsimp only at hSw); go_simp <;> with_reducible rfl)
      try (simp only [Act.put]; (try simp only [List.setIfInBounds_toArray]); (try simp only [List.set_cons_succ]); (try simp only [List.set_cons_zero]))
      refine wpAnyH_ready (rs := [26]) (by kernel_rfl) (by simp) ?_
      refine AllReadyH.cons rfl (fun K hK => ?_) AllReadyH.nil
      go_simp
      (go_at_call 11; (with_reducible refine (stH_7 x.a x.b x.c q false _ (HNX.out.below (Below.up HB3.out (by (repeat (first | exact Below.refl _ _ | apply Below.drew | (apply below_alloc_on (Nat.le_refl _))))))) GQ GQZ HCQQ).mono ?_); rintro e w34 ⟨rfl, hb⟩; have HB4 := Lib.hid (Below.up HB3.out (Below.up (by (repeat (first | exact Below.refl _ _ | apply Below.drew | (apply below_alloc_on (Nat.le_refl _))))) hb)))
      refine hK.out _ _ ?_ (fun hHeld => ?_)
      · ((try dsimp only); all_goals (refine ⟨?_, ?_, ?_, ?_, ?_, ?_, ?_, ?_, ?_, ?_, ?_, ?_, ?_, ?_, ?_, ?_, ?_, ?_, ?_, ?_⟩ <;> (repeat (first | with_reducible assumption | with_reducible apply cell_alloc_some | with_reducible apply cell_drew_some | with_reducible refine cell_below (by with_reducible assumption) ?_ | with_reducible refine cell_set_other (by omega) ?_))))
      clear hK K
      try (simp only [Act.put]; (try simp only [List.setIfInBounds_toArray]); (try simp only [List.set_cons_succ]); (try simp only [List.set_cons_zero]))
      refine wpAnyH_ready (rs := [30]) (by kernel_rfl) (by simp) ?_
      refine AllReadyH.cons rfl (fun K hK => ?_) AllReadyH.nil
      go_simp
      refine hK.out _ _ ?_ (fun hHeld => ?_)
      · ((try dsimp only); all_goals (refine ⟨?_, ?_, ?_, ?_, ?_, ?_, ?_, ?_, ?_, ?_, ?_, ?_, ?_, ?_, ?_, ?_, ?_, ?_, ?_, ?_⟩ <;> (repeat (first | with_reducible assumption | with_reducible apply cell_alloc_some | with_reducible apply cell_drew_some | with_reducible refine cell_below (by with_reducible assumption) ?_ | with_reducible refine cell_set_other (by omega) ?_))))
      clear hK K
      try (simp only [Act.put]; (try simp only [List.setIfInBounds_toArray]); (try simp only [List.set_cons_succ]); (try simp only [List.set_cons_zero]))
      refine wpAnyH_ready (rs := [31]) (by kernel_rfl) (by simp) ?_
      refine AllReadyH.cons rfl (fun K hK => ?_) AllReadyH.nil
      go_simp
      refine hK.out _ _ ?_ (fun hHeld => ?_)
      · ((try dsimp only); all_goals (refine ⟨?_, ?_, ?_, ?_, ?_, ?_, ?_, ?_, ?_, ?_, ?_, ?_, ?_, ?_, ?_, ?_, ?_, ?_, ?_, ?_⟩ <;> (repeat (first | with_reducible assumption | with_reducible apply cell_alloc_some | with_reducible apply cell_drew_some | with_reducible refine cell_below (by with_reducible assumption) ?_ | with_reducible refine cell_set_other (by omega) ?_))))
      clear hK K
      try (simp only [Act.put]; (try simp only [List.setIfInBounds_toArray]); (try simp only [List.set_cons_succ]); (try simp only [List.set_cons_zero]))
      refine wpAnyH_ready (rs := [32]) (by kernel_rfl) (by simp) ?_
      refine AllReadyH.cons rfl (fun K hK => ?_) AllReadyH.nil
      go_simp
      refine hK.out _ _ ?_ (fun hHeld => ?_)
      · ((try dsimp only); all_goals (refine ⟨?_, ?_, ?_, ?_, ?_, ?_, ?_, ?_, ?_, ?_, ?_, ?_, ?_, ?_, ?_, ?_, ?_, ?_, ?_, ?_⟩ <;> (repeat (first | with_reducible assumption | with_reducible apply cell_alloc_some | with_reducible apply cell_drew_some | with_reducible refine cell_below (by with_reducible assumption) ?_ | with_reducible refine cell_set_other (by omega) ?_))))
      clear hK K
      try (simp only [Act.put]; (try simp only [List.setIfInBounds_toArray]); (try simp only [List.set_cons_succ]); (try simp only [List.set_cons_zero]))
      refine wpAnyH_take (i := 33) (v := ?_) rfl (by kernel_rfl) (by kernel_rfl) (by kernel_rfl) (fun _ _ _ h => h) (Or.inl ⟨by kernel_rfl, ?_⟩) (by assumption) ?_
      rotate_left
      · (intro w hSw; (try dsimp only at hSw); go_simp <;> with_reducible rfl)
      try (simp only [Act.put]; (try simp only [List.setIfInBounds_toArray]); (try simp only [List.set_cons_succ]); (try simp only [List.set_cons_zero]))
      refine wpAnyH_take (i := 34) (v := ?_) rfl (by kernel_rfl) (by kernel_rfl) (by kernel_rfl) (fun _ _ _ h => h) (Or.inl ⟨by kernel_rfl, ?_⟩) (by assumption) ?_
      rotate_left
      · (intro w hSw; (try dsimp only at hSw); go_simp <;> with_reducible rfl)
      try (simp only [Act.put]; (try simp only [List.setIfInBounds_toArray]); (try simp only [List.set_cons_succ]); (try simp only [List.set_cons_zero]))
      refine wpAnyH_ready (rs := [35]) (by kernel_rfl) (by simp) ?_
      refine AllReadyH.cons rfl (fun K hK => ?_) AllReadyH.nil
      go_simp
      (go_at_call 11; (with_reducible refine (stH_6 x.a x.b x.c r false _ (HNX.out.below (Below.up HB4.out (by (repeat (first | exact Below.refl _ _ | apply Below.drew | (apply below_alloc_on (Nat.le_refl _))))))) GR GRZ HTR).mono ?_); rintro e w35 ⟨rfl, hb⟩; have HB5 := Lib.hid (Below.up HB4.out (Below.up (by (repeat (first | exact Below.refl _ _ | apply Below.drew | (apply below_alloc_on (Nat.le_refl _))))) hb)))
      refine hK.out _ _ ?_ (fun hHeld => ?_)
      · ((try dsimp only); all_goals (refine ⟨?_, ?_, ?_, ?_, ?_, ?_, ?_, ?_, ?_, ?_, ?_, ?_, ?_, ?_, ?_, ?_, ?_, ?_, ?_, ?_⟩ <;> (repeat (first | with_reducible assumption | with_reducible apply cell_alloc_some | with_reducible apply cell_drew_some | with_reducible refine cell_below (by with_reducible assumption) ?_ | with_reducible refine cell_set_other (by omega) ?_))))
      clear hK K
      try (simp only [Act.put]; (try simp only [List.setIfInBounds_toArray]); (try simp only [List.set_cons_succ]); (try simp only [List.set_cons_zero]))
      refine wpAnyH_ready (rs := [36]) (by kernel_rfl) (by simp) ?_
      refine AllReadyH.cons rfl (fun K hK => ?_) AllReadyH.nil
      go_simp
      refine hK.out _ _ ?_ (fun hHeld => ?_)
      · ((try dsimp only); all_goals (refine ⟨?_, ?_, ?_, ?_, ?_, ?_, ?_, ?_, ?_, ?_, ?_, ?_, ?_, ?_, ?_, ?_, ?_, ?_, ?_, ?_⟩ <;> (repeat (first | with_reducible assumption | with_reducible apply cell_alloc_some | with_reducible apply cell_drew_some | with_reducible refine cell_below (by with_reducible assumption) ?_ | with_reducible refine cell_set_other (by omega) ?_))))
      clear hK K
      try (simp only [Act.put]; (try simp only [List.setIfInBounds_toArray]); (try simp only [List.set_cons_succ]); (try simp only [List.set_cons_zero]))
      refine wpAnyH_ready (rs := [37]) (by kernel_rfl) (by simp) ?_
      refine AllReadyH.cons rfl (fun K hK => ?_) AllReadyH.nil
      go_simp
      refine hK.out _ _ ?_ (fun hHeld => ?_)
      · ((try dsimp only); all_goals (refine ⟨?_, ?_, ?_, ?_, ?_, ?_, ?_, ?_, ?_, ?_, ?_, ?_, ?_, ?_, ?_, ?_, ?_, ?_, ?_, ?_⟩ <;> (repeat (first | with_reducible assumption | with_reducible apply cell_alloc_some | with_reducible apply cell_drew_some | with_reducible refine cell_below (by with_reducible assumption) ?_ | with_reducible refine cell_set_other (by omega) ?_))))
      clear hK K
      try (simp only [Act.put]; (try simp only [List.setIfInBounds_toArray]); (try simp only [List.set_cons_succ]); (try simp only [List.set_cons_zero]))
      refine wpAnyH_ready (rs := [38]) (by kernel_rfl) (by simp) ?_
      refine AllReadyH.cons rfl (fun K hK => ?_) AllReadyH.nil
      go_simp
      refine hK.out _ _ ?_ (fun hHeld => ?_)
      · ((try dsimp only); all_goals (refine ⟨?_, ?_, ?_, ?_, ?_, ?_, ?_, ?_, ?_, ?_, ?_, ?_, ?_, ?_, ?_, ?_, ?_, ?_, ?_, ?_⟩ <;> (repeat (first | with_reducible assumption | with_reducible apply cell_alloc_some | with_reducible apply cell_drew_some | with_reducible refine cell_below (by with_reducible assumption) ?_ | with_reducible refine cell_set_other (by omega) ?_))))
      clear hK K
      try (simp only [Act.put]; (try simp only [List.setIfInBounds_toArray]); (try simp only [List.set_cons_succ]); (try simp only [List.set_cons_zero]))
      refine wpAnyH_take (i := 39) (v := ?_) rfl (by kernel_rfl) (by kernel_rfl) (by kernel_rfl) (fun _ _ _ h => h) (Or.inl ⟨by kernel_rfl, ?_⟩) (by assumption) ?_
      rotate_left
      · (intro w hSw; (try dsimp only at hSw); go_simp <;> with_reducible rfl)
      try (simp only [Act.put]; (try simp only [List.setIfInBounds_toArray]); (try simp only [List.set_cons_succ]); (try simp only [List.set_cons_zero]))
      refine wpAnyH_take (i := 40) (v := ?_) rfl (by kernel_rfl) (by kernel_rfl) (by kernel_rfl) (fun _ _ _ h => h) (Or.inl ⟨by kernel_rfl, ?_⟩) (by assumption) ?_
      rotate_left
      · (intro w hSw; (try dsimp only at hSw); go_simp <;> with_reducible rfl)
      try (simp only [Act.put]; (try simp only [List.setIfInBounds_toArray]); (try simp only [List.set_cons_succ]); (try simp only [List.set_cons_zero]))
      refine wpAnyH_ready (rs := [41]) (by kernel_rfl) (by simp) ?_
      refine AllReadyH.cons rfl (fun K hK => ?_) AllReadyH.nil
      go_simp
      (go_at_call 11; (with_reducible refine (stH_7 x.a x.b x.c r false _ (HNX.out.below (Below.up HB5.out (by (repeat (first | exact Below.refl _ _ | apply Below.drew | (apply below_alloc_on (Nat.le_refl _))))))) GR GRZ HCRR).mono ?_); rintro e w36 ⟨rfl, hb⟩; have HB6 := Lib.hid (Below.up HB5.out (Below.up (by (repeat (first | exact Below.refl _ _ | apply Below.drew | (apply below_alloc_on (Nat.le_refl _))))) hb)))
      refine hK.out _ _ ?_ (fun hHeld => ?_)
      · ((try dsimp only); all_goals (refine ⟨?_, ?_, ?_, ?_, ?_, ?_, ?_, ?_, ?_, ?_, ?_, ?_, ?_, ?_, ?_, ?_, ?_, ?_, ?_, ?_⟩ <;> (repeat (first | with_reducible assumption | with_reducible apply cell_alloc_some | with_reducible apply cell_drew_some | with_reducible refine cell_below (by with_reducible assumption) ?_ | with_reducible refine cell_set_other (by omega) ?_))))
      clear hK K
      try (simp only [Act.put]; (try simp only [List.setIfInBounds_toArray]); (try simp only [List.set_cons_succ]); (try simp only [List.set_cons_zero]))
      refine wpAnyH_ready (rs := [42]) (by kernel_rfl) (by simp) ?_
      refine AllReadyH.cons rfl (fun K hK => ?_) AllReadyH.nil
      go_simp
      refine hK.out _ _ ?_ (fun hHeld => ?_)
      · ((try dsimp only); all_goals (refine ⟨?_, ?_, ?_, ?_, ?_, ?_, ?_, ?_, ?_, ?_, ?_, ?_, ?_, ?_, ?_, ?_, ?_, ?_, ?_, ?_⟩ <;> (repeat (first | with_reducible assumption | with_reducible apply cell_alloc_some | with_reducible apply cell_drew_some | with_reducible refine cell_below (by with_reducible assumption) ?_ | with_reducible refine cell_set_other (by omega) ?_))))
      clear hK K
      try (simp only [Act.put]; (try simp only [List.setIfInBounds_toArray]); (try simp only [List.set_cons_succ]); (try simp only [List.set_cons_zero]))
      refine wpAnyH_ready (rs := [43]) (by kernel_rfl) (by simp) ?_
      refine AllReadyH.cons rfl (fun K hK => ?_) AllReadyH.nil
      go_simp
      refine hK.out _ _ ?_ (fun hHeld => ?_)
      · ((try dsimp only); all_goals (refine ⟨?_, ?_, ?_, ?_, ?_, ?_, ?_, ?_, ?_, ?_, ?_, ?_, ?_, ?_, ?_, ?_, ?_, ?_, ?_, ?_⟩ <;> (repeat (first | with_reducible assumption | with_reducible apply cell_alloc_some | with_reducible apply cell_drew_some | with_reducible refine cell_below (by with_reducible assumption) ?_ | with_reducible refine cell_set_other (by omega) ?_))))
      clear hK K
      try (simp only [Act.put]; (try simp only [List.setIfInBounds_toArray]); (try simp only [List.set_cons_succ]); (try simp only [List.set_cons_zero]))
      refine wpAnyH_ready (rs := [44]) (by kernel_rfl) (by simp) ?_
      refine AllReadyH.cons rfl (fun K hK => ?_) AllReadyH.nil
      go_simp
      refine hK.out _ _ ?_ (fun hHeld => ?_)
      · ((try dsimp only); all_goals (refine ⟨?_, ?_, ?_, ?_, ?_, ?_, ?_, ?_, ?_, ?_, ?_, ?_, ?_, ?_, ?_, ?_, ?_, ?_, ?_, ?_⟩ <;> (repeat (first | with_reducible assumption | with_reducible apply cell_alloc_some | with_reducible apply cell_drew_some | with_reducible refine cell_below (by with_reducible assumption) ?_ | with_reducible refine cell_set_other (by omega) ?_))))
      clear hK K
      try (simp only [Act.put]; (try simp only [List.setIfInBounds_toArray]); (try simp only [List.set_cons_succ]); (try simp only [List.set_cons_zero]))
      refine wpAnyH_done (by kernel_rfl) ?_ _
      go_wp2
      go_ret
      exact ⟨rfl, Below.up HBX.out (Below.up HB6.out (by (repeat (first | exact Below.refl _ _ | apply Below.drew | (apply below_alloc_on (Nat.le_refl _))))))⟩
theorem upgrade_walk (x : V) (w : World) (hE : NumErrs w ∧ Pow10 w) (hu : x.u64) (hz : x.p.size ≤ 140737488351232 ∧ x.m.size ≤ 140737488351232) :
    Calls Tryd.prog 3 #[x.v] w fun e w' => e = .returned (.bool true) ∧ Below w.heap.size w w' := upgrade_law x w hE.1 hE.2 hu hz.1 hz.2
end Go.Proofs.YtnkdpgcfaelpkaaDoor
