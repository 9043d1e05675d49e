/-
  SpecCmp, SpecNum, SpecPre, SpecVer, SpecNumK, Agg, Term, LessC, Below, MetaSet, StTerm, TermSmall, TermAgg, GoodTerm, Hold.
-/
import Derived.Test.YtnkdpgcfaelpkaaDoorBaseB
import Derived.WalkKit
import Derived.ProofKit
import Derived.OpenShut
import Derived.ShutString
import Derived.SizedLaws
import Derived.Deep.Fields
import Derived.LaidSub
import Derived.Deep.DeepCutAuto
/-
  The specification's order: spec.order, spec.ComparePart.
-/
namespace Go.Proofs.YtnkdpgcfaelpkaaDoor
open Go.RowKit
set_option maxRecDepth 100000
set_option linter.unusedVariables false

theorem digits_is (s : ByteArray) (r : Bool) (w : World) (hs : s.size ≤ 140737488351232) (hr : Hid (M.digits (M.bs s) = r)) :
    Calls Tryd.prog 52 #[.string s] w fun e w' => e = .returned (.bool r) ∧ w' = w := by
  have := digits_any s w (by omega)
  rw [hr.out] at this
  exact this
theorem len_bs (s : ByteArray) : (M.bs s).length = s.size := M.bs_length s

end Go.Proofs.YtnkdpgcfaelpkaaDoor

/-
  spec.CompareNumbers.
-/
namespace Go.Proofs.YtnkdpgcfaelpkaaDoor
open Go.RowKit
set_option maxRecDepth 100000
set_option linter.unusedVariables false

def V.numsFrom (x y : V) : Nat → Int
  | 0 => x.nums3 y
  | 1 => if M.seg x.b y.b ≠ 0 then M.seg x.b y.b else M.seg x.c y.c
  | 2 => M.seg x.c y.c
  | _ => 0
def V.num (x : V) : Nat → Nat
  | 0 => x.a
  | 1 => x.b
  | _ => x.c
theorem numsFrom_step (x y : V) : ∀ k, k < 3 → x.numsFrom y k = if M.seg (x.num k) (y.num k) ≠ 0 then M.seg (x.num k) (y.num k) else x.numsFrom y (k + 1)
  | 0, _ => rfl
  | 1, _ => rfl
  | 2, _ => by
    show M.seg x.c y.c = if M.seg x.c y.c ≠ 0 then M.seg x.c y.c else 0
    by_cases h : M.seg x.c y.c = 0
    · rw [if_neg (by simp [h]), h]
    · rw [if_pos h]

end Go.Proofs.YtnkdpgcfaelpkaaDoor

/-
  spec.ComparePre.
-/
namespace Go.Proofs.YtnkdpgcfaelpkaaDoor
open Go.RowKit
set_option maxRecDepth 100000
set_option linter.unusedVariables false

theorem seg_up {a b : Nat} (h : b < a) : M.seg a b = 1 := by unfold M.seg; rw [if_neg (by omega), if_pos h]
theorem seg_down {a b : Nat} (h : a < b) : M.seg a b = -1 := by unfold M.seg; rw [if_pos h]
theorem seg_same (a : Nat) : M.seg a a = 0 := by unfold M.seg; rw [if_neg (by omega), if_neg (by omega)]
end Go.Proofs.YtnkdpgcfaelpkaaDoor

/-
  spec.ComparePre, spec.Compare.
-/
namespace Go.Proofs.YtnkdpgcfaelpkaaDoor
open Go.RowKit
set_option maxRecDepth 100000
set_option linter.unusedVariables false

end Go.Proofs.YtnkdpgcfaelpkaaDoor

/-
  spec.CompareNumbers at any number of numbers (at most three).
-/
namespace Go.Proofs.YtnkdpgcfaelpkaaDoor
open Go.RowKit
set_option maxRecDepth 100000
set_option linter.unusedVariables false

/-- the first k numbers compared, with r rounds left -/
def V.nk (x y : V) (k : Nat) : Nat → Int
  | 0 => 0
  | r + 1 => if 2 - r < k then (if M.seg (x.num (2 - r)) (y.num (2 - r)) ≠ 0 then M.seg (x.num (2 - r)) (y.num (2 - r)) else V.nk x y k r) else 0
def V.numsK (x y : V) (k : Nat) : Int := V.nk x y k 3
theorem nk_step (x y : V) (k i : Nat) (hk : k ≤ 3) (h : i < k) : V.nk x y k (3 - i) = if M.seg (x.num i) (y.num i) ≠ 0 then M.seg (x.num i) (y.num i) else V.nk x y k (3 - (i + 1)) := by
  have e : 3 - i = (2 - i) + 1 := by omega
  rw [e, V.nk]
  have e2 : 2 - (2 - i) = i := by omega
  rw [e2, if_pos h, show 3 - (i + 1) = 2 - i by omega]
theorem nk_end (x y : V) (k : Nat) (hk : k ≤ 3) : V.nk x y k (3 - k) = 0 := by
  obtain rfl | rfl | rfl | rfl : k = 0 ∨ k = 1 ∨ k = 2 ∨ k = 3 := by omega
  all_goals simp [V.nk]
theorem numsK_3 (x y : V) : x.numsK y 3 = x.nums3 y := by
  unfold V.numsK V.nums3
  simp only [V.nk, V.num]
  by_cases h1 : M.seg x.a y.a = 0 <;> by_cases h2 : M.seg x.b y.b = 0 <;> by_cases h3 : M.seg x.c y.c = 0 <;> simp [h1, h2, h3]

end Go.Proofs.YtnkdpgcfaelpkaaDoor

/-
  A parameter that is a version (a struct by value): opened, shut, its strings' sizes.
-/
namespace Go.Proofs.YtnkdpgcfaelpkaaDoor
open Go.ChangeShapes Go.WideShapes Go.RowKit
set_option maxRecDepth 100000

section
variable {H : Type} {enc : TypeId × Value → H} {w : World} {base b0 : Nat} {spare : Nat → Bool} {held : Bool} {r : Reach} {v : Value} {dd : DataW H} {p : List MemPlace}

/-- a version as a datum -/
def V.d (H : Type) (x : V) : DataW H := .agg [.lit (.int .u64 x.a), .lit (.int .u64 x.b), .lit (.int .u64 x.c), .lit (.string x.p.data.toList), .lit (.string x.m.data.toList)]
theorem ver_cells : Tryd.prog.cellsOf 24 = 5 := by kernel_rfl
theorem u64_cells : Tryd.prog.cellsOf 22 = 1 := by kernel_rfl
theorem str_cells : Tryd.prog.cellsOf 9 = 1 := by kernel_rfl
theorem array5 {α : Type} {cs : Array α} (h : cs.size = 5) : ∃ c0 c1 c2 c3 c4, cs = #[c0, c1, c2, c3, c4] := by
  obtain ⟨l⟩ := cs
  match l, h with
  | [c0, c1, c2, c3, c4], _ => exact ⟨c0, c1, c2, c3, c4, rfl⟩
theorem list5 {α : Type} {cs : List α} (h : cs.length = 5) : ∃ c0 c1 c2 c3 c4, cs = [c0, c1, c2, c3, c4] := by
  match cs, h with
  | [c0, c1, c2, c3, c4], _ => exact ⟨c0, c1, c2, c3, c4, rfl⟩
theorem u64_nat {n : Int} (h : (Lit.int .u64 n).wf = true) : ∃ k : Nat, n = k ∧ k < 18446744073709551616 := by
  have hb : 0 ≤ n ∧ n < 18446744073709551616 := by
    simp [Lit.wf, IntKind.min, IntKind.max, IntKind.signed, IntKind.bits] at h
    omega
  exact ⟨n.toNat, by omega, by omega⟩
theorem nat_u64 {k : Nat} (h : k < 18446744073709551616) : (Lit.int .u64 (k : Int)).wf = true := by
  simp [Lit.wf, IntKind.min, IntKind.max, IntKind.signed, IntKind.bits]
  omega
theorem open_ver (hv : Value.okWide Tryd.prog w r b0 24 v) (h : DataW.Trod enc Tryd.prog w base spare held 24 v dd p) :
    ∃ x : V, v = x.v ∧ dd = x.d H ∧ p = [] ∧ x.u64 ∧ x.p.size ≤ maxLen ∧ x.m.size ≤ maxLen := by
  obtain ⟨cs, rfl, hsz⟩ := okWide_struct Tryd.underlying24 hv
  obtain ⟨c0, c1, c2, c3, c4, rfl⟩ := array5 (hsz.trans ver_cells)
  obtain ⟨fuel, hf⟩ := h
  obtain ⟨xs, n, _, hx, hl, hlen, hg⟩ := DataW.trod_struct Tryd.underlying24 hf
  obtain ⟨y0, y1, y2, y3, y4, rfl⟩ := list5 (hlen.trans rfl)
  have h0 : DataW.trod enc Tryd.prog w base spare held n 22 [c0] = some y0 := by simpa [Value.cells, u64_cells] using hg 0 _ rfl
  have h1 : DataW.trod enc Tryd.prog w base spare held n 22 [c1] = some y1 := by simpa [Value.cells, u64_cells] using hg 1 _ rfl
  have h2 : DataW.trod enc Tryd.prog w base spare held n 22 [c2] = some y2 := by simpa [Value.cells, u64_cells] using hg 2 _ rfl
  have h3 : DataW.trod enc Tryd.prog w base spare held n 9 [c3] = some y3 := by simpa [Value.cells, str_cells] using hg 3 _ rfl
  have h4 : DataW.trod enc Tryd.prog w base spare held n 9 [c4] = some y4 := by simpa [Value.cells, str_cells] using hg 4 _ rfl
  clear hg hl hlen hv hsz hf
  obtain ⟨n0, e0, rfl, w0⟩ := DataW.trod_int Tryd.underlying22 h0
  obtain ⟨n1, e1, rfl, w1⟩ := DataW.trod_int Tryd.underlying22 h1
  obtain ⟨n2, e2, rfl, w2⟩ := DataW.trod_int Tryd.underlying22 h2
  obtain ⟨s3, e3, rfl, w3⟩ := DataW.trod_string Tryd.underlying9 h3
  obtain ⟨s4, e4, rfl, w4⟩ := DataW.trod_string Tryd.underlying9 h4
  simp only [List.cons.injEq, and_true] at e0 e1 e2 e3 e4
  obtain ⟨k0, rfl, b0⟩ := u64_nat w0
  obtain ⟨k1, rfl, b1⟩ := u64_nat w1
  obtain ⟨k2, rfl, b2⟩ := u64_nat w2
  simp only [Prod.mk.injEq] at hx
  refine ⟨⟨k0, k1, k2, s3, s4⟩, ?_, ?_, ?_, ⟨b0, b1, b2⟩, w3, w4⟩
  · rw [e0, e1, e2, e3, e4]; rfl
  · rw [hx.1]; rfl
  · rw [hx.2]; rfl
theorem trod_u64 {k : Nat} (h : k < 18446744073709551616) : DataW.trod enc Tryd.prog w base spare held 1 22 [.int .u64 k] = some (.lit (.int .u64 k), []) := by
  simp [DataW.trod, Tryd.underlying22, nat_u64 h]
theorem trod_str {s : ByteArray} (h : s.size ≤ maxLen) : DataW.trod enc Tryd.prog w base spare held 1 9 [.string s] = some (.lit (.string s.data.toList), []) := by
  simp [DataW.trod, Tryd.underlying9, h]
theorem shut_ver {x : V} (hu : x.u64) (hp : x.p.size ≤ maxLen) (hm : x.m.size ≤ maxLen) : DataW.Trod enc Tryd.prog w base spare held 24 x.v (x.d H) [] := by
  refine ⟨2, ?_⟩
  have := trod_struct_mk (enc := enc) (w := w) (base := base) (spare := spare) (held := held) (n := 1) (cs := [.int .u64 x.a, .int .u64 x.b, .int .u64 x.c, .string x.p, .string x.m]) (xs := [(.lit (.int .u64 x.a), []), (.lit (.int .u64 x.b), []), (.lit (.int .u64 x.c), []), (.lit (.string x.p.data.toList), []), (.lit (.string x.m.data.toList), [])]) Tryd.underlying24 ver_cells.symm
    (by simp [u64_cells, str_cells, trod_u64 hu.1, trod_u64 hu.2.1, trod_u64 hu.2.2, trod_str hp, trod_str hm])
  exact this
theorem sized_ver {ts : List TypeId} {ds : List (DataW H)} (h : (DataW.weightsEach Tryd.prog ts ds).all (· ≤ reachBytes) = true) {j : Nat} {x : V} (ht : ts[j]? = some 24) (hd : ds[j]? = some (x.d H)) :
    x.p.size ≤ 140737488351232 ∧ x.m.size ≤ 140737488351232 := by
  have h1 := List.all_eq_true.1 h _ (DataW.weights_mem_each ht hd x.p.data.toList.length (by simp [V.d, DataW.weights, DataW.weightsEach, Tryd.underlying24]))
  have h2 := List.all_eq_true.1 h _ (DataW.weights_mem_each ht hd x.m.data.toList.length (by simp [V.d, DataW.weights, DataW.weightsEach, Tryd.underlying24]))
  simp only [decide_eq_true_eq, Array.length_toList] at h1 h2
  exact ⟨h1, h2⟩
end
end Go.Proofs.YtnkdpgcfaelpkaaDoor

/-
  Terms of constraints: impl.operator, impl.term, (ZZTerm).inner.
-/
namespace Go.Proofs.YtnkdpgcfaelpkaaDoor
open Go.RowKit
set_option maxRecDepth 100000
set_option linter.unusedVariables false

/-- a term's parts -/
structure T where
  (op g : Int)
  (a b c : Nat)
  (p : ByteArray)
def T.ver (t : T) : V := ⟨t.a, t.b, t.c, t.p, ⟨#[]⟩⟩
def T.dirty (t : T) : Bool := decide (0 ≤ t.g) && decide (t.g < 3)
def T.minor (t : T) : Bool := t.g == 1
def T.patch (t : T) : Bool := t.g == 2

theorem cell_set_other {w : World} {N M i j : Nat} {v x : Value} (h : N ≠ M) (hc : w.cell? ⟨N, j, none⟩ = some x) : (w.setCell ⟨M, i, none⟩ v).cell? ⟨N, j, none⟩ = some x := by
  rw [World.cell?_of_block (w := w) (heap_setCell_other w ⟨M, i, none⟩ N v h)]
  exact hc
theorem blk_store5 {w : World} {N : Nat} {t : TypeId} {u0 u1 u2 u3 u4 : Value} (h : w.heap[N]? = some (.cells #[u0, u1, u2, u3, u4] t (0, 0))) (v0 v1 v2 v3 v4 : Value) :
    (((((w.setCell ⟨N, 0, none⟩ v0).setCell ⟨N, 1, none⟩ v1).setCell ⟨N, 2, none⟩ v2).setCell ⟨N, 3, none⟩ v3).setCell ⟨N, 4, none⟩ v4).heap[N]? = some (.cells #[v0, v1, v2, v3, v4] t (0, 0)) := by
  have h0 := heap_setCell_same w N 0 _ _ v0 h
  have h1 := heap_setCell_same _ N 1 _ _ v1 h0
  have h2 := heap_setCell_same _ N 2 _ _ v2 h1
  have h3 := heap_setCell_same _ N 3 _ _ v3 h2
  have h4 := heap_setCell_same _ N 4 _ _ v4 h3
  simpa using h4

set_option maxHeartbeats 1000000 in
theorem operator_any (op : Int) (w : World) : Calls Tryd.prog 54 #[.int .i64 op] w fun e w' => (∃ s, e = .returned (.string s)) ∧ w' = w := by
  go_enter Tryd.func54, Tryd.ntmps54
  go_wp2
  all_goals go_ways
  all_goals
    go_ret
    exact ⟨⟨_, rfl⟩, rfl⟩
theorem zzVersion_exact (x : V) (w : World) : Calls Tryd.prog 36 #[.int .u64 x.a, .int .u64 x.b, .int .u64 x.c, .string x.p, .string x.m] w fun e w' => e = .returned (.pointer (some ⟨w.heap.size, 0, none⟩)) ∧ w' = w.alloc (x.cells ⟨#[]⟩) := by
  go_enter Tryd.func36, Tryd.ntmps36
  go_wp2
  go_ret
  exact ⟨rfl, rfl⟩
theorem blk_below {w w' : World} {n : Nat} {o : Obj} (hb : Below w.heap.size w w') (h : w.heap[n]? = some o) : w'.heap[n]? = some o := by
  have hlt : n < w.heap.size := by
    rcases Nat.lt_or_ge n w.heap.size with h' | h'
    · exact h'
    · rw [Array.getElem?_eq_none h'] at h; cases h
  rw [hb.block n hlt]; exact h
theorem blk_loose {w : World} {N : Nat} {cs : Array Value} {t : TypeId} (h : w.heap[N]? = some (.cells cs t (0, 0))) (j : Nat) : w.frozen? ⟨N, j, none⟩ = false := by
  simp [World.frozen?, h]
theorem zzVersion_below (x : V) (w : World) : Calls Tryd.prog 36 #[.int .u64 x.a, .int .u64 x.b, .int .u64 x.c, .string x.p, .string x.m] w (PtrV w x ⟨#[]⟩) := by
  refine (zzVersion_exact x w).mono ?_
  rintro e w' ⟨rfl, rfl⟩
  exact ⟨_, rfl, Nat.le_refl _, alloc_at _ _ _ rfl, below_alloc _ _⟩
theorem inner_exact (s : ByteArray) (p : Option Addr) (d m q : Bool) (w : World) : Calls Tryd.prog 48 #[.agg #[.string s, .pointer p, .bool d, .bool m, .bool q]] w fun e w' =>
    e = .returned (.pointer (some ⟨w.heap.size + 1, 0, none⟩)) ∧ w' = (w.alloc (.cells #[.string s, .pointer p, .bool d, .bool m, .bool q] 69)).alloc (.cells #[.pointer p, .string ⟨#[]⟩, .string s, .bool m, .bool d, .bool q] 82) := by
  go_enter Tryd.func48, Tryd.ntmps48
  go_wp2
  go_ret
  exact ⟨rfl, rfl⟩
theorem errorsNew_any (s : ByteArray) (w : World) : Calls Tryd.prog 66 #[.string s] w fun e w' => (∃ t v, e = .returned (.iface t v)) ∧ Below w.heap.size w w' := by
  go_enter Tryd.func66, Tryd.ntmps66
  go_wp2
  go_ret
  exact ⟨⟨_, _, rfl⟩, below_alloc _ _⟩

def T.zz (t : T) (s : ByteArray) (N : Nat) : Value := .agg #[.string s, .pointer (some ⟨N, 0, none⟩), .bool t.dirty, .bool t.minor, .bool t.patch]
theorem post_blk1 {fn : Func} {p : Tmp} {ty : TypeId} (h : fn.results = #[.cell p ty]) {R : Ending → World → Prop} {a : Act} {w : World} (N : Nat) (cs : Array Value) (hd : a.defers = [])
    (hp : a.tmps.getD p undef = .pointer (some ⟨N, 0, none⟩)) (hg : w.heap[N]? = some (.cells cs ty (0, 0))) (hl : ∀ w' : World, w'.heap[N]? = some (.cells cs ty (0, 0)) → (results fn a.tmps).run Tryd.prog w' = .ok (.agg cs) w')
    (hR : R (.returned (.agg cs)) w) : bodyPost Tryd.prog fn R .ret a w :=
  bodyPost_ret (hl w hg) hd hR

theorem AtV.others {w : World} {N M : Nat} {x : V} {o : ByteArray} (h : AtV w N x o) (hn : N ≠ M) (v0 v1 v2 v3 v4 : Value) :
    AtV (((((w.setCell ⟨M, 0, none⟩ v0).setCell ⟨M, 1, none⟩ v1).setCell ⟨M, 2, none⟩ v2).setCell ⟨M, 3, none⟩ v3).setCell ⟨M, 4, none⟩ v4) N x o :=
  ((((h.other _ _ hn).other _ _ hn).other _ _ hn).other _ _ hn).other _ _ hn
set_option maxHeartbeats 2000000 in
theorem term_g0 (op : Int) (a b c : Nat) (p : ByteArray) (w : World) :
    Calls Tryd.prog 45 #[.agg #[.int .i64 op, .int .i64 0, .int .u64 a, .int .u64 b, .int .u64 c, .string p]] w fun e w' => (∃ s N, e = .returned (.agg #[.string s, .pointer (some ⟨N, 0, none⟩), .bool true, .bool false, .bool false]) ∧ AtV w' N ⟨a, b, c, p, ⟨#[]⟩⟩ ⟨#[]⟩) ∧ Below w.heap.size w w' := by
  go_enter Tryd.func45, Tryd.ntmps45
  go_wp2_with fail
  have hZ : ((w.alloc (.cells #[.int .i64 op, .int .i64 0, .int .u64 a, .int .u64 b, .int .u64 c, .string p] 35)).alloc (.cells #[.string ⟨#[]⟩, .pointer none, .bool false, .bool false, .bool false] 69)).heap[w.heap.size + 1]? = some (.cells #[.string ⟨#[]⟩, .pointer none, .bool false, .bool false, .bool false] 69 (0, 0)) := alloc_at _ _ _ (by simp)
  have hX : ((w.alloc (.cells #[.int .i64 op, .int .i64 0, .int .u64 a, .int .u64 b, .int .u64 c, .string p] 35)).alloc (.cells #[.string ⟨#[]⟩, .pointer none, .bool false, .bool false, .bool false] 69)).heap[w.heap.size]? = some (.cells #[.int .i64 op, .int .i64 0, .int .u64 a, .int .u64 b, .int .u64 c, .string p] 35 (0, 0)) := heap_alloc_some (alloc_at _ _ _ rfl)
  have hW : Below w.heap.size w ((w.alloc (.cells #[.int .i64 op, .int .i64 0, .int .u64 a, .int .u64 b, .int .u64 c, .string p] 35)).alloc (.cells #[.string ⟨#[]⟩, .pointer none, .bool false, .bool false, .bool false] 69)) := by (repeat (first | exact Below.refl _ _ | apply Below.drew | (apply below_alloc_on (Nat.le_refl _))))
  generalize ((w.alloc (.cells #[.int .i64 op, .int .i64 0, .int .u64 a, .int .u64 b, .int .u64 c, .string p] 35)).alloc (.cells #[.string ⟨#[]⟩, .pointer none, .bool false, .bool false, .bool false] 69)) = W at *
  have HW := Lib.hid hW
  have HZ := Lib.hid hZ
  have c0 : W.cell? ⟨w.heap.size, 0, none⟩ = some (.int .i64 op) := by rw [cell_of_row W _ _ _ _ _ hX]; rfl
  have c1 : W.cell? ⟨w.heap.size, 1, none⟩ = some (.int .i64 0) := by rw [cell_of_row W _ _ _ _ _ hX]; rfl
  have c2 : W.cell? ⟨w.heap.size, 2, none⟩ = some (.int .u64 a) := by rw [cell_of_row W _ _ _ _ _ hX]; rfl
  have c3 : W.cell? ⟨w.heap.size, 3, none⟩ = some (.int .u64 b) := by rw [cell_of_row W _ _ _ _ _ hX]; rfl
  have c4 : W.cell? ⟨w.heap.size, 4, none⟩ = some (.int .u64 c) := by rw [cell_of_row W _ _ _ _ _ hX]; rfl
  have c5 : W.cell? ⟨w.heap.size, 5, none⟩ = some (.string p) := by rw [cell_of_row W _ _ _ _ _ hX]; rfl
  clear hX hZ hW
  go_region_held3 (fun w' => w'.cell? ⟨w.heap.size, 0, none⟩ = some (.int .i64 op) ∧ w'.cell? ⟨w.heap.size, 1, none⟩ = some (.int .i64 0) ∧ w'.cell? ⟨w.heap.size, 2, none⟩ = some (.int .u64 a) ∧ w'.cell? ⟨w.heap.size, 3, none⟩ = some (.int .u64 b) ∧ w'.cell? ⟨w.heap.size, 4, none⟩ = some (.int .u64 c) ∧ w'.cell? ⟨w.heap.size, 5, none⟩ = some (.string p)) (first | (refine ⟨?_, ?_, ?_, ?_, ?_, ?_⟩ <;> (repeat (first | with_reducible assumption | with_reducible apply cell_alloc_some | with_reducible apply cell_drew_some | with_reducible refine cell_below (by with_reducible assumption) ?_ | with_reducible refine cell_set_other (by omega) ?_))) | fail) (first
    | (go_at_call 54; (with_reducible refine (operator_any op _).mono ?_); rintro e w1 ⟨⟨s, rfl⟩, rfl⟩)
    | (go_at_call 36; refine (zzVersion_below ⟨a, b, c, p, ⟨#[]⟩⟩ _).mono ?_; rintro e w2 ⟨N, rfl, hN, hat, hb⟩; have hz := blk_below hb (by exact HZ.out); have HB2 := Lib.hid (Below.up (w := W) (by (repeat (first | exact Below.refl _ _ | apply Below.drew | (apply below_alloc_on (Nat.le_refl _))))) hb); have g0 : w2.cell? ⟨w.heap.size + 1, 0, none⟩ = _ := cell_of_row w2 _ _ _ _ _ hz; have g1 : w2.cell? ⟨w.heap.size + 1, 1, none⟩ = _ := cell_of_row w2 _ _ _ _ _ hz; have g2 : w2.cell? ⟨w.heap.size + 1, 2, none⟩ = _ := cell_of_row w2 _ _ _ _ _ hz; have g3 : w2.cell? ⟨w.heap.size + 1, 3, none⟩ = _ := cell_of_row w2 _ _ _ _ _ hz; have g4 : w2.cell? ⟨w.heap.size + 1, 4, none⟩ = _ := cell_of_row w2 _ _ _ _ _ hz; have l0 := blk_loose hz 0; have l1 := blk_loose hz 1; have l2 := blk_loose hz 2; have l3 := blk_loose hz 3; have l4 := blk_loose hz 4; have HZ2 := Lib.hid hz; have HA2 := Lib.hid (show AtV w2 N ⟨a, b, c, p, ⟨#[]⟩⟩ ⟨#[]⟩ from hat); clear hz hat)
    | fail)
  go_wp2
  refine post_blk1 rfl (w.heap.size + 1) #[.string s, .pointer (some ⟨N, 0, none⟩), .bool true, .bool false, .bool false] rfl rfl (blk_store5 HZ2.out _ _ _ _ _) (fun w' h => results_cell_row rfl _ _ _ _ _ (0, 0) _ rfl h Tryd.underlying69 rfl (by kernel_rfl)) ?_
  have hNn : N ≠ w.heap.size + 1 := by
    have h1 : w.heap.size + 1 < W.heap.size := by
      rcases Nat.lt_or_ge (w.heap.size + 1) W.heap.size with h' | h'
      · exact h'
      · have := HZ.out; rw [Array.getElem?_eq_none h'] at this; cases this
    have h2 : W.heap.size ≤ N := hN
    omega
  exact ⟨⟨s, N, rfl, AtV.others HA2.out hNn _ _ _ _ _⟩, up_store5 (Below.up HW.out HB2.out) (Nat.le_succ _) _ _ _ _ _⟩

set_option maxHeartbeats 2000000 in
theorem term_g1 (op : Int) (a b c : Nat) (p : ByteArray) (w : World) :
    Calls Tryd.prog 45 #[.agg #[.int .i64 op, .int .i64 1, .int .u64 a, .int .u64 b, .int .u64 c, .string p]] w fun e w' => (∃ s N, e = .returned (.agg #[.string s, .pointer (some ⟨N, 0, none⟩), .bool true, .bool true, .bool false]) ∧ AtV w' N ⟨a, b, c, p, ⟨#[]⟩⟩ ⟨#[]⟩) ∧ Below w.heap.size w w' := by
  go_enter Tryd.func45, Tryd.ntmps45
  go_wp2_with fail
  have hZ : ((w.alloc (.cells #[.int .i64 op, .int .i64 1, .int .u64 a, .int .u64 b, .int .u64 c, .string p] 35)).alloc (.cells #[.string ⟨#[]⟩, .pointer none, .bool false, .bool false, .bool false] 69)).heap[w.heap.size + 1]? = some (.cells #[.string ⟨#[]⟩, .pointer none, .bool false, .bool false, .bool false] 69 (0, 0)) := alloc_at _ _ _ (by simp)
  have hX : ((w.alloc (.cells #[.int .i64 op, .int .i64 1, .int .u64 a, .int .u64 b, .int .u64 c, .string p] 35)).alloc (.cells #[.string ⟨#[]⟩, .pointer none, .bool false, .bool false, .bool false] 69)).heap[w.heap.size]? = some (.cells #[.int .i64 op, .int .i64 1, .int .u64 a, .int .u64 b, .int .u64 c, .string p] 35 (0, 0)) := heap_alloc_some (alloc_at _ _ _ rfl)
  have hW : Below w.heap.size w ((w.alloc (.cells #[.int .i64 op, .int .i64 1, .int .u64 a, .int .u64 b, .int .u64 c, .string p] 35)).alloc (.cells #[.string ⟨#[]⟩, .pointer none, .bool false, .bool false, .bool false] 69)) := by (repeat (first | exact Below.refl _ _ | apply Below.drew | (apply below_alloc_on (Nat.le_refl _))))
  generalize ((w.alloc (.cells #[.int .i64 op, .int .i64 1, .int .u64 a, .int .u64 b, .int .u64 c, .string p] 35)).alloc (.cells #[.string ⟨#[]⟩, .pointer none, .bool false, .bool false, .bool false] 69)) = W at *
  have HW := Lib.hid hW
  have HZ := Lib.hid hZ
  have c0 : W.cell? ⟨w.heap.size, 0, none⟩ = some (.int .i64 op) := by rw [cell_of_row W _ _ _ _ _ hX]; rfl
  have c1 : W.cell? ⟨w.heap.size, 1, none⟩ = some (.int .i64 1) := by rw [cell_of_row W _ _ _ _ _ hX]; rfl
  have c2 : W.cell? ⟨w.heap.size, 2, none⟩ = some (.int .u64 a) := by rw [cell_of_row W _ _ _ _ _ hX]; rfl
  have c3 : W.cell? ⟨w.heap.size, 3, none⟩ = some (.int .u64 b) := by rw [cell_of_row W _ _ _ _ _ hX]; rfl
  have c4 : W.cell? ⟨w.heap.size, 4, none⟩ = some (.int .u64 c) := by rw [cell_of_row W _ _ _ _ _ hX]; rfl
  have c5 : W.cell? ⟨w.heap.size, 5, none⟩ = some (.string p) := by rw [cell_of_row W _ _ _ _ _ hX]; rfl
  clear hX hZ hW
  go_region_held3 (fun w' => w'.cell? ⟨w.heap.size, 0, none⟩ = some (.int .i64 op) ∧ w'.cell? ⟨w.heap.size, 1, none⟩ = some (.int .i64 1) ∧ w'.cell? ⟨w.heap.size, 2, none⟩ = some (.int .u64 a) ∧ w'.cell? ⟨w.heap.size, 3, none⟩ = some (.int .u64 b) ∧ w'.cell? ⟨w.heap.size, 4, none⟩ = some (.int .u64 c) ∧ w'.cell? ⟨w.heap.size, 5, none⟩ = some (.string p)) (first | (refine ⟨?_, ?_, ?_, ?_, ?_, ?_⟩ <;> (repeat (first | with_reducible assumption | with_reducible apply cell_alloc_some | with_reducible apply cell_drew_some | with_reducible refine cell_below (by with_reducible assumption) ?_ | with_reducible refine cell_set_other (by omega) ?_))) | fail) (first
    | (go_at_call 54; (with_reducible refine (operator_any op _).mono ?_); rintro e w1 ⟨⟨s, rfl⟩, rfl⟩)
    | (go_at_call 36; refine (zzVersion_below ⟨a, b, c, p, ⟨#[]⟩⟩ _).mono ?_; rintro e w2 ⟨N, rfl, hN, hat, hb⟩; have hz := blk_below hb (by exact HZ.out); have HB2 := Lib.hid (Below.up (w := W) (by (repeat (first | exact Below.refl _ _ | apply Below.drew | (apply below_alloc_on (Nat.le_refl _))))) hb); have g0 : w2.cell? ⟨w.heap.size + 1, 0, none⟩ = _ := cell_of_row w2 _ _ _ _ _ hz; have g1 : w2.cell? ⟨w.heap.size + 1, 1, none⟩ = _ := cell_of_row w2 _ _ _ _ _ hz; have g2 : w2.cell? ⟨w.heap.size + 1, 2, none⟩ = _ := cell_of_row w2 _ _ _ _ _ hz; have g3 : w2.cell? ⟨w.heap.size + 1, 3, none⟩ = _ := cell_of_row w2 _ _ _ _ _ hz; have g4 : w2.cell? ⟨w.heap.size + 1, 4, none⟩ = _ := cell_of_row w2 _ _ _ _ _ hz; have l0 := blk_loose hz 0; have l1 := blk_loose hz 1; have l2 := blk_loose hz 2; have l3 := blk_loose hz 3; have l4 := blk_loose hz 4; have HZ2 := Lib.hid hz; have HA2 := Lib.hid (show AtV w2 N ⟨a, b, c, p, ⟨#[]⟩⟩ ⟨#[]⟩ from hat); clear hz hat)
    | fail)
  go_wp2
  refine post_blk1 rfl (w.heap.size + 1) #[.string s, .pointer (some ⟨N, 0, none⟩), .bool true, .bool true, .bool false] rfl rfl (blk_store5 HZ2.out _ _ _ _ _) (fun w' h => results_cell_row rfl _ _ _ _ _ (0, 0) _ rfl h Tryd.underlying69 rfl (by kernel_rfl)) ?_
  have hNn : N ≠ w.heap.size + 1 := by
    have h1 : w.heap.size + 1 < W.heap.size := by
      rcases Nat.lt_or_ge (w.heap.size + 1) W.heap.size with h' | h'
      · exact h'
      · have := HZ.out; rw [Array.getElem?_eq_none h'] at this; cases this
    have h2 : W.heap.size ≤ N := hN
    omega
  exact ⟨⟨s, N, rfl, AtV.others HA2.out hNn _ _ _ _ _⟩, up_store5 (Below.up HW.out HB2.out) (Nat.le_succ _) _ _ _ _ _⟩

set_option maxHeartbeats 2000000 in
theorem term_g2 (op : Int) (a b c : Nat) (p : ByteArray) (w : World) :
    Calls Tryd.prog 45 #[.agg #[.int .i64 op, .int .i64 2, .int .u64 a, .int .u64 b, .int .u64 c, .string p]] w fun e w' => (∃ s N, e = .returned (.agg #[.string s, .pointer (some ⟨N, 0, none⟩), .bool true, .bool false, .bool true]) ∧ AtV w' N ⟨a, b, c, p, ⟨#[]⟩⟩ ⟨#[]⟩) ∧ Below w.heap.size w w' := by
  go_enter Tryd.func45, Tryd.ntmps45
  go_wp2_with fail
  have hZ : ((w.alloc (.cells #[.int .i64 op, .int .i64 2, .int .u64 a, .int .u64 b, .int .u64 c, .string p] 35)).alloc (.cells #[.string ⟨#[]⟩, .pointer none, .bool false, .bool false, .bool false] 69)).heap[w.heap.size + 1]? = some (.cells #[.string ⟨#[]⟩, .pointer none, .bool false, .bool false, .bool false] 69 (0, 0)) := alloc_at _ _ _ (by simp)
  have hX : ((w.alloc (.cells #[.int .i64 op, .int .i64 2, .int .u64 a, .int .u64 b, .int .u64 c, .string p] 35)).alloc (.cells #[.string ⟨#[]⟩, .pointer none, .bool false, .bool false, .bool false] 69)).heap[w.heap.size]? = some (.cells #[.int .i64 op, .int .i64 2, .int .u64 a, .int .u64 b, .int .u64 c, .string p] 35 (0, 0)) := heap_alloc_some (alloc_at _ _ _ rfl)
  have hW : Below w.heap.size w ((w.alloc (.cells #[.int .i64 op, .int .i64 2, .int .u64 a, .int .u64 b, .int .u64 c, .string p] 35)).alloc (.cells #[.string ⟨#[]⟩, .pointer none, .bool false, .bool false, .bool false] 69)) := by (repeat (first | exact Below.refl _ _ | apply Below.drew | (apply below_alloc_on (Nat.le_refl _))))
  generalize ((w.alloc (.cells #[.int .i64 op, .int .i64 2, .int .u64 a, .int .u64 b, .int .u64 c, .string p] 35)).alloc (.cells #[.string ⟨#[]⟩, .pointer none, .bool false, .bool false, .bool false] 69)) = W at *
  have HW := Lib.hid hW
  have HZ := Lib.hid hZ
  have c0 : W.cell? ⟨w.heap.size, 0, none⟩ = some (.int .i64 op) := by rw [cell_of_row W _ _ _ _ _ hX]; rfl
  have c1 : W.cell? ⟨w.heap.size, 1, none⟩ = some (.int .i64 2) := by rw [cell_of_row W _ _ _ _ _ hX]; rfl
  have c2 : W.cell? ⟨w.heap.size, 2, none⟩ = some (.int .u64 a) := by rw [cell_of_row W _ _ _ _ _ hX]; rfl
  have c3 : W.cell? ⟨w.heap.size, 3, none⟩ = some (.int .u64 b) := by rw [cell_of_row W _ _ _ _ _ hX]; rfl
  have c4 : W.cell? ⟨w.heap.size, 4, none⟩ = some (.int .u64 c) := by rw [cell_of_row W _ _ _ _ _ hX]; rfl
  have c5 : W.cell? ⟨w.heap.size, 5, none⟩ = some (.string p) := by rw [cell_of_row W _ _ _ _ _ hX]; rfl
  clear hX hZ hW
  go_region_held3 (fun w' => w'.cell? ⟨w.heap.size, 0, none⟩ = some (.int .i64 op) ∧ w'.cell? ⟨w.heap.size, 1, none⟩ = some (.int .i64 2) ∧ w'.cell? ⟨w.heap.size, 2, none⟩ = some (.int .u64 a) ∧ w'.cell? ⟨w.heap.size, 3, none⟩ = some (.int .u64 b) ∧ w'.cell? ⟨w.heap.size, 4, none⟩ = some (.int .u64 c) ∧ w'.cell? ⟨w.heap.size, 5, none⟩ = some (.string p)) (first | (refine ⟨?_, ?_, ?_, ?_, ?_, ?_⟩ <;> (repeat (first | with_reducible assumption | with_reducible apply cell_alloc_some | with_reducible apply cell_drew_some | with_reducible refine cell_below (by with_reducible assumption) ?_ | with_reducible refine cell_set_other (by omega) ?_))) | fail) (first
    | (go_at_call 54; (with_reducible refine (operator_any op _).mono ?_); rintro e w1 ⟨⟨s, rfl⟩, rfl⟩)
    | (go_at_call 36; refine (zzVersion_below ⟨a, b, c, p, ⟨#[]⟩⟩ _).mono ?_; rintro e w2 ⟨N, rfl, hN, hat, hb⟩; have hz := blk_below hb (by exact HZ.out); have HB2 := Lib.hid (Below.up (w := W) (by (repeat (first | exact Below.refl _ _ | apply Below.drew | (apply below_alloc_on (Nat.le_refl _))))) hb); have g0 : w2.cell? ⟨w.heap.size + 1, 0, none⟩ = _ := cell_of_row w2 _ _ _ _ _ hz; have g1 : w2.cell? ⟨w.heap.size + 1, 1, none⟩ = _ := cell_of_row w2 _ _ _ _ _ hz; have g2 : w2.cell? ⟨w.heap.size + 1, 2, none⟩ = _ := cell_of_row w2 _ _ _ _ _ hz; have g3 : w2.cell? ⟨w.heap.size + 1, 3, none⟩ = _ := cell_of_row w2 _ _ _ _ _ hz; have g4 : w2.cell? ⟨w.heap.size + 1, 4, none⟩ = _ := cell_of_row w2 _ _ _ _ _ hz; have l0 := blk_loose hz 0; have l1 := blk_loose hz 1; have l2 := blk_loose hz 2; have l3 := blk_loose hz 3; have l4 := blk_loose hz 4; have HZ2 := Lib.hid hz; have HA2 := Lib.hid (show AtV w2 N ⟨a, b, c, p, ⟨#[]⟩⟩ ⟨#[]⟩ from hat); clear hz hat)
    | fail)
  go_wp2
  refine post_blk1 rfl (w.heap.size + 1) #[.string s, .pointer (some ⟨N, 0, none⟩), .bool true, .bool false, .bool true] rfl rfl (blk_store5 HZ2.out _ _ _ _ _) (fun w' h => results_cell_row rfl _ _ _ _ _ (0, 0) _ rfl h Tryd.underlying69 rfl (by kernel_rfl)) ?_
  have hNn : N ≠ w.heap.size + 1 := by
    have h1 : w.heap.size + 1 < W.heap.size := by
      rcases Nat.lt_or_ge (w.heap.size + 1) W.heap.size with h' | h'
      · exact h'
      · have := HZ.out; rw [Array.getElem?_eq_none h'] at this; cases this
    have h2 : W.heap.size ≤ N := hN
    omega
  exact ⟨⟨s, N, rfl, AtV.others HA2.out hNn _ _ _ _ _⟩, up_store5 (Below.up HW.out HB2.out) (Nat.le_succ _) _ _ _ _ _⟩

set_option maxHeartbeats 2000000 in
theorem term_g3 (op : Int) (a b c : Nat) (p : ByteArray) (w : World) :
    Calls Tryd.prog 45 #[.agg #[.int .i64 op, .int .i64 3, .int .u64 a, .int .u64 b, .int .u64 c, .string p]] w fun e w' => (∃ s N, e = .returned (.agg #[.string s, .pointer (some ⟨N, 0, none⟩), .bool false, .bool false, .bool false]) ∧ AtV w' N ⟨a, b, c, p, ⟨#[]⟩⟩ ⟨#[]⟩) ∧ Below w.heap.size w w' := by
  go_enter Tryd.func45, Tryd.ntmps45
  go_wp2_with fail
  have hZ : ((w.alloc (.cells #[.int .i64 op, .int .i64 3, .int .u64 a, .int .u64 b, .int .u64 c, .string p] 35)).alloc (.cells #[.string ⟨#[]⟩, .pointer none, .bool false, .bool false, .bool false] 69)).heap[w.heap.size + 1]? = some (.cells #[.string ⟨#[]⟩, .pointer none, .bool false, .bool false, .bool false] 69 (0, 0)) := alloc_at _ _ _ (by simp)
  have hX : ((w.alloc (.cells #[.int .i64 op, .int .i64 3, .int .u64 a, .int .u64 b, .int .u64 c, .string p] 35)).alloc (.cells #[.string ⟨#[]⟩, .pointer none, .bool false, .bool false, .bool false] 69)).heap[w.heap.size]? = some (.cells #[.int .i64 op, .int .i64 3, .int .u64 a, .int .u64 b, .int .u64 c, .string p] 35 (0, 0)) := heap_alloc_some (alloc_at _ _ _ rfl)
  have hW : Below w.heap.size w ((w.alloc (.cells #[.int .i64 op, .int .i64 3, .int .u64 a, .int .u64 b, .int .u64 c, .string p] 35)).alloc (.cells #[.string ⟨#[]⟩, .pointer none, .bool false, .bool false, .bool false] 69)) := by (repeat (first | exact Below.refl _ _ | apply Below.drew | (apply below_alloc_on (Nat.le_refl _))))
  generalize ((w.alloc (.cells #[.int .i64 op, .int .i64 3, .int .u64 a, .int .u64 b, .int .u64 c, .string p] 35)).alloc (.cells #[.string ⟨#[]⟩, .pointer none, .bool false, .bool false, .bool false] 69)) = W at *
  have HW := Lib.hid hW
  have HZ := Lib.hid hZ
  have c0 : W.cell? ⟨w.heap.size, 0, none⟩ = some (.int .i64 op) := by rw [cell_of_row W _ _ _ _ _ hX]; rfl
  have c1 : W.cell? ⟨w.heap.size, 1, none⟩ = some (.int .i64 3) := by rw [cell_of_row W _ _ _ _ _ hX]; rfl
  have c2 : W.cell? ⟨w.heap.size, 2, none⟩ = some (.int .u64 a) := by rw [cell_of_row W _ _ _ _ _ hX]; rfl
  have c3 : W.cell? ⟨w.heap.size, 3, none⟩ = some (.int .u64 b) := by rw [cell_of_row W _ _ _ _ _ hX]; rfl
  have c4 : W.cell? ⟨w.heap.size, 4, none⟩ = some (.int .u64 c) := by rw [cell_of_row W _ _ _ _ _ hX]; rfl
  have c5 : W.cell? ⟨w.heap.size, 5, none⟩ = some (.string p) := by rw [cell_of_row W _ _ _ _ _ hX]; rfl
  clear hX hZ hW
  go_region_held3 (fun w' => w'.cell? ⟨w.heap.size, 0, none⟩ = some (.int .i64 op) ∧ w'.cell? ⟨w.heap.size, 1, none⟩ = some (.int .i64 3) ∧ w'.cell? ⟨w.heap.size, 2, none⟩ = some (.int .u64 a) ∧ w'.cell? ⟨w.heap.size, 3, none⟩ = some (.int .u64 b) ∧ w'.cell? ⟨w.heap.size, 4, none⟩ = some (.int .u64 c) ∧ w'.cell? ⟨w.heap.size, 5, none⟩ = some (.string p)) (first | (refine ⟨?_, ?_, ?_, ?_, ?_, ?_⟩ <;> (repeat (first | with_reducible assumption | with_reducible apply cell_alloc_some | with_reducible apply cell_drew_some | with_reducible refine cell_below (by with_reducible assumption) ?_ | with_reducible refine cell_set_other (by omega) ?_))) | fail) (first
    | (go_at_call 54; (with_reducible refine (operator_any op _).mono ?_); rintro e w1 ⟨⟨s, rfl⟩, rfl⟩)
    | (go_at_call 36; refine (zzVersion_below ⟨a, b, c, p, ⟨#[]⟩⟩ _).mono ?_; rintro e w2 ⟨N, rfl, hN, hat, hb⟩; have hz := blk_below hb (by exact HZ.out); have HB2 := Lib.hid (Below.up (w := W) (by (repeat (first | exact Below.refl _ _ | apply Below.drew | (apply below_alloc_on (Nat.le_refl _))))) hb); have g0 : w2.cell? ⟨w.heap.size + 1, 0, none⟩ = _ := cell_of_row w2 _ _ _ _ _ hz; have g1 : w2.cell? ⟨w.heap.size + 1, 1, none⟩ = _ := cell_of_row w2 _ _ _ _ _ hz; have g2 : w2.cell? ⟨w.heap.size + 1, 2, none⟩ = _ := cell_of_row w2 _ _ _ _ _ hz; have g3 : w2.cell? ⟨w.heap.size + 1, 3, none⟩ = _ := cell_of_row w2 _ _ _ _ _ hz; have g4 : w2.cell? ⟨w.heap.size + 1, 4, none⟩ = _ := cell_of_row w2 _ _ _ _ _ hz; have l0 := blk_loose hz 0; have l1 := blk_loose hz 1; have l2 := blk_loose hz 2; have l3 := blk_loose hz 3; have l4 := blk_loose hz 4; have HZ2 := Lib.hid hz; have HA2 := Lib.hid (show AtV w2 N ⟨a, b, c, p, ⟨#[]⟩⟩ ⟨#[]⟩ from hat); clear hz hat)
    | fail)
  go_wp2
  refine post_blk1 rfl (w.heap.size + 1) #[.string s, .pointer (some ⟨N, 0, none⟩), .bool false, .bool false, .bool false] rfl rfl (blk_store5 HZ2.out _ _ _ _ _) (fun w' h => results_cell_row rfl _ _ _ _ _ (0, 0) _ rfl h Tryd.underlying69 rfl (by kernel_rfl)) ?_
  have hNn : N ≠ w.heap.size + 1 := by
    have h1 : w.heap.size + 1 < W.heap.size := by
      rcases Nat.lt_or_ge (w.heap.size + 1) W.heap.size with h' | h'
      · exact h'
      · have := HZ.out; rw [Array.getElem?_eq_none h'] at this; cases this
    have h2 : W.heap.size ≤ N := hN
    omega
  exact ⟨⟨s, N, rfl, AtV.others HA2.out hNn _ _ _ _ _⟩, up_store5 (Below.up HW.out HB2.out) (Nat.le_succ _) _ _ _ _ _⟩

theorem term_any (t : T) (w : World) (hg : t.g = 0 ∨ t.g = 1 ∨ t.g = 2 ∨ t.g = 3) :
    Calls Tryd.prog 45 #[.agg #[.int .i64 t.op, .int .i64 t.g, .int .u64 t.a, .int .u64 t.b, .int .u64 t.c, .string t.p]] w fun e w' => (∃ s N, e = .returned (.agg #[.string s, .pointer (some ⟨N, 0, none⟩), .bool t.dirty, .bool t.minor, .bool t.patch]) ∧ AtV w' N t.ver ⟨#[]⟩) ∧ Below w.heap.size w w' := by
  obtain ⟨op, g, a, b, c, p⟩ := t
  simp only at hg
  rcases hg with rfl | rfl | rfl | rfl
  · exact term_g0 op a b c p w
  · exact term_g1 op a b c p w
  · exact term_g2 op a b c p w
  · exact term_g3 op a b c p w
end Go.Proofs.YtnkdpgcfaelpkaaDoor

/-
  constraintLessThan.
-/
namespace Go.Proofs.YtnkdpgcfaelpkaaDoor
open Go.RowKit
set_option maxRecDepth 100000
set_option linter.unusedVariables false

/-- a constraint's record -/
def T.cc (t : T) (s : ByteArray) (N : Nat) : Obj := .cells #[.pointer (some ⟨N, 0, none⟩), .string ⟨#[]⟩, .string s, .bool t.minor, .bool t.dirty, .bool t.patch] 82
/-- prereleases are let in, or there is none -/
def V.inl (x : V) (pre : Bool) : Bool := pre || (M.bs x.p).isEmpty
theorem bs_isEmpty {s : ByteArray} {b : Bool} (h : (M.bs s).isEmpty = b) : s.toList.isEmpty = b := by rw [toList_bs]; exact h

set_option maxHeartbeats 1000000 in
theorem lessThanC_any (x y : V) (o o' s : ByteArray) (t : T) (N K M' : Nat) (pre : Bool) (w : World) (hx : AtV w N x o) (hy : AtV w M' y o') (hk : w.heap[K]? = some (t.cc s M')) (gx : x.pGood) (gy : y.pGood) (hn : NumErrs w) (zx : x.p.size ≤ 2147483647) (zy : y.p.size ≤ 2147483647) :
    Calls Tryd.prog 58 #[.pointer (some ⟨N, 0, none⟩), .pointer (some ⟨K, 0, none⟩), .bool pre] w fun e w' => (∃ ev, e = .returned (.tuple #[.bool (x.inl pre && decide (x.cmp y < 0)), ev])) ∧ Below w.heap.size w w' := by
  have HX := Lib.hid hx
  have HY := Lib.hid hy
  have HK := Lib.hid hk
  have HN := Lib.hid hn
  have GX := Lib.hid gx
  have GY := Lib.hid gy
  obtain ⟨c0, c1, c2, c3, c4, c5⟩ := hx.cells
  have k0 : w.cell? ⟨K, 0, none⟩ = some (.pointer (some ⟨M', 0, none⟩)) := by rw [cell_of_row w K _ _ _ _ hk]; rfl
  clear hx hy hk hn gx gy
  cases he : (M.bs x.p).isEmpty with
  | true =>
    have hs : x.p.toList = [] := empty_toList (by simpa using he)
    have HV : Hid (x.inl pre = true) := Lib.hid (by rw [V.inl, he, Bool.or_true])
    clear he
    by_cases hc : x.cmp y < 0
    · have HC := Lib.hid hc
      go_enter Tryd.func58, Tryd.ntmps58
      go_wp2_with (first
        | (go_at_call 42; refine (prerelease_any x o _).mono ?_; rintro e w1 ⟨rfl, hw1⟩; have HB1 := Lib.hid (show Below w.heap.size w w1 by subst hw1; exact below_alloc _ _); have k1 : w1.cell? ⟨K, 0, none⟩ = some (.pointer (some ⟨M', 0, none⟩)) := (by subst hw1; exact cell_alloc_some k0); clear hw1)
        | (go_at_call 69; (with_reducible refine (compare_any x y o o' _ _ _ (HX.out.below HB1.out) (HY.out.below HB1.out) GX.out GY.out (HN.out.below HB1.out) zx zy).mono ?_); rintro e w2 ⟨rfl, hb⟩; have HB2 := Lib.hid (Below.up HB1.out hb); clear hb))
      refine bodyPost_ret (results_tmp2 rfl _ _ _) rfl ?_
      exact ⟨⟨_, by rw [HV.out, decide_eq_true HC.out]; rfl⟩, HB2.out⟩
    · have HC := Lib.hid hc
      go_enter Tryd.func58, Tryd.ntmps58
      go_wp2_with (first
        | (go_at_call 42; refine (prerelease_any x o _).mono ?_; rintro e w1 ⟨rfl, hw1⟩; have HB1 := Lib.hid (show Below w.heap.size w w1 by subst hw1; exact below_alloc _ _); have k1 : w1.cell? ⟨K, 0, none⟩ = some (.pointer (some ⟨M', 0, none⟩)) := (by subst hw1; exact cell_alloc_some k0); clear hw1)
        | (go_at_call 69; (with_reducible refine (compare_any x y o o' _ _ _ (HX.out.below HB1.out) (HY.out.below HB1.out) GX.out GY.out (HN.out.below HB1.out) zx zy).mono ?_); rintro e w2 ⟨rfl, hb⟩; have HB2 := Lib.hid (Below.up HB1.out hb); clear hb)
        | (go_at_call 66; refine (errorsNew_any _ _).mono ?_; rintro e w3 ⟨⟨et, ev, rfl⟩, hb⟩; have HB3 := Lib.hid (Below.up HB2.out hb); clear hb))
      refine bodyPost_ret (results_tmp2 rfl _ _ _) rfl ?_
      exact ⟨⟨_, by rw [HV.out, decide_eq_false (show ¬ x.cmp y < 0 by have := HC.out; omega)]; rfl⟩, HB3.out⟩
  | false =>
    have hs : x.p.toList.isEmpty = false := bs_isEmpty he
    cases pre with
    | false =>
      have HV : Hid (x.inl false = false) := Lib.hid (by rw [V.inl, he]; rfl)
      clear he
      go_enter Tryd.func58, Tryd.ntmps58
      go_wp2_with (first
        | (go_at_call 42; refine (prerelease_any x o _).mono ?_; rintro e w1 ⟨rfl, hw1⟩; have HB1 := Lib.hid (show Below w.heap.size w w1 by subst hw1; exact below_alloc _ _); clear hw1)
        | (go_at_call 66; refine (errorsNew_any _ _).mono ?_; rintro e w3 ⟨⟨et, ev, rfl⟩, hb⟩; have HB3 := Lib.hid (Below.up HB1.out hb); clear hb))
      refine bodyPost_ret (results_tmp2 rfl _ _ _) rfl ?_
      exact ⟨⟨_, by rw [HV.out]; rfl⟩, HB3.out⟩
    | true =>
      have HV : Hid (x.inl true = true) := Lib.hid (by rw [V.inl, Bool.true_or])
      clear he
      by_cases hc : x.cmp y < 0
      · have HC := Lib.hid hc
        go_enter Tryd.func58, Tryd.ntmps58
        go_wp2_with (first
          | (go_at_call 42; refine (prerelease_any x o _).mono ?_; rintro e w1 ⟨rfl, hw1⟩; have HB1 := Lib.hid (show Below w.heap.size w w1 by subst hw1; exact below_alloc _ _); have k1 : w1.cell? ⟨K, 0, none⟩ = some (.pointer (some ⟨M', 0, none⟩)) := (by subst hw1; exact cell_alloc_some k0); clear hw1)
          | (go_at_call 69; (with_reducible refine (compare_any x y o o' _ _ _ (HX.out.below HB1.out) (HY.out.below HB1.out) GX.out GY.out (HN.out.below HB1.out) zx zy).mono ?_); rintro e w2 ⟨rfl, hb⟩; have HB2 := Lib.hid (Below.up HB1.out hb); clear hb))
        refine bodyPost_ret (results_tmp2 rfl _ _ _) rfl ?_
        exact ⟨⟨_, by rw [HV.out, decide_eq_true HC.out]; rfl⟩, HB2.out⟩
      · have HC := Lib.hid hc
        go_enter Tryd.func58, Tryd.ntmps58
        go_wp2_with (first
          | (go_at_call 42; refine (prerelease_any x o _).mono ?_; rintro e w1 ⟨rfl, hw1⟩; have HB1 := Lib.hid (show Below w.heap.size w w1 by subst hw1; exact below_alloc _ _); have k1 : w1.cell? ⟨K, 0, none⟩ = some (.pointer (some ⟨M', 0, none⟩)) := (by subst hw1; exact cell_alloc_some k0); clear hw1)
          | (go_at_call 69; (with_reducible refine (compare_any x y o o' _ _ _ (HX.out.below HB1.out) (HY.out.below HB1.out) GX.out GY.out (HN.out.below HB1.out) zx zy).mono ?_); rintro e w2 ⟨rfl, hb⟩; have HB2 := Lib.hid (Below.up HB1.out hb); clear hb)
          | (go_at_call 66; refine (errorsNew_any _ _).mono ?_; rintro e w3 ⟨⟨et, ev, rfl⟩, hb⟩; have HB3 := Lib.hid (Below.up HB2.out hb); clear hb))
        refine bodyPost_ret (results_tmp2 rfl _ _ _) rfl ?_
        exact ⟨⟨_, by rw [HV.out, decide_eq_false (show ¬ x.cmp y < 0 by have := HC.out; omega)]; rfl⟩, HB3.out⟩

theorem version_below (x : V) (w : World) : Calls Tryd.prog 20 #[.agg #[.int .u64 x.a, .int .u64 x.b, .int .u64 x.c, .string x.p, .string x.m]] w (PtrV w x ⟨#[]⟩) := version_any x w
end Go.Proofs.YtnkdpgcfaelpkaaDoor

/-
  ZZBelow, impl.BelowHolds.
-/
namespace Go.Proofs.YtnkdpgcfaelpkaaDoor
open Go.RowKit
set_option maxRecDepth 100000
set_option linter.unusedVariables false

end Go.Proofs.YtnkdpgcfaelpkaaDoor

/-
  impl.VersionSetMeta, and laws.FnSemverSetMeta: it returns true for every version and text (of longer parts it says nothing). Condition: the error that invalid metadata get lies as the variable's cell, and the table of powers of ten lies.
-/
namespace Go.Proofs.YtnkdpgcfaelpkaaDoor
open Go.RowKit
set_option maxRecDepth 100000
set_option linter.unusedVariables false

theorem ReadV.one (w : World) (t : TypeId) (x : V) : ReadV (w.alloc (.cells #[.int .u64 x.a, .int .u64 x.b, .int .u64 x.c, .string x.p, .string x.m] t)) (.slice (some ⟨w.heap.size, 0, none⟩) 1 1) [x] := by
  refine ⟨some ⟨w.heap.size, 0, none⟩, 1, rfl, fun i hi => ⟨w.heap.size, 0, rfl, by simp, ?_⟩⟩
  obtain rfl : i = 0 := by simpa using hi
  refine ⟨?_, ?_, ?_, ?_, ?_⟩ <;> go_simp
theorem svGood_one_at (n : Nat) (w : World) (t : TypeId) (x : V) (r : Bool) (hn : n = w.heap.size) (hz : Hid (x.p.size ≤ 2147483647 ∧ x.m.size ≤ 2147483647)) (hr : Hid (x.law = r)) :
    Calls Tryd.prog 14 #[.slice (some ⟨n, 0, none⟩) 1 1] (w.alloc (.cells #[.int .u64 x.a, .int .u64 x.b, .int .u64 x.c, .string x.p, .string x.m] t)) fun e w' => e = .returned (.bool r) ∧ Below w.heap.size w w' := by
  subst hn
  have := svGood_any _ [x] _ (ReadV.one w t x) (by simp) (by simpa using hz.out)
  simp only [List.all_cons, List.all_nil, Bool.and_true, hr.out] at this
  exact this.mono fun e w' h => ⟨h.1, Below.up (below_alloc _ _) h.2⟩
theorem zzFits14_is (x : V) (r : Bool) (w : World) (h1 : x.p.size ≤ 140737488351232) (h2 : x.m.size ≤ 140737488351232) (hr : Hid (x.fits = r)) :
    Calls Tryd.prog 5 #[x.v] w fun e w' => e = .returned (.bool r) ∧ Below w.heap.size w w' := by
  have := zzFits14_any x w h1 h2
  rw [hr.out] at this
  exact this
theorem V.fits_le {x : V} (h : x.fits = true) : x.p.size ≤ 2147483647 ∧ x.m.size ≤ 2147483647 := by
  simpa [V.fits] using h

theorem svShort_one_is (n : Nat) (w : World) (t : TypeId) (a : ByteArray) (r : Bool) (hn : n = w.heap.size) (hz : a.size ≤ 140737488351232) (hr : Hid (decide (a.size ≤ 65536) = r)) :
    Calls Tryd.prog 29 #[.slice (some ⟨n, 0, none⟩) 1 1] (w.alloc (.cells #[.string a] t)) fun e w' => e = .returned (.bool r) ∧ Below w.heap.size w w' := by
  subst hn
  have := svShort_one w t a hz
  rw [hr.out] at this
  exact this.mono fun e w' h => ⟨h.1, h.2 ▸ below_alloc _ _⟩

/-- an entry that is the table of powers of ten -/
def isPow : String × DataW Unit → Bool
  | (n, _) => n == "internal/strconv.uint64pow10"
theorem pow10_of {W : World} {laid : List (String × DataW Unit)} (h : laidMet Tryd.prog laid W) (hl : laid.filter isPow = [("internal/strconv.uint64pow10", Lib.tabData .u64 Lib.pow10Tab)]) : Pow10 W := by
  have h1 := h.filter isPow
  rw [hl] at h1
  exact Lib.tabIs_of_head (g := 0) (by kernel_rfl) (by kernel_rfl) Tryd.underlying101 Tryd.underlying22 (by kernel_rfl) (by kernel_rfl) h1
end Go.Proofs.YtnkdpgcfaelpkaaDoor

/-
  laws.stTerm, spec.Bare; laws.svGood of two.
-/
namespace Go.Proofs.YtnkdpgcfaelpkaaDoor
open Go.RowKit
set_option maxRecDepth 100000
set_option linter.unusedVariables false

def T.val (t : T) : Value := .agg #[.int .i64 t.op, .int .i64 t.g, .int .u64 t.a, .int .u64 t.b, .int .u64 t.c, .string t.p]
/-- the term that stTerm makes of a version's first numbers -/
def V.term (x : V) (op : Int) (k : Nat) : T := ⟨op, k, x.a, if k > 1 then x.b else 0, if k > 2 then x.c else 0, if k > 2 then x.p else ⟨#[]⟩⟩
def AtT (w : World) (N : Nat) (t : T) : Prop := w.heap[N]? = some (.cells #[.int .i64 t.op, .int .i64 t.g, .int .u64 t.a, .int .u64 t.b, .int .u64 t.c, .string t.p] 35 (0, 0))
theorem post_term {fn : Func} {p : Tmp} (h : fn.results = #[.cell p 35]) {R : Ending → World → Prop} {a : Act} {w : World} (N : Nat) (t : T) (hd : a.defers = [])
    (hp : a.tmps.getD p undef = .pointer (some ⟨N, 0, none⟩)) (hat : AtT w N t) (hR : R (.returned t.val) w) : bodyPost Tryd.prog fn R .ret a w :=
  bodyPost_ret (results_cell_row h _ _ N _ _ (0, 0) _ hp hat Tryd.underlying35 rfl (by kernel_rfl)) hd hR

set_option maxHeartbeats 1000000 in
theorem stTerm_3 (op : Int) (x : V) (w : World) : Calls Tryd.prog 17 #[.int .i64 op, .agg #[.int .u64 x.a, .int .u64 x.b, .int .u64 x.c, .string x.p, .string x.m], .int .i64 3] w fun e w' => e = .returned (T.val ⟨op, 3, x.a, x.b, x.c, x.p⟩) ∧ Below w.heap.size w w' := by
  go_enter Tryd.func17, Tryd.ntmps17
  go_wp2
  go_region_with (first | fail)
  all_goals go_wp2
  all_goals
    refine post_term rfl (w.heap.size + 1) ⟨op, 3, x.a, x.b, x.c, x.p⟩ rfl rfl (heap_drew_some (heap_alloc_some (alloc_at _ _ _ (by simp)))) ⟨rfl, ?_⟩
    (repeat (first | exact Below.refl _ _ | apply Below.drew | (apply below_alloc_on (Nat.le_refl _))))
theorem stTerm_1 (op : Int) (x : V) (w : World) : Calls Tryd.prog 17 #[.int .i64 op, .agg #[.int .u64 x.a, .int .u64 x.b, .int .u64 x.c, .string x.p, .string x.m], .int .i64 1] w fun e w' => e = .returned (T.val ⟨op, 1, x.a, 0, 0, ⟨#[]⟩⟩) ∧ Below w.heap.size w w' := by
  go_enter Tryd.func17, Tryd.ntmps17
  go_wp2
  refine post_term rfl (w.heap.size + 1) ⟨op, 1, x.a, 0, 0, ⟨#[]⟩⟩ rfl rfl (heap_alloc_some (alloc_at _ _ _ (by simp))) ⟨rfl, ?_⟩
  (repeat (first | exact Below.refl _ _ | apply Below.drew | (apply below_alloc_on (Nat.le_refl _))))
theorem stTerm_2 (op : Int) (x : V) (w : World) : Calls Tryd.prog 17 #[.int .i64 op, .agg #[.int .u64 x.a, .int .u64 x.b, .int .u64 x.c, .string x.p, .string x.m], .int .i64 2] w fun e w' => e = .returned (T.val ⟨op, 2, x.a, x.b, 0, ⟨#[]⟩⟩) ∧ Below w.heap.size w w' := by
  go_enter Tryd.func17, Tryd.ntmps17
  go_wp2
  refine post_term rfl (w.heap.size + 1) ⟨op, 2, x.a, x.b, 0, ⟨#[]⟩⟩ rfl rfl (heap_alloc_some (alloc_at _ _ _ (by simp))) ⟨rfl, ?_⟩
  (repeat (first | exact Below.refl _ _ | apply Below.drew | (apply below_alloc_on (Nat.le_refl _))))
theorem bare_any (x : V) (w : World) : Calls Tryd.prog 6 #[.agg #[.int .u64 x.a, .int .u64 x.b, .int .u64 x.c, .string x.p, .string x.m]] w fun e w' => e = .returned (.agg #[.int .u64 x.a, .int .u64 x.b, .int .u64 x.c, .string ⟨#[]⟩, .string ⟨#[]⟩]) ∧ Below w.heap.size w w' := by
  go_enter Tryd.func6, Tryd.ntmps6
  go_wp2
  refine post_ver1 rfl (w.heap.size + 1) ⟨x.a, x.b, x.c, ⟨#[]⟩, ⟨#[]⟩⟩ rfl rfl ?_ ⟨rfl, ?_⟩
  · exact alloc_at _ _ _ (by simp)
  · (repeat (first | exact Below.refl _ _ | apply Below.drew | (apply below_alloc_on (Nat.le_refl _))))
theorem ReadV.two (w : World) (t : TypeId) (x y : V) : ReadV (w.alloc (.cells #[.int .u64 x.a, .int .u64 x.b, .int .u64 x.c, .string x.p, .string x.m, .int .u64 y.a, .int .u64 y.b, .int .u64 y.c, .string y.p, .string y.m] t)) (.slice (some ⟨w.heap.size, 0, none⟩) 2 2) [x, y] := by
  refine ⟨some ⟨w.heap.size, 0, none⟩, 2, rfl, fun i hi => ⟨w.heap.size, 0, rfl, by simp, ?_⟩⟩
  have hi3 : i < 2 := hi
  obtain rfl | rfl : i = 0 ∨ i = 1 := by omega
  all_goals refine ⟨?_, ?_, ?_, ?_, ?_⟩ <;> go_simp
theorem svGood_two_at (n : Nat) (w : World) (t : TypeId) (x y : V) (r : Bool) (hn : n = w.heap.size) (hz : Hid (x.p.size ≤ 2147483647 ∧ x.m.size ≤ 2147483647)) (hz2 : Hid (y.p.size ≤ 2147483647 ∧ y.m.size ≤ 2147483647)) (hr : Hid ((x.law && y.law) = r)) :
    Calls Tryd.prog 14 #[.slice (some ⟨n, 0, none⟩) 2 2] (w.alloc (.cells #[.int .u64 x.a, .int .u64 x.b, .int .u64 x.c, .string x.p, .string x.m, .int .u64 y.a, .int .u64 y.b, .int .u64 y.c, .string y.p, .string y.m] t)) fun e w' => e = .returned (.bool r) ∧ Below w.heap.size w w' := by
  subst hn
  have := svGood_any _ [x, y] _ (ReadV.two w t x y) (by simp) (by simpa using ⟨hz.out, hz2.out⟩)
  simp only [List.all_cons, List.all_nil, Bool.and_true, hr.out] at this
  exact this.mono fun e w' h => ⟨h.1, Below.up (below_alloc _ _) h.2⟩
end Go.Proofs.YtnkdpgcfaelpkaaDoor

/-
  Small functions over terms: laws.zzFits13, laws.snAs, spec.Least.
-/
namespace Go.Proofs.YtnkdpgcfaelpkaaDoor
open Go.RowKit
set_option maxRecDepth 100000
set_option linter.unusedVariables false

theorem zzFits13_is (t : T) (r : Bool) (w : World) (h1 : t.p.size ≤ 140737488351232) (hr : Hid (decide (t.p.size ≤ 2147483647) = r)) :
    Calls Tryd.prog 46 #[.agg #[.int .i64 t.op, .int .i64 t.g, .int .u64 t.a, .int .u64 t.b, .int .u64 t.c, .string t.p]] w fun e w' => e = .returned (.bool r) ∧ Below w.heap.size w w' := by
  by_cases hp : t.p.size ≤ 2147483647
  · have HQ := Lib.hid (show r = true by rw [← hr.out, decide_eq_true hp])
    go_enter Tryd.func46, Tryd.ntmps46
    go_wp2
    go_ret
    exact ⟨ret_bool HQ.out.symm, below_alloc _ _⟩
  · have HQ := Lib.hid (show r = false by rw [← hr.out, decide_eq_false hp])
    go_enter Tryd.func46, Tryd.ntmps46
    go_wp2
    go_ret
    exact ⟨ret_bool HQ.out.symm, below_alloc _ _⟩
end Go.Proofs.YtnkdpgcfaelpkaaDoor

/-
  A parameter that is a term (a struct by value): opened, shut, its string's size.
-/
namespace Go.Proofs.YtnkdpgcfaelpkaaDoor
open Go.ChangeShapes Go.WideShapes Go.RowKit
set_option maxRecDepth 100000

section
variable {H : Type} {enc : TypeId × Value → H} {w : World} {base b0 : Nat} {spare : Nat → Bool} {held : Bool} {r : Reach} {v : Value} {dd : DataW H} {p : List MemPlace}

/-- a term as a datum -/
def T.d (H : Type) (x : T) : DataW H := .agg [.lit (.int .i64 x.op), .lit (.int .i64 x.g), .lit (.int .u64 x.a), .lit (.int .u64 x.b), .lit (.int .u64 x.c), .lit (.string x.p.data.toList)]
/-- a term's numbers are of their kinds -/
def T.wf (x : T) : Prop := ((Lit.int .i64 x.op).wf = true ∧ (Lit.int .i64 x.g).wf = true) ∧ x.a < 18446744073709551616 ∧ x.b < 18446744073709551616 ∧ x.c < 18446744073709551616
theorem term_cells : Tryd.prog.cellsOf 35 = 6 := by kernel_rfl
theorem int_cells : Tryd.prog.cellsOf 3 = 1 := by kernel_rfl
theorem array6 {α : Type} {cs : Array α} (h : cs.size = 6) : ∃ c0 c1 c2 c3 c4 c5, cs = #[c0, c1, c2, c3, c4, c5] := by
  obtain ⟨l⟩ := cs
  match l, h with
  | [c0, c1, c2, c3, c4, c5], _ => exact ⟨c0, c1, c2, c3, c4, c5, rfl⟩
theorem list6 {α : Type} {cs : List α} (h : cs.length = 6) : ∃ c0 c1 c2 c3 c4 c5, cs = [c0, c1, c2, c3, c4, c5] := by
  match cs, h with
  | [c0, c1, c2, c3, c4, c5], _ => exact ⟨c0, c1, c2, c3, c4, c5, rfl⟩
theorem open_term (hv : Value.okWide Tryd.prog w r b0 35 v) (h : DataW.Trod enc Tryd.prog w base spare held 35 v dd p) :
    ∃ x : T, v = x.val ∧ dd = x.d H ∧ p = [] ∧ x.wf ∧ x.p.size ≤ maxLen := by
  obtain ⟨cs, rfl, hsz⟩ := okWide_struct Tryd.underlying35 hv
  obtain ⟨c0, c1, c2, c3, c4, c5, rfl⟩ := array6 (hsz.trans term_cells)
  obtain ⟨fuel, hf⟩ := h
  obtain ⟨xs, n, _, hx, hl, hlen, hg⟩ := DataW.trod_struct Tryd.underlying35 hf
  obtain ⟨y0, y1, y2, y3, y4, y5, rfl⟩ := list6 (hlen.trans rfl)
  have h0 : DataW.trod enc Tryd.prog w base spare held n 3 [c0] = some y0 := by simpa [Value.cells, int_cells, u64_cells, str_cells] using hg 0 _ rfl
  have h1 : DataW.trod enc Tryd.prog w base spare held n 3 [c1] = some y1 := by simpa [Value.cells, int_cells, u64_cells, str_cells] using hg 1 _ rfl
  have h2 : DataW.trod enc Tryd.prog w base spare held n 22 [c2] = some y2 := by simpa [Value.cells, int_cells, u64_cells, str_cells] using hg 2 _ rfl
  have h3 : DataW.trod enc Tryd.prog w base spare held n 22 [c3] = some y3 := by simpa [Value.cells, int_cells, u64_cells, str_cells] using hg 3 _ rfl
  have h4 : DataW.trod enc Tryd.prog w base spare held n 22 [c4] = some y4 := by simpa [Value.cells, int_cells, u64_cells, str_cells] using hg 4 _ rfl
  have h5 : DataW.trod enc Tryd.prog w base spare held n 9 [c5] = some y5 := by simpa [Value.cells, int_cells, u64_cells, str_cells] using hg 5 _ rfl
  clear hg hl hlen hv hsz hf
  obtain ⟨n0, e0, rfl, w0⟩ := DataW.trod_int Tryd.underlying3 h0
  obtain ⟨n1, e1, rfl, w1⟩ := DataW.trod_int Tryd.underlying3 h1
  obtain ⟨n2, e2, rfl, w2⟩ := DataW.trod_int Tryd.underlying22 h2
  obtain ⟨n3, e3, rfl, w3⟩ := DataW.trod_int Tryd.underlying22 h3
  obtain ⟨n4, e4, rfl, w4⟩ := DataW.trod_int Tryd.underlying22 h4
  obtain ⟨s5, e5, rfl, w5⟩ := DataW.trod_string Tryd.underlying9 h5
  simp only [List.cons.injEq, and_true] at e0 e1 e2 e3 e4 e5
  obtain ⟨k2, rfl, b2⟩ := u64_nat w2
  obtain ⟨k3, rfl, b3⟩ := u64_nat w3
  obtain ⟨k4, rfl, b4⟩ := u64_nat w4
  simp only [Prod.mk.injEq] at hx
  refine ⟨⟨n0, n1, k2, k3, k4, s5⟩, ?_, ?_, ?_, ⟨⟨w0, w1⟩, b2, b3, b4⟩, w5⟩
  · rw [e0, e1, e2, e3, e4, e5]; rfl
  · rw [hx.1]; rfl
  · rw [hx.2]; rfl
theorem trod_i64 {k : Int} (h : (Lit.int .i64 k).wf = true) : DataW.trod enc Tryd.prog w base spare held 1 3 [.int .i64 k] = some (.lit (.int .i64 k), []) := by
  simp [DataW.trod, Tryd.underlying3, h]
theorem shut_term {x : T} (hu : x.wf) (hp : x.p.size ≤ maxLen) : DataW.Trod enc Tryd.prog w base spare held 35 x.val (x.d H) [] := by
  refine ⟨2, ?_⟩
  have := trod_struct_mk (enc := enc) (w := w) (base := base) (spare := spare) (held := held) (n := 1) (cs := [.int .i64 x.op, .int .i64 x.g, .int .u64 x.a, .int .u64 x.b, .int .u64 x.c, .string x.p]) (xs := [(.lit (.int .i64 x.op), []), (.lit (.int .i64 x.g), []), (.lit (.int .u64 x.a), []), (.lit (.int .u64 x.b), []), (.lit (.int .u64 x.c), []), (.lit (.string x.p.data.toList), [])]) Tryd.underlying35 term_cells.symm
    (by simp [int_cells, u64_cells, str_cells, trod_i64 hu.1.1, trod_i64 hu.1.2, trod_u64 hu.2.1, trod_u64 hu.2.2.1, trod_u64 hu.2.2.2, trod_str hp])
  exact this
theorem sized_term {ts : List TypeId} {ds : List (DataW H)} (h : (DataW.weightsEach Tryd.prog ts ds).all (· ≤ reachBytes) = true) {j : Nat} {x : T} (ht : ts[j]? = some 35) (hd : ds[j]? = some (x.d H)) :
    x.p.size ≤ 140737488351232 := by
  have h1 := List.all_eq_true.1 h _ (DataW.weights_mem_each ht hd x.p.data.toList.length (by simp [T.d, DataW.weights, DataW.weightsEach, Tryd.underlying35]))
  simp only [decide_eq_true_eq, Array.length_toList] at h1
  exact h1
end
end Go.Proofs.YtnkdpgcfaelpkaaDoor

/-
  spec.GoodTerm: what it is true of.
-/
namespace Go.Proofs.YtnkdpgcfaelpkaaDoor
open Go.RowKit
set_option maxRecDepth 100000
set_option linter.unusedVariables false

/-- a term is as its type says -/
def T.Good (t : T) : Prop := (t.g = 0 ∨ t.g = 1 ∨ t.g = 2 ∨ t.g = 3) ∧ (0 ≤ t.op ∧ t.op < 8) ∧ (t.g = 0 → t.op = 0 ∨ t.op = 4 ∨ t.op = 6) ∧ ¬ (t.g = 3 ∧ t.op = 6 ∧ t.a = 0 ∧ t.b = 0 ∧ t.c = 0) ∧ (t.g < 3 → t.c = 0 ∧ M.bs t.p = []) ∧ (t.g < 2 → t.b = 0) ∧ (t.g < 1 → t.a = 0) ∧ t.ver.pGood
theorem T.good_dec (t : T) : ∃ r : Bool, (r = true ↔ t.Good) := by
  by_cases h : t.Good
  · exact ⟨true, by simp [h]⟩
  · exact ⟨false, by simp [h]⟩
noncomputable def T.goodB (t : T) : Bool := (T.good_dec t).choose
theorem T.goodB_iff (t : T) : t.goodB = true ↔ t.Good := (T.good_dec t).choose_spec
theorem T.goodB_false {t : T} (h : ¬ t.Good) : t.goodB = false := by
  cases k : t.goodB with
  | false => rfl
  | true => exact absurd ((T.goodB_iff t).1 k) h
def T.RB (q z : Bool) (g op : Int) : Prop := q = false ↔ (g = 0 → op = 0 ∨ op = 4 ∨ op = 6) ∧ (g = 3 → op = 6 → z = false)
def T.RC (q : Bool) (g op : Int) : Prop := q = false ↔ (0 ≤ op ∧ op < 8) ∧ 0 ≤ g ∧ g ≤ 3
def T.RD (q : Bool) (g : Int) (a b c : Nat) (p : ByteArray) : Prop := q = false ↔ (g < 3 → c = 0 ∧ M.bs p = []) ∧ (g < 2 → b = 0) ∧ (g < 1 → a = 0)
theorem rd_c {g : Int} {a b c : Nat} {p : ByteArray} (h : ¬ (c : Int) = 0) (hg : g < 3) : T.RD true g a b c p := ⟨(fun h => by cases h), fun k => absurd (k.1 hg).1 (by omega)⟩
theorem rd_p {g : Int} {a b c : Nat} {p : ByteArray} (h : (M.bs p).isEmpty = false) (hg : g < 3) : T.RD true g a b c p := ⟨(fun h => by cases h), fun k => by rw [(k.1 hg).2] at h; cases h⟩
theorem rd_b {g : Int} {a b c : Nat} {p : ByteArray} (h : ¬ (b : Int) = 0) (hg : g < 2) : T.RD true g a b c p := ⟨(fun h => by cases h), fun k => absurd (k.2.1 hg) (by omega)⟩
theorem rd_a {g : Int} {a b c : Nat} {p : ByteArray} (h : ¬ (a : Int) = 0) (hg : g < 1) : T.RD true g a b c p := ⟨(fun h => by cases h), fun k => absurd (k.2.2 hg) (by omega)⟩
theorem rd_3 {a b c : Nat} {p : ByteArray} : T.RD false 3 a b c p := ⟨fun _ => ⟨fun h => by omega, fun h => by omega, fun h => by omega⟩, fun _ => rfl⟩
theorem rd_2 {a b c : Nat} {p : ByteArray} (h : (c : Int) = 0) (hp : (M.bs p).isEmpty = true) : T.RD false 2 a b c p := ⟨fun _ => ⟨fun _ => ⟨by omega, by simpa using hp⟩, fun h => by omega, fun h => by omega⟩, fun _ => rfl⟩
theorem rd_1 {a b c : Nat} {p : ByteArray} (h : (c : Int) = 0) (hp : (M.bs p).isEmpty = true) (hb : (b : Int) = 0) : T.RD false 1 a b c p := ⟨fun _ => ⟨fun _ => ⟨by omega, by simpa using hp⟩, fun _ => by omega, fun h => by omega⟩, fun _ => rfl⟩
theorem rd_0 {a b c : Nat} {p : ByteArray} (h : (c : Int) = 0) (hp : (M.bs p).isEmpty = true) (hb : (b : Int) = 0) (ha : (a : Int) = 0) : T.RD false 0 a b c p := ⟨fun _ => ⟨fun _ => ⟨by omega, by simpa using hp⟩, fun _ => by omega, fun _ => by omega⟩, fun _ => rfl⟩
theorem not_goodP {p : ByteArray} (he : (M.bs p).isEmpty = false) (hg : M.goodPre (M.bs p) = false) : ¬ (M.bs p = [] ∨ M.goodPre (M.bs p) = true) := by
  rintro (h | h)
  · rw [h] at he; cases he
  · rw [h] at hg; cases hg
theorem AtT.cells {w : World} {N : Nat} {t : T} (h : AtT w N t) :
    w.cell? ⟨N, 0, none⟩ = some (.int .i64 t.op) ∧ w.cell? ⟨N, 1, none⟩ = some (.int .i64 t.g) ∧ w.cell? ⟨N, 2, none⟩ = some (.int .u64 t.a) ∧ w.cell? ⟨N, 3, none⟩ = some (.int .u64 t.b) ∧ w.cell? ⟨N, 4, none⟩ = some (.int .u64 t.c) ∧ w.cell? ⟨N, 5, none⟩ = some (.string t.p) := by
  unfold AtT at h
  refine ⟨?_, ?_, ?_, ?_, ?_, ?_⟩ <;> (rw [cell_of_row w _ _ _ _ _ h]; rfl)

set_option maxHeartbeats 4000000 in
theorem goodTerm_any (t : T) (w : World) (hz : t.p.size ≤ 2147483647) :
    Calls Tryd.prog 47 #[.agg #[.int .i64 t.op, .int .i64 t.g, .int .u64 t.a, .int .u64 t.b, .int .u64 t.c, .string t.p]] w fun e w' => e = .returned (.bool t.goodB) ∧ Below w.heap.size w w' := by
  obtain ⟨r, hr⟩ : ∃ r, t.goodB = r := ⟨_, rfl⟩
  rw [hr]
  have HRR := Lib.hid hr
  clear hr
  obtain ⟨op, g, a, b, c, p⟩ := t
  simp only at hz ⊢
  go_enter Tryd.func47, Tryd.ntmps47
  go_upto_region 1 with fail
  have hT : AtT (w.alloc (.cells #[.int .i64 op, .int .i64 g, .int .u64 a, .int .u64 b, .int .u64 c, .string p] 35)) w.heap.size ⟨op, g, a, b, c, p⟩ := alloc_at _ _ _ rfl
  have HW := Lib.hid (below_alloc w (.cells #[.int .i64 op, .int .i64 g, .int .u64 a, .int .u64 b, .int .u64 c, .string p] 35))
  generalize (w.alloc (.cells #[.int .i64 op, .int .i64 g, .int .u64 a, .int .u64 b, .int .u64 c, .string p] 35)) = W at *
  obtain ⟨c0, c1, c2, c3, c4, c5⟩ := hT.cells
  simp only at c0 c1 c2 c3 c4 c5
  clear hT
  go_cut [3] (fun s3 wx => ∃ z, s3 = .bool z ∧ Hid (z = decide (a = 0 ∧ b = 0 ∧ c = 0)) ∧ W = wx)
  case first =>
    by_cases ha : (a : Int) = 0
    · have ea : ((a : Int) == 0) = true := by simpa using ha
      by_cases hb : (b : Int) = 0
      · have eb : ((b : Int) == 0) = true := by simpa using hb
        by_cases hc : (c : Int) = 0
        · have ec : ((c : Int) == 0) = true := by simpa using hc
          have K := Lib.hid (show true = decide (a = 0 ∧ b = 0 ∧ c = 0) from (decide_eq_true (by omega)).symm)
          clear ha hb hc
          go_wp2
          go_meet
          exact ⟨_, rfl, K, rfl⟩
        · have ec : ((c : Int) == 0) = false := by simpa using hc
          have K := Lib.hid (show false = decide (a = 0 ∧ b = 0 ∧ c = 0) from (decide_eq_false (by omega)).symm)
          clear ha hb hc
          go_wp2
          go_meet
          exact ⟨_, rfl, K, rfl⟩
      · have eb : ((b : Int) == 0) = false := by simpa using hb
        have K := Lib.hid (show false = decide (a = 0 ∧ b = 0 ∧ c = 0) from (decide_eq_false (by omega)).symm)
        clear ha hb
        go_wp2
        go_meet
        exact ⟨_, rfl, K, rfl⟩
    · have ea : ((a : Int) == 0) = false := by simpa using ha
      have K := Lib.hid (show false = decide (a = 0 ∧ b = 0 ∧ c = 0) from (decide_eq_false (by omega)).symm)
      clear ha
      go_wp2
      go_meet
      exact ⟨_, rfl, K, rfl⟩
  case rest =>
  obtain ⟨z, rfl, HZ, rfl⟩ := hcut
  go_upto_region 2 with fail
  go_cut [17] (fun s17 wx => ∃ q, s17 = .bool q ∧ T.RB q z g op ∧ W = wx)
  case first =>
    by_cases h0 : g = 0
    · subst h0
      by_cases k0 : op = 0
      · subst k0
        go_wp2
        go_meet
        exact ⟨_, rfl, (by unfold T.RB; simp), rfl⟩
      by_cases k4 : op = 4
      · subst k4
        go_wp2
        go_meet
        exact ⟨_, rfl, (by unfold T.RB; simp), rfl⟩
      by_cases k6 : op = 6
      · subst k6
        go_wp2
        go_meet
        exact ⟨_, rfl, (by unfold T.RB; simp), rfl⟩
      have e0 : (op == 0) = false := by simpa using k0
      have e4 : (op == 4) = false := by simpa using k4
      have e6 : (op == 6) = false := by simpa using k6
      have f0 : (op != 0) = true := by simpa using k0
      have f4 : (op != 4) = true := by simpa using k4
      have f6 : (op != 6) = true := by simpa using k6
      have K := Lib.hid (show ¬ (op = 0 ∨ op = 4 ∨ op = 6) by omega)
      clear k0 k4 k6
      go_wp2
      go_meet
      exact ⟨_, rfl, (by unfold T.RB; have := K.out; simp; omega), rfl⟩
    · have e0 : (g == 0) = false := by simpa using h0
      by_cases h3 : g = 3
      · subst h3
        by_cases k6 : op = 6
        · subst k6
          go_wp2
          go_meet
          exact ⟨_, rfl, (by unfold T.RB; simp), rfl⟩
        · have e6 : (op == 6) = false := by simpa using k6
          have K := Lib.hid k6
          clear k6
          go_wp2
          go_meet
          exact ⟨_, rfl, (by unfold T.RB; simp [K.out]), rfl⟩
      · have e3 : (g == 3) = false := by simpa using h3
        have K := Lib.hid h0
        have K3 := Lib.hid h3
        clear h0 h3
        go_wp2
        go_meet
        exact ⟨_, rfl, (by unfold T.RB; simp [K.out, K3.out]), rfl⟩
  case rest =>
  obtain ⟨q, rfl, hq, rfl⟩ := hcut
  have HQ := Lib.hid hq
  clear hq
  rcases q with _ | _
  case true =>
    go_wp2
    go_ret
    exact ⟨ret_bool (HRR.out ▸ (T.goodB_false fun h => by have := HQ.out; unfold T.RB at this; have hz := HZ.out; have := this.2 ⟨h.2.2.1, fun h3 h6 => by rw [hz]; exact decide_eq_false fun k => h.2.2.2.1 ⟨h3, h6, k⟩⟩; cases this).symm), HW.out⟩
  go_upto_region 4 with fail
  go_cut [49] (fun s49 wx => ∃ q, s49 = .bool q ∧ T.RC q g op ∧ W = wx)
  case first =>
    by_cases k1 : op < 0
    · go_wp2
      go_meet
      exact ⟨_, rfl, (by unfold T.RC; simp; omega), rfl⟩
    by_cases k2 : 8 ≤ op
    · go_wp2
      go_meet
      exact ⟨_, rfl, (by unfold T.RC; simp; omega), rfl⟩
    by_cases k3 : g < 0
    · go_wp2
      go_meet
      exact ⟨_, rfl, (by unfold T.RC; simp; omega), rfl⟩
    by_cases k4 : 3 < g
    · go_wp2
      go_meet
      exact ⟨_, rfl, (by unfold T.RC; simp; omega), rfl⟩
    have K := Lib.hid (show (0 ≤ op ∧ op < 8) ∧ 0 ≤ g ∧ g ≤ 3 by omega)
    go_wp2
    go_meet
    exact ⟨_, rfl, (by unfold T.RC; have := K.out; simp; omega), rfl⟩
  case rest =>
  obtain ⟨q, rfl, hq, rfl⟩ := hcut
  have HR := Lib.hid hq
  clear hq
  rcases q with _ | _
  case true =>
    go_wp2
    go_ret
    exact ⟨ret_bool (HRR.out ▸ (T.goodB_false fun h => by have := HR.out; unfold T.RC at this; have := this.2 ⟨h.2.1, by have := h.1; simp only at this; omega⟩; cases this).symm), HW.out⟩
  have hgg : g = 0 ∨ g = 1 ∨ g = 2 ∨ g = 3 := by
    have := HR.out.1 rfl
    omega
  have HG := Lib.hid hgg
  go_upto_region 6 with fail
  go_cut [68] (fun s68 wx => ∃ q, s68 = .bool q ∧ T.RD q g a b c p ∧ W = wx)
  case first =>
    clear HG
    rcases hgg with rfl | rfl | rfl | rfl
    · by_cases nc : (c : Int) = 0
      case neg =>
        have ec : ((c : Int) == 0) = false := by simpa using nc
        have fc : ((c : Int) != 0) = true := by simpa using nc
        have Nc := Lib.hid nc
        clear nc
        go_wp2
        go_meet
        exact ⟨_, rfl, rd_c Nc.out (by decide), rfl⟩
      have ec : ((c : Int) == 0) = true := by simpa using nc
      have fc : ((c : Int) != 0) = false := by simpa using nc
      have Nc := Lib.hid nc
      clear nc
      rcases empty_cases p with ⟨hp, hq⟩ | ⟨hp, hq⟩
      case inr =>
        have HP := Lib.hid hq
        clear hq
        go_wp2
        go_meet
        exact ⟨_, rfl, rd_p HP.out (by decide), rfl⟩
      have HP := Lib.hid hq
      clear hq
      by_cases nb : (b : Int) = 0
      case neg =>
        have eb : ((b : Int) == 0) = false := by simpa using nb
        have fb : ((b : Int) != 0) = true := by simpa using nb
        have Nb := Lib.hid nb
        clear nb
        go_wp2
        go_meet
        exact ⟨_, rfl, rd_b Nb.out (by decide), rfl⟩
      have eb : ((b : Int) == 0) = true := by simpa using nb
      have fb : ((b : Int) != 0) = false := by simpa using nb
      have Nb := Lib.hid nb
      clear nb
      by_cases na : (a : Int) = 0
      case neg =>
        have ea : ((a : Int) == 0) = false := by simpa using na
        have fa : ((a : Int) != 0) = true := by simpa using na
        have Na := Lib.hid na
        clear na
        go_wp2
        go_meet
        exact ⟨_, rfl, rd_a Na.out (by decide), rfl⟩
      have ea : ((a : Int) == 0) = true := by simpa using na
      have fa : ((a : Int) != 0) = false := by simpa using na
      have Na := Lib.hid na
      clear na
      go_wp2
      go_meet
      exact ⟨_, rfl, rd_0 Nc.out HP.out Nb.out Na.out, rfl⟩
    · by_cases nc : (c : Int) = 0
      case neg =>
        have ec : ((c : Int) == 0) = false := by simpa using nc
        have fc : ((c : Int) != 0) = true := by simpa using nc
        have Nc := Lib.hid nc
        clear nc
        go_wp2
        go_meet
        exact ⟨_, rfl, rd_c Nc.out (by decide), rfl⟩
      have ec : ((c : Int) == 0) = true := by simpa using nc
      have fc : ((c : Int) != 0) = false := by simpa using nc
      have Nc := Lib.hid nc
      clear nc
      rcases empty_cases p with ⟨hp, hq⟩ | ⟨hp, hq⟩
      case inr =>
        have HP := Lib.hid hq
        clear hq
        go_wp2
        go_meet
        exact ⟨_, rfl, rd_p HP.out (by decide), rfl⟩
      have HP := Lib.hid hq
      clear hq
      by_cases nb : (b : Int) = 0
      case neg =>
        have eb : ((b : Int) == 0) = false := by simpa using nb
        have fb : ((b : Int) != 0) = true := by simpa using nb
        have Nb := Lib.hid nb
        clear nb
        go_wp2
        go_meet
        exact ⟨_, rfl, rd_b Nb.out (by decide), rfl⟩
      have eb : ((b : Int) == 0) = true := by simpa using nb
      have fb : ((b : Int) != 0) = false := by simpa using nb
      have Nb := Lib.hid nb
      clear nb
      go_wp2
      go_meet
      exact ⟨_, rfl, rd_1 Nc.out HP.out Nb.out, rfl⟩
    · by_cases nc : (c : Int) = 0
      case neg =>
        have ec : ((c : Int) == 0) = false := by simpa using nc
        have fc : ((c : Int) != 0) = true := by simpa using nc
        have Nc := Lib.hid nc
        clear nc
        go_wp2
        go_meet
        exact ⟨_, rfl, rd_c Nc.out (by decide), rfl⟩
      have ec : ((c : Int) == 0) = true := by simpa using nc
      have fc : ((c : Int) != 0) = false := by simpa using nc
      have Nc := Lib.hid nc
      clear nc
      rcases empty_cases p with ⟨hp, hq⟩ | ⟨hp, hq⟩
      case inr =>
        have HP := Lib.hid hq
        clear hq
        go_wp2
        go_meet
        exact ⟨_, rfl, rd_p HP.out (by decide), rfl⟩
      have HP := Lib.hid hq
      clear hq
      go_wp2
      go_meet
      exact ⟨_, rfl, rd_2 Nc.out HP.out, rfl⟩
    · go_wp2
      go_meet
      exact ⟨_, rfl, rd_3, rfl⟩
  case rest =>
  obtain ⟨q, rfl, hq, rfl⟩ := hcut
  have HD := Lib.hid hq
  clear hq
  rcases q with _ | _
  case true =>
    go_wp2
    go_ret
    exact ⟨ret_bool (HRR.out ▸ (T.goodB_false fun h => by have := HD.out.2 ⟨h.2.2.2.2.1, h.2.2.2.2.2.1, h.2.2.2.2.2.2.1⟩; cases this).symm), HW.out⟩
  have HGood : Hid ((M.bs p = [] ∨ M.goodPre (M.bs p) = true) → r = true) := Lib.hid fun hp => by
    rw [← HRR.out]
    refine (T.goodB_iff _).2 ?_
    have h1 := HQ.out.1 rfl
    have h2 := HR.out.1 rfl
    have h3 := HD.out.1 rfl
    refine ⟨HG.out, h2.1, h1.1, fun h => ?_, h3.1, h3.2.1, h3.2.2, hp⟩
    have h4 := h1.2 h.1 h.2.1
    rw [HZ.out] at h4
    exact absurd h.2.2 (of_decide_eq_false h4)
  have HBad : Hid (¬ (M.bs p = [] ∨ M.goodPre (M.bs p) = true) → r = false) := Lib.hid fun hp => by
    rw [← HRR.out]
    exact T.goodB_false fun h => hp h.2.2.2.2.2.2.2
  clear hgg
  rcases empty_cases p with ⟨hp, hq⟩ | ⟨hp, hq⟩
  · have HP := Lib.hid hq
    clear hq
    go_wp2
    go_ret
    exact ⟨ret_bool (HGood.out (.inl (by simpa using HP.out))).symm, HW.out⟩
  · have HP := Lib.hid hq
    clear hq
    go_wp2_with (first
      | (go_at_call 33; (with_reducible refine (validPre_is p (M.validPre (M.bs p)) _ hz (Lib.hid rfl)).mono ?_); rintro e w2 ⟨rfl, hb⟩; have HB2 := Lib.hid (Below.up HW.out hb); have d5 := cell_below hb c5; clear hb; rcases h1 : M.validPre (M.bs p) with _ | _; all_goals (have HV := Lib.hid h1; clear h1))
      | (go_at_call 34; (with_reducible refine (smallPre_is p (M.smallPre (M.bs p)) _ hz (Lib.hid rfl)).mono ?_); rintro e w3 ⟨rfl, hb⟩; have HB3 := Lib.hid (Below.up HB2.out hb); clear hb; rcases h1 : M.smallPre (M.bs p) with _ | _; all_goals (have HS := Lib.hid h1; clear h1)))
    all_goals go_ret
    all_goals first
      | exact ⟨ret_bool (HGood.out (.inr (by unfold M.goodPre; rw [HV.out, HS.out]; rfl))).symm, HB3.out⟩
      | exact ⟨ret_bool (HBad.out (not_goodP HP.out (by unfold M.goodPre; rw [HV.out, HS.out]; rfl))).symm, HB3.out⟩
      | exact ⟨ret_bool (HBad.out (not_goodP HP.out (by unfold M.goodPre; rw [HV.out]; rfl))).symm, HB2.out⟩
theorem goodTerm_is (t : T) (r : Bool) (w : World) (hz : t.p.size ≤ 2147483647) (hr : Hid (t.goodB = r)) :
    Calls Tryd.prog 47 #[.agg #[.int .i64 t.op, .int .i64 t.g, .int .u64 t.a, .int .u64 t.b, .int .u64 t.c, .string t.p]] w fun e w' => e = .returned (.bool r) ∧ Below w.heap.size w w' := by
  have := goodTerm_any t w hz
  rw [hr.out] at this
  exact this
end Go.Proofs.YtnkdpgcfaelpkaaDoor

/-
  What the check of one term says of a version, in plain terms; the order of versions.
-/
namespace Go.Proofs.YtnkdpgcfaelpkaaDoor
open Go.RowKit
set_option maxRecDepth 100000
set_option linter.unusedVariables false

namespace M
/-- by the first, then by the second -/
def lex {α β : Type} (f : α → α → Int) (g : β → β → Int) (x y : α × β) : Int := if f x.1 y.1 ≠ 0 then f x.1 y.1 else g x.2 y.2
theorem IsCmp.lex {α β : Type} {f : α → α → Int} {g : β → β → Int} (hf : IsCmp f) (hg : IsCmp g) : IsCmp (lex f g) := by
  refine ⟨fun x => ?_, fun x y h => ?_, fun x y z h1 h2 => ?_⟩
  · unfold M.lex; rw [hf.refl, if_neg (by decide), hg.refl]
  · obtain ⟨a, b⟩ := x
    obtain ⟨c, d⟩ := y
    unfold M.lex
    simp only
    by_cases e : a = c
    · subst e
      rw [hf.refl, if_neg (by decide), if_neg (by decide)]
      exact hg.cases b d fun k => h (by rw [k])
    · rcases hf.cases a c e with ⟨h1, h2⟩ | ⟨h1, h2⟩
      · rw [h1, h2]; simp
      · rw [h1, h2]; simp
  · obtain ⟨a, b⟩ := x
    obtain ⟨c, d⟩ := y
    obtain ⟨e, i⟩ := z
    unfold M.lex at *
    simp only at *
    by_cases k1 : f a c = 0
    · have := hf.zero k1
      subst this
      rw [k1, if_neg (by decide)] at h1
      by_cases k2 : f a e = 0
      · have := hf.zero k2
        subst this
        rw [k1, if_neg (by decide)] at h2
        rw [k1, if_neg (by decide)]
        exact hg.trans _ _ _ h1 h2
      · rw [if_pos k2] at h2
        rw [if_pos k2]
        exact h2
    · rw [if_pos k1] at h1
      by_cases k2 : f c e = 0
      · have := hf.zero k2
        subst this
        rw [if_pos k1]
        exact h1
      · rw [if_pos k2] at h2
        have := hf.trans _ _ _ h1 h2
        rw [this]
        simp
theorem seg_cmp : IsCmp seg := by
  refine ⟨fun a => ?_, fun a b h => ?_, fun a b c h1 h2 => ?_⟩
  · unfold seg; rw [if_neg (by omega), if_neg (by omega)]
  · unfold seg
    rcases Nat.lt_or_gt_of_ne h with h | h
    · left; rw [if_pos h, if_neg (by omega), if_pos h]; exact ⟨rfl, rfl⟩
    · right; rw [if_neg (by omega), if_pos h, if_pos h]; exact ⟨rfl, rfl⟩
  · have g : ∀ x y, seg x y = -1 → x < y := fun x y h => by
      unfold seg at h
      split at h
      · assumption
      · split at h <;> omega
    have := g _ _ h1
    have := g _ _ h2
    unfold seg
    rw [if_pos (by omega)]
theorem preCmp_cmp : IsCmp preCmp := by
  refine ⟨fun a => ?_, fun a b h => ?_, fun a b c h1 h2 => ?_⟩
  · unfold preCmp
    by_cases ha : a = []
    · rw [if_pos ha, if_pos ha]
    · rw [if_neg ha, if_neg ha, cmpPre_cmp.refl]
  · unfold preCmp
    by_cases ha : a = []
    · by_cases hb : b = []
      · exact absurd (ha.trans hb.symm) h
      · right; rw [if_pos ha, if_neg hb, if_neg hb, if_pos ha]; exact ⟨rfl, rfl⟩
    · by_cases hb : b = []
      · left; rw [if_neg ha, if_pos hb, if_pos hb, if_neg ha]; exact ⟨rfl, rfl⟩
      · rw [if_neg ha, if_neg hb, if_neg hb, if_neg ha]; exact cmpPre_cmp.cases a b h
  · unfold preCmp at *
    by_cases ha : a = []
    · rw [if_pos ha] at h1
      split at h1 <;> omega
    · rw [if_neg ha] at h1 ⊢
      by_cases hc : c = []
      · rw [if_pos hc]
      · rw [if_neg hc]
        by_cases hb : b = []
        · rw [if_pos hb, if_neg hc] at h2; omega
        · rw [if_neg hb] at h1 h2
          rw [if_neg hc] at h2
          exact cmpPre_cmp.trans _ _ _ h1 h2
end M
def V.key (x : V) : Nat × (Nat × (Nat × M.Bs)) := (x.a, x.b, x.c, M.bs x.p)
theorem V.cmp_key (x y : V) : x.cmp y = M.lex M.seg (M.lex M.seg (M.lex M.seg M.preCmp)) x.key y.key := by
  unfold V.cmp V.nums3 M.lex V.key
  simp only
  by_cases h1 : M.seg x.a y.a = 0 <;> by_cases h2 : M.seg x.b y.b = 0 <;> by_cases h3 : M.seg x.c y.c = 0 <;> simp [h1, h2, h3]
theorem key_cmp : M.IsCmp (M.lex M.seg (M.lex M.seg (M.lex M.seg M.preCmp))) := M.seg_cmp.lex (M.seg_cmp.lex (M.seg_cmp.lex M.preCmp_cmp))
theorem V.cmp_neg (x y : V) : y.cmp x = -x.cmp y := by rw [V.cmp_key, V.cmp_key]; exact key_cmp.neg _ _
theorem V.cmp_range (x y : V) : x.cmp y = -1 ∨ x.cmp y = 0 ∨ x.cmp y = 1 := by rw [V.cmp_key]; exact key_cmp.range _ _
theorem V.cmp_le {x y z : V} (h1 : x.cmp y ≤ 0) (h2 : y.cmp z ≤ 0) : x.cmp z ≤ 0 := by rw [V.cmp_key] at *; exact (key_cmp.le h1 h2).1
theorem V.cmp_lt {x y z : V} (h1 : x.cmp y ≤ 0) (h2 : y.cmp z < 0) : x.cmp z < 0 := by
  have h3 := V.cmp_le h1 (by omega : y.cmp z ≤ 0)
  rcases Int.lt_or_eq_of_le h3 with h | h
  · exact h
  · rw [V.cmp_key] at *
    have := (key_cmp.le h1 (Int.le_of_lt h2)).2 h
    rw [this.2, key_cmp.refl] at h2
    omega
theorem V.cmp_self (x : V) : x.cmp x = 0 := by rw [V.cmp_key]; exact key_cmp.refl _

/-- the check of a tilde, of a caret, and of the other operators over one term -/
def T.tilde (t : T) (x : V) : Bool :=
  !decide (x.cmp t.ver < 0) && ((t.a == 0 && t.b == 0 && t.c == 0 && !t.minor && !t.patch) || (x.a == t.a && (x.b == t.b || t.minor)))
def T.caret (t : T) (x : V) : Bool :=
  !decide (x.cmp t.ver < 0) && (if decide (0 < t.a) || t.minor then x.a == t.a else !decide (0 < x.a) && (if decide (0 < t.b) || t.patch then x.b == t.b else !decide (0 < x.b) && t.c == x.c))
def T.above (t : T) (x : V) : Bool :=
  if !t.dirty then decide (x.cmp t.ver = 1) else if t.a < x.a then true else if x.a < t.a then false else if t.minor then false else if t.patch then decide (t.b < x.b) else decide (x.cmp t.ver = 1)
def T.most (t : T) (x : V) : Bool :=
  if !t.dirty then decide (x.cmp t.ver ≤ 0) else if t.a < x.a then false else if x.a == t.a && decide (t.b < x.b) && !t.minor then false else true
def T.not (t : T) (x : V) : Bool :=
  if t.dirty then
    if t.a ≠ x.a then true
    else if t.b ≠ x.b && !t.minor then true
    else if t.minor then false
    else if t.c ≠ x.c && !t.patch then true
    else if t.patch then (if M.bs x.p ≠ [] || M.bs t.p ≠ [] then decide (M.preCmp (M.bs x.p) (M.bs t.p) ≠ 0) else false)
    else !decide (x.cmp t.ver = 0)
  else !decide (x.cmp t.ver = 0)
def T.equal (t : T) (x : V) : Bool := if t.dirty then t.tilde x else decide (x.cmp t.ver = 0)
/-- whatever the operator, but for prereleases -/
def T.hold (t : T) (x : V) : Bool :=
  if t.op = 0 then t.equal x else if t.op = 1 then t.not x else if t.op = 2 then t.above x else if t.op = 3 then decide (x.cmp t.ver < 0) else if t.op = 4 then decide (x.cmp t.ver ≥ 0) else if t.op = 5 then t.most x else if t.op = 6 then t.tilde x else t.caret x

theorem nums_same {x y : V} (h : x.nums3 y = 0) : x.a = y.a ∧ x.b = y.b ∧ x.c = y.c := by
  unfold V.nums3 at h
  have z : ∀ a b, M.seg a b = 0 → a = b := fun a b h => M.seg_cmp.zero h
  by_cases h1 : M.seg x.a y.a = 0
  · rw [if_neg (by simp [h1])] at h
    by_cases h2 : M.seg x.b y.b = 0
    · rw [if_neg (by simp [h2])] at h
      exact ⟨z _ _ h1, z _ _ h2, z _ _ h⟩
    · rw [if_pos h2] at h
      exact absurd h h2
  · rw [if_pos h1] at h
    exact absurd h h1
theorem V.ge_up {t x y : V} (h : ¬ x.cmp t < 0) (hxy : x.cmp y ≤ 0) : ¬ y.cmp t < 0 := fun h2 => h (V.cmp_lt hxy h2)
theorem V.gt_up {t x y : V} (h : x.cmp t = 1) (hxy : x.cmp y ≤ 0) : y.cmp t = 1 := by
  rcases V.cmp_range y t with k | k | k
  · have := V.cmp_lt hxy (by omega : y.cmp t < 0); omega
  · have := V.cmp_le hxy (by omega : y.cmp t ≤ 0); omega
  · exact k
theorem V.cmp_a {x y : V} (h : x.cmp y ≤ 0) : x.a ≤ y.a := by
  rcases Nat.lt_or_ge y.a x.a with k | k
  · exfalso
    have : M.seg x.a y.a = 1 := by unfold M.seg; rw [if_neg (by omega), if_pos k]
    unfold V.cmp V.nums3 at h
    rw [this] at h
    simp at h
  · exact k
theorem V.cmp_b {x y : V} (h : x.cmp y ≤ 0) (ha : x.a = y.a) : x.b ≤ y.b := by
  rcases Nat.lt_or_ge y.b x.b with k | k
  · exfalso
    have h1 : M.seg x.a y.a = 0 := by rw [ha]; exact M.seg_cmp.refl _
    have h2 : M.seg x.b y.b = 1 := by unfold M.seg; rw [if_neg (by omega), if_pos k]
    unfold V.cmp V.nums3 at h
    rw [h1, h2] at h
    simp at h
  · exact k
/-- up the order: what > says -/
theorem above_up {t : T} {x y : V} (h : t.above x = true) (hxy : x.cmp y ≤ 0) : t.above y = true := by
  unfold T.above at *
  have ha := V.cmp_a hxy
  cases hd : t.dirty with
  | false =>
    rw [hd] at h
    simp only [Bool.not_false, if_true, decide_eq_true_eq] at h ⊢
    exact V.gt_up h hxy
  | true =>
    rw [hd] at h
    simp only [Bool.not_true, Bool.false_eq_true, if_false] at h ⊢
    by_cases k1 : t.a < x.a
    · rw [if_pos (by omega)]
    · rw [if_neg k1] at h
      by_cases k2 : x.a < t.a
      · rw [if_pos k2] at h; cases h
      · rw [if_neg k2] at h
        by_cases k3 : t.a < y.a
        · rw [if_pos k3]
        · rw [if_neg k3, if_neg (by omega)]
          have he : x.a = y.a := by omega
          have hb := V.cmp_b hxy he
          cases hm : t.minor with
          | true => rw [hm, if_pos rfl] at h; cases h
          | false =>
            rw [hm] at h
            simp only [Bool.false_eq_true, if_false] at h ⊢
            cases hp : t.patch with
            | true =>
              rw [hp] at h
              simp only [if_true, decide_eq_true_eq] at h ⊢
              omega
            | false =>
              rw [hp] at h
              simp only [Bool.false_eq_true, if_false, decide_eq_true_eq] at h ⊢
              exact V.gt_up h hxy
theorem tilde_up {t : T} {x y : V} (h : t.tilde x = true) (hxy : x.cmp y ≤ 0) (hn : x.nums3 y = 0) : t.tilde y = true := by
  obtain ⟨e1, e2, e3⟩ := nums_same hn
  unfold T.tilde at *
  rw [Bool.and_eq_true, Bool.not_eq_true', decide_eq_false_iff_not] at h ⊢
  rw [← e1, ← e2]
  exact ⟨V.ge_up h.1 hxy, h.2⟩
theorem caret_up {t : T} {x y : V} (h : t.caret x = true) (hxy : x.cmp y ≤ 0) (hn : x.nums3 y = 0) : t.caret y = true := by
  obtain ⟨e1, e2, e3⟩ := nums_same hn
  unfold T.caret at *
  rw [Bool.and_eq_true, Bool.not_eq_true', decide_eq_false_iff_not] at h ⊢
  rw [← e1, ← e2, ← e3]
  exact ⟨V.ge_up h.1 hxy, h.2⟩
theorem tilde_own (t : T) : t.tilde t.ver = true := by
  unfold T.tilde
  rw [V.cmp_self]
  simp [T.ver]
theorem caret_own (t : T) : t.caret t.ver = true := by
  unfold T.caret
  rw [V.cmp_self]
  simp [T.ver]
  by_cases h1 : 0 < t.a
  · exact .inl (.inl h1)
  · refine .inr ⟨decide_eq_false h1, ?_⟩
    by_cases h2 : 0 < t.b
    · exact .inl (.inl h2)
    · exact .inr (decide_eq_false h2)
end Go.Proofs.YtnkdpgcfaelpkaaDoor
