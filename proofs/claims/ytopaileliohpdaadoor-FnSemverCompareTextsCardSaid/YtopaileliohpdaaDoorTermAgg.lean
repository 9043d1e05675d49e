/-
  A parameter that is a term (a struct by value): opened, shut, its string's size.
-/
import Derived.Test.YtopaileliohpdaaDoorAgg
import Derived.Test.YtopaileliohpdaaDoorTermSmall
namespace Go.Proofs.YtopaileliohpdaaDoor
open Go.ChangeShapes Go.WideShapes Go.RowKit
set_option maxRecDepth 100000

section
variable {H : Type} {enc : TypeId × Value → H} {w : World} {base b0 : Nat} {spare : Nat → Bool} {held : Bool} {r : Reach} {v : Value} {dd : DataW H} {p : List MemPlace}

/-- a term as a datum -/
def T.d (H : Type) (x : T) : DataW H := .agg [.lit (.int .i64 x.op), .lit (.int .i64 x.g), .lit (.int .u64 x.a), .lit (.int .u64 x.b), .lit (.int .u64 x.c), .lit (.string x.p.data.toList)]
/-- a term's numbers are of their kinds -/
def T.wf (x : T) : Prop := ((Lit.int .i64 x.op).wf = true ∧ (Lit.int .i64 x.g).wf = true) ∧ x.a < 18446744073709551616 ∧ x.b < 18446744073709551616 ∧ x.c < 18446744073709551616
theorem term_cells : Tryd.prog.cellsOf 39 = 6 := by kernel_rfl
theorem int_cells : Tryd.prog.cellsOf 3 = 1 := by kernel_rfl
theorem array6 {α : Type} {cs : Array α} (h : cs.size = 6) : ∃ c0 c1 c2 c3 c4 c5, cs = #[c0, c1, c2, c3, c4, c5] := by
  obtain ⟨l⟩ := cs
  match l, h with
  | [c0, c1, c2, c3, c4, c5], _ => exact ⟨c0, c1, c2, c3, c4, c5, rfl⟩
theorem list6 {α : Type} {cs : List α} (h : cs.length = 6) : ∃ c0 c1 c2 c3 c4 c5, cs = [c0, c1, c2, c3, c4, c5] := by
  match cs, h with
  | [c0, c1, c2, c3, c4, c5], _ => exact ⟨c0, c1, c2, c3, c4, c5, rfl⟩
theorem open_term (hv : Value.okWide Tryd.prog w r b0 39 v) (h : DataW.Trod enc Tryd.prog w base spare held 39 v dd p) :
    ∃ x : T, v = x.val ∧ dd = x.d H ∧ p = [] ∧ x.wf ∧ x.p.size ≤ maxLen := by
  obtain ⟨cs, rfl, hsz⟩ := okWide_struct Tryd.underlying39 hv
  obtain ⟨c0, c1, c2, c3, c4, c5, rfl⟩ := array6 (hsz.trans term_cells)
  obtain ⟨fuel, hf⟩ := h
  obtain ⟨xs, n, _, hx, hl, hlen, hg⟩ := DataW.trod_struct Tryd.underlying39 hf
  obtain ⟨y0, y1, y2, y3, y4, y5, rfl⟩ := list6 (hlen.trans rfl)
  have h0 : DataW.trod enc Tryd.prog w base spare held n 3 [c0] = some y0 := by simpa [Value.cells, int_cells, u64_cells, str_cells] using hg 0 _ rfl
  have h1 : DataW.trod enc Tryd.prog w base spare held n 3 [c1] = some y1 := by simpa [Value.cells, int_cells, u64_cells, str_cells] using hg 1 _ rfl
  have h2 : DataW.trod enc Tryd.prog w base spare held n 22 [c2] = some y2 := by simpa [Value.cells, int_cells, u64_cells, str_cells] using hg 2 _ rfl
  have h3 : DataW.trod enc Tryd.prog w base spare held n 22 [c3] = some y3 := by simpa [Value.cells, int_cells, u64_cells, str_cells] using hg 3 _ rfl
  have h4 : DataW.trod enc Tryd.prog w base spare held n 22 [c4] = some y4 := by simpa [Value.cells, int_cells, u64_cells, str_cells] using hg 4 _ rfl
  have h5 : DataW.trod enc Tryd.prog w base spare held n 9 [c5] = some y5 := by simpa [Value.cells, int_cells, u64_cells, str_cells] using hg 5 _ rfl
  clear hg hl hlen hv hsz hf
  obtain ⟨n0, e0, rfl, w0⟩ := DataW.trod_int Tryd.underlying3 h0
  obtain ⟨n1, e1, rfl, w1⟩ := DataW.trod_int Tryd.underlying3 h1
  obtain ⟨n2, e2, rfl, w2⟩ := DataW.trod_int Tryd.underlying22 h2
  obtain ⟨n3, e3, rfl, w3⟩ := DataW.trod_int Tryd.underlying22 h3
  obtain ⟨n4, e4, rfl, w4⟩ := DataW.trod_int Tryd.underlying22 h4
  obtain ⟨s5, e5, rfl, w5⟩ := DataW.trod_string Tryd.underlying9 h5
  simp only [List.cons.injEq, and_true] at e0 e1 e2 e3 e4 e5
  obtain ⟨k2, rfl, b2⟩ := u64_nat w2
  obtain ⟨k3, rfl, b3⟩ := u64_nat w3
  obtain ⟨k4, rfl, b4⟩ := u64_nat w4
  simp only [Prod.mk.injEq] at hx
  refine ⟨⟨n0, n1, k2, k3, k4, s5⟩, ?_, ?_, ?_, ⟨⟨w0, w1⟩, b2, b3, b4⟩, w5⟩
  · rw [e0, e1, e2, e3, e4, e5]; rfl
  · rw [hx.1]; rfl
  · rw [hx.2]; rfl
theorem trod_i64 {k : Int} (h : (Lit.int .i64 k).wf = true) : DataW.trod enc Tryd.prog w base spare held 1 3 [.int .i64 k] = some (.lit (.int .i64 k), []) := by
  simp [DataW.trod, Tryd.underlying3, h]
theorem shut_term {x : T} (hu : x.wf) (hp : x.p.size ≤ maxLen) : DataW.Trod enc Tryd.prog w base spare held 39 x.val (x.d H) [] := by
  refine ⟨2, ?_⟩
  have := trod_struct_mk (enc := enc) (w := w) (base := base) (spare := spare) (held := held) (n := 1) (cs := [.int .i64 x.op, .int .i64 x.g, .int .u64 x.a, .int .u64 x.b, .int .u64 x.c, .string x.p]) (xs := [(.lit (.int .i64 x.op), []), (.lit (.int .i64 x.g), []), (.lit (.int .u64 x.a), []), (.lit (.int .u64 x.b), []), (.lit (.int .u64 x.c), []), (.lit (.string x.p.data.toList), [])]) Tryd.underlying39 term_cells.symm
    (by simp [int_cells, u64_cells, str_cells, trod_i64 hu.1.1, trod_i64 hu.1.2, trod_u64 hu.2.1, trod_u64 hu.2.2.1, trod_u64 hu.2.2.2, trod_str hp])
  exact this
theorem sized_term {ts : List TypeId} {ds : List (DataW H)} (h : (DataW.weightsEach Tryd.prog ts ds).all (· ≤ reachBytes) = true) {j : Nat} {x : T} (ht : ts[j]? = some 39) (hd : ds[j]? = some (x.d H)) :
    x.p.size ≤ 140737488351232 := by
  have h1 := List.all_eq_true.1 h _ (DataW.weights_mem_each ht hd x.p.data.toList.length (by simp [T.d, DataW.weights, DataW.weightsEach, Tryd.underlying39]))
  simp only [decide_eq_true_eq, Array.length_toList] at h1
  exact h1
end
end Go.Proofs.YtopaileliohpdaaDoor
