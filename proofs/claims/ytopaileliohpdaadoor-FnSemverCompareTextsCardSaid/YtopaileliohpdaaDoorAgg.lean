/-
  A parameter that is a version (a struct by value): opened, shut, its strings' sizes.
-/
import Derived.Test.YtopaileliohpdaaDoorText
import Derived.WalkKit
import Derived.ProofKit
import Derived.OpenShut
import Derived.ShutString
import Derived.SizedLaws
import Derived.Deep.Fields
namespace Go.Proofs.YtopaileliohpdaaDoor
open Go.ChangeShapes Go.WideShapes Go.RowKit
set_option maxRecDepth 100000

section
variable {H : Type} {enc : TypeId × Value → H} {w : World} {base b0 : Nat} {spare : Nat → Bool} {held : Bool} {r : Reach} {v : Value} {dd : DataW H} {p : List MemPlace}

/-- a version as a datum -/
def V.d (H : Type) (x : V) : DataW H := .agg [.lit (.int .u64 x.a), .lit (.int .u64 x.b), .lit (.int .u64 x.c), .lit (.string x.p.data.toList), .lit (.string x.m.data.toList)]
theorem ver_cells : Tryd.prog.cellsOf 24 = 5 := by kernel_rfl
theorem u64_cells : Tryd.prog.cellsOf 22 = 1 := by kernel_rfl
theorem str_cells : Tryd.prog.cellsOf 9 = 1 := by kernel_rfl
theorem array5 {α : Type} {cs : Array α} (h : cs.size = 5) : ∃ c0 c1 c2 c3 c4, cs = #[c0, c1, c2, c3, c4] := by
  obtain ⟨l⟩ := cs
  match l, h with
  | [c0, c1, c2, c3, c4], _ => exact ⟨c0, c1, c2, c3, c4, rfl⟩
theorem list5 {α : Type} {cs : List α} (h : cs.length = 5) : ∃ c0 c1 c2 c3 c4, cs = [c0, c1, c2, c3, c4] := by
  match cs, h with
  | [c0, c1, c2, c3, c4], _ => exact ⟨c0, c1, c2, c3, c4, rfl⟩
theorem u64_nat {n : Int} (h : (Lit.int .u64 n).wf = true) : ∃ k : Nat, n = k ∧ k < 18446744073709551616 := by
  have hb : 0 ≤ n ∧ n < 18446744073709551616 := by
    simp [Lit.wf, IntKind.min, IntKind.max, IntKind.signed, IntKind.bits] at h
    omega
  exact ⟨n.toNat, by omega, by omega⟩
theorem nat_u64 {k : Nat} (h : k < 18446744073709551616) : (Lit.int .u64 (k : Int)).wf = true := by
  simp [Lit.wf, IntKind.min, IntKind.max, IntKind.signed, IntKind.bits]
  omega
theorem open_ver (hv : Value.okWide Tryd.prog w r b0 24 v) (h : DataW.Trod enc Tryd.prog w base spare held 24 v dd p) :
    ∃ x : V, v = x.v ∧ dd = x.d H ∧ p = [] ∧ x.u64 ∧ x.p.size ≤ maxLen ∧ x.m.size ≤ maxLen := by
  obtain ⟨cs, rfl, hsz⟩ := okWide_struct Tryd.underlying24 hv
  obtain ⟨c0, c1, c2, c3, c4, rfl⟩ := array5 (hsz.trans ver_cells)
  obtain ⟨fuel, hf⟩ := h
  obtain ⟨xs, n, _, hx, hl, hlen, hg⟩ := DataW.trod_struct Tryd.underlying24 hf
  obtain ⟨y0, y1, y2, y3, y4, rfl⟩ := list5 (hlen.trans rfl)
  have h0 : DataW.trod enc Tryd.prog w base spare held n 22 [c0] = some y0 := by simpa [Value.cells, u64_cells] using hg 0 _ rfl
  have h1 : DataW.trod enc Tryd.prog w base spare held n 22 [c1] = some y1 := by simpa [Value.cells, u64_cells] using hg 1 _ rfl
  have h2 : DataW.trod enc Tryd.prog w base spare held n 22 [c2] = some y2 := by simpa [Value.cells, u64_cells] using hg 2 _ rfl
  have h3 : DataW.trod enc Tryd.prog w base spare held n 9 [c3] = some y3 := by simpa [Value.cells, str_cells] using hg 3 _ rfl
  have h4 : DataW.trod enc Tryd.prog w base spare held n 9 [c4] = some y4 := by simpa [Value.cells, str_cells] using hg 4 _ rfl
  clear hg hl hlen hv hsz hf
  obtain ⟨n0, e0, rfl, w0⟩ := DataW.trod_int Tryd.underlying22 h0
  obtain ⟨n1, e1, rfl, w1⟩ := DataW.trod_int Tryd.underlying22 h1
  obtain ⟨n2, e2, rfl, w2⟩ := DataW.trod_int Tryd.underlying22 h2
  obtain ⟨s3, e3, rfl, w3⟩ := DataW.trod_string Tryd.underlying9 h3
  obtain ⟨s4, e4, rfl, w4⟩ := DataW.trod_string Tryd.underlying9 h4
  simp only [List.cons.injEq, and_true] at e0 e1 e2 e3 e4
  obtain ⟨k0, rfl, b0⟩ := u64_nat w0
  obtain ⟨k1, rfl, b1⟩ := u64_nat w1
  obtain ⟨k2, rfl, b2⟩ := u64_nat w2
  simp only [Prod.mk.injEq] at hx
  refine ⟨⟨k0, k1, k2, s3, s4⟩, ?_, ?_, ?_, ⟨b0, b1, b2⟩, w3, w4⟩
  · rw [e0, e1, e2, e3, e4]; rfl
  · rw [hx.1]; rfl
  · rw [hx.2]; rfl
theorem trod_u64 {k : Nat} (h : k < 18446744073709551616) : DataW.trod enc Tryd.prog w base spare held 1 22 [.int .u64 k] = some (.lit (.int .u64 k), []) := by
  simp [DataW.trod, Tryd.underlying22, nat_u64 h]
theorem trod_str {s : ByteArray} (h : s.size ≤ maxLen) : DataW.trod enc Tryd.prog w base spare held 1 9 [.string s] = some (.lit (.string s.data.toList), []) := by
  simp [DataW.trod, Tryd.underlying9, h]
theorem shut_ver {x : V} (hu : x.u64) (hp : x.p.size ≤ maxLen) (hm : x.m.size ≤ maxLen) : DataW.Trod enc Tryd.prog w base spare held 24 x.v (x.d H) [] := by
  refine ⟨2, ?_⟩
  have := trod_struct_mk (enc := enc) (w := w) (base := base) (spare := spare) (held := held) (n := 1) (cs := [.int .u64 x.a, .int .u64 x.b, .int .u64 x.c, .string x.p, .string x.m]) (xs := [(.lit (.int .u64 x.a), []), (.lit (.int .u64 x.b), []), (.lit (.int .u64 x.c), []), (.lit (.string x.p.data.toList), []), (.lit (.string x.m.data.toList), [])]) Tryd.underlying24 ver_cells.symm
    (by simp [u64_cells, str_cells, trod_u64 hu.1, trod_u64 hu.2.1, trod_u64 hu.2.2, trod_str hp, trod_str hm])
  exact this
theorem sized_ver {ts : List TypeId} {ds : List (DataW H)} (h : (DataW.weightsEach Tryd.prog ts ds).all (· ≤ reachBytes) = true) {j : Nat} {x : V} (ht : ts[j]? = some 24) (hd : ds[j]? = some (x.d H)) :
    x.p.size ≤ 140737488351232 ∧ x.m.size ≤ 140737488351232 := by
  have h1 := List.all_eq_true.1 h _ (DataW.weights_mem_each ht hd x.p.data.toList.length (by simp [V.d, DataW.weights, DataW.weightsEach, Tryd.underlying24]))
  have h2 := List.all_eq_true.1 h _ (DataW.weights_mem_each ht hd x.m.data.toList.length (by simp [V.d, DataW.weights, DataW.weightsEach, Tryd.underlying24]))
  simp only [decide_eq_true_eq, Array.length_toList] at h1 h2
  exact ⟨h1, h2⟩
end
end Go.Proofs.YtopaileliohpdaaDoor
