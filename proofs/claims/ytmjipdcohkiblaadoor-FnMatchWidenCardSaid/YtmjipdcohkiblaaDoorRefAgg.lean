/-
  A parameter that is a reference as plain data (a struct of four strings): opened, shut, its strings' sizes.
-/
import Derived.Test.YtmjipdcohkiblaaDoorChecked
import Derived.WalkKit
import Derived.ProofKit
import Derived.OpenShut
import Derived.ShutString
import Derived.Below
import Derived.SizedLaws
import Derived.Deep.Fields
namespace Go.Proofs.YtmjipdcohkiblaaDoor
open Go.ChangeShapes Go.WideShapes Go.RowKit
set_option maxRecDepth 100000

/-- a reference: domain, path, tag, digest -/
structure R where
  d : ByteArray
  p : ByteArray
  t : ByteArray
  g : ByteArray
def R.v (x : R) : Value := .agg #[.string x.d, .string x.p, .string x.t, .string x.g]
section
variable {H : Type} {enc : TypeId × Value → H} {w : World} {base b0 : Nat} {spare : Nat → Bool} {held : Bool} {r : Reach} {v : Value} {dd : DataW H} {p : List MemPlace}

def R.dat (H : Type) (x : R) : DataW H := .agg [.lit (.string x.d.data.toList), .lit (.string x.p.data.toList), .lit (.string x.t.data.toList), .lit (.string x.g.data.toList)]
def R.small (x : R) : Prop := x.d.size ≤ maxLen ∧ x.p.size ≤ maxLen ∧ x.t.size ≤ maxLen ∧ x.g.size ≤ maxLen
theorem ref_cells : Tryd.prog.cellsOf 31 = 4 := by kernel_rfl
theorem str_cells : Tryd.prog.cellsOf 9 = 1 := by kernel_rfl
theorem array4 {α : Type} {cs : Array α} (h : cs.size = 4) : ∃ c0 c1 c2 c3, cs = #[c0, c1, c2, c3] := by
  obtain ⟨l⟩ := cs
  match l, h with
  | [c0, c1, c2, c3], _ => exact ⟨c0, c1, c2, c3, rfl⟩
theorem list4 {α : Type} {cs : List α} (h : cs.length = 4) : ∃ c0 c1 c2 c3, cs = [c0, c1, c2, c3] := by
  match cs, h with
  | [c0, c1, c2, c3], _ => exact ⟨c0, c1, c2, c3, rfl⟩
theorem open_ref (hv : Value.okWide Tryd.prog w r b0 31 v) (h : DataW.Trod enc Tryd.prog w base spare held 31 v dd p) :
    ∃ x : R, v = x.v ∧ dd = x.dat H ∧ p = [] ∧ x.small := by
  obtain ⟨cs, rfl, hsz⟩ := okWide_struct Tryd.underlying31 hv
  obtain ⟨c0, c1, c2, c3, rfl⟩ := array4 (hsz.trans ref_cells)
  obtain ⟨fuel, hf⟩ := h
  obtain ⟨xs, n, _, hx, hl, hlen, hg⟩ := DataW.trod_struct Tryd.underlying31 hf
  obtain ⟨y0, y1, y2, y3, rfl⟩ := list4 (hlen.trans rfl)
  have h0 : DataW.trod enc Tryd.prog w base spare held n 9 [c0] = some y0 := by simpa [Value.cells, str_cells] using hg 0 _ rfl
  have h1 : DataW.trod enc Tryd.prog w base spare held n 9 [c1] = some y1 := by simpa [Value.cells, str_cells] using hg 1 _ rfl
  have h2 : DataW.trod enc Tryd.prog w base spare held n 9 [c2] = some y2 := by simpa [Value.cells, str_cells] using hg 2 _ rfl
  have h3 : DataW.trod enc Tryd.prog w base spare held n 9 [c3] = some y3 := by simpa [Value.cells, str_cells] using hg 3 _ rfl
  clear hg hl hlen hv hsz hf
  obtain ⟨s0, e0, rfl, w0⟩ := DataW.trod_string Tryd.underlying9 h0
  obtain ⟨s1, e1, rfl, w1⟩ := DataW.trod_string Tryd.underlying9 h1
  obtain ⟨s2, e2, rfl, w2⟩ := DataW.trod_string Tryd.underlying9 h2
  obtain ⟨s3, e3, rfl, w3⟩ := DataW.trod_string Tryd.underlying9 h3
  simp only [List.cons.injEq, and_true] at e0 e1 e2 e3
  simp only [Prod.mk.injEq] at hx
  refine ⟨⟨s0, s1, s2, s3⟩, ?_, ?_, ?_, w0, w1, w2, w3⟩
  · rw [e0, e1, e2, e3]; rfl
  · rw [hx.1]; rfl
  · rw [hx.2]; rfl
theorem trod_str {s : ByteArray} (h : s.size ≤ maxLen) : DataW.trod enc Tryd.prog w base spare held 1 9 [.string s] = some (.lit (.string s.data.toList), []) := by
  simp [DataW.trod, Tryd.underlying9, h]
theorem shut_ref {x : R} (h : x.small) : DataW.Trod enc Tryd.prog w base spare held 31 x.v (x.dat H) [] := by
  refine ⟨2, ?_⟩
  have := trod_struct_mk (enc := enc) (w := w) (base := base) (spare := spare) (held := held) (n := 1) (cs := [.string x.d, .string x.p, .string x.t, .string x.g]) (xs := [(.lit (.string x.d.data.toList), []), (.lit (.string x.p.data.toList), []), (.lit (.string x.t.data.toList), []), (.lit (.string x.g.data.toList), [])]) Tryd.underlying31 ref_cells.symm
    (by simp [str_cells, trod_str h.1, trod_str h.2.1, trod_str h.2.2.1, trod_str h.2.2.2])
  exact this
/-- none of the strings is larger than any machine -/
def R.fits (x : R) : Prop := x.d.size ≤ 140737488351232 ∧ x.p.size ≤ 140737488351232 ∧ x.t.size ≤ 140737488351232 ∧ x.g.size ≤ 140737488351232
theorem sized_ref {ts : List TypeId} {ds : List (DataW H)} (h : (DataW.weightsEach Tryd.prog ts ds).all (· ≤ reachBytes) = true) {j : Nat} {x : R} (ht : ts[j]? = some 31) (hd : ds[j]? = some (x.dat H)) : x.fits := by
  have key : ∀ s : ByteArray, s = x.d ∨ s = x.p ∨ s = x.t ∨ s = x.g → s.size ≤ 140737488351232 := fun s hs => by
    have h1 := List.all_eq_true.1 h _ (DataW.weights_mem_each ht hd s.data.toList.length (by
      rcases hs with rfl | rfl | rfl | rfl <;> simp [R.dat, DataW.weights, DataW.weightsEach, Tryd.underlying31]))
    simp only [decide_eq_true_eq, Array.length_toList] at h1
    exact h1
  exact ⟨key _ (.inl rfl), key _ (.inr (.inl rfl)), key _ (.inr (.inr (.inl rfl))), key _ (.inr (.inr (.inr rfl)))⟩
end
end Go.Proofs.YtmjipdcohkiblaaDoor
