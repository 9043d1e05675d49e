/-
  Parameters that are lists of terms, and lists of lists of terms: opened; their sizes.
-/
import Derived.Test.YtnkdpgcfaelpkaaDoorBaseC
import Derived.Test.YtnkdpgcfaelpkaaDoorFits
import Derived.Test.YtnkdpgcfaelpkaaDoorApp
import Derived.Deep.Slices
import Derived.Carry
namespace Go.Proofs.YtnkdpgcfaelpkaaDoor
open Go.ChangeShapes Go.WideShapes Go.RowKit Go.Deep
set_option maxRecDepth 100000
set_option linter.unusedVariables false

theorem laidOut : laidOutB Tryd.prog = true := by kernel_rfl
theorem terms_bytes : Tryd.prog.bytesOf 35 = 56 := by kernel_rfl
theorem termss_bytes : Tryd.prog.bytesOf 37 = 24 := by kernel_rfl
theorem terms_one : Tryd.prog.cellsOf 37 = 1 := by kernel_rfl
theorem spot_none {w : World} {a : Addr} {v : Value} (h : w.cell? a = some v) : ∃ b o, a = ⟨b, o, none⟩ ∧ b < w.heap.size := by
  obtain ⟨b, o, s⟩ := a
  unfold World.cell? at h
  split at h
  · rename_i hb
    cases s with
    | none => exact ⟨b, o, rfl, (Array.getElem?_eq_some_iff.1 hb).1⟩
    | some _ => simp at h
  · cases h
instance : Inhabited T := ⟨⟨0, 0, 0, 0, 0, ⟨#[]⟩⟩⟩
section
variable {H : Type} {enc : TypeId × Value → H} {w : World} {base b0 : Nat} {spare : Nat → Bool} {held : Bool} {r : Reach} {v : Value} {dd : DataW H} {p : List MemPlace}
theorem term_of_cells {fuel : Nat} {cs : List Value} {x : DataW H × List MemPlace} (hl : cs.length = 6) (hf : DataW.trod enc Tryd.prog w base spare held fuel 35 cs = some x) :
    ∃ t : T, cs = t6 t ∧ x.1 = t.d H ∧ t.wf ∧ t.p.size ≤ maxLen := by
  obtain ⟨c0, c1, c2, c3, c4, c5, rfl⟩ := list6 hl
  obtain ⟨xs, n, _, hx, hl, hlen, hg⟩ := DataW.trod_struct Tryd.underlying35 hf
  obtain ⟨y0, y1, y2, y3, y4, y5, rfl⟩ := list6 (hlen.trans rfl)
  have h0 : DataW.trod enc Tryd.prog w base spare held n 3 [c0] = some y0 := by simpa [Value.cells, int_cells, u64_cells, str_cells] using hg 0 _ rfl
  have h1 : DataW.trod enc Tryd.prog w base spare held n 3 [c1] = some y1 := by simpa [Value.cells, int_cells, u64_cells, str_cells] using hg 1 _ rfl
  have h2 : DataW.trod enc Tryd.prog w base spare held n 22 [c2] = some y2 := by simpa [Value.cells, int_cells, u64_cells, str_cells] using hg 2 _ rfl
  have h3 : DataW.trod enc Tryd.prog w base spare held n 22 [c3] = some y3 := by simpa [Value.cells, int_cells, u64_cells, str_cells] using hg 3 _ rfl
  have h4 : DataW.trod enc Tryd.prog w base spare held n 22 [c4] = some y4 := by simpa [Value.cells, int_cells, u64_cells, str_cells] using hg 4 _ rfl
  have h5 : DataW.trod enc Tryd.prog w base spare held n 9 [c5] = some y5 := by simpa [Value.cells, int_cells, u64_cells, str_cells] using hg 5 _ rfl
  clear hg hl hlen hf
  obtain ⟨n0, e0, rfl, w0⟩ := DataW.trod_int Tryd.underlying3 h0
  obtain ⟨n1, e1, rfl, w1⟩ := DataW.trod_int Tryd.underlying3 h1
  obtain ⟨n2, e2, rfl, w2⟩ := DataW.trod_int Tryd.underlying22 h2
  obtain ⟨n3, e3, rfl, w3⟩ := DataW.trod_int Tryd.underlying22 h3
  obtain ⟨n4, e4, rfl, w4⟩ := DataW.trod_int Tryd.underlying22 h4
  obtain ⟨s5, e5, rfl, w5⟩ := DataW.trod_string Tryd.underlying9 h5
  simp only [List.cons.injEq, and_true] at e0 e1 e2 e3 e4 e5
  obtain ⟨k2, rfl, b2⟩ := u64_nat w2
  obtain ⟨k3, rfl, b3⟩ := u64_nat w3
  obtain ⟨k4, rfl, b4⟩ := u64_nat w4
  refine ⟨⟨n0, n1, k2, k3, k4, s5⟩, ?_, ?_, ⟨⟨w0, w1⟩, b2, b3, b4⟩, w5⟩
  · rw [e0, e1, e2, e3, e4, e5]; rfl
  · rw [hx]; rfl
theorem weightsAll_mem {P : Program} {e : TypeId} : ∀ {ds : List (DataW H)} {d : DataW H}, d ∈ ds → ∀ n ∈ d.weights P e, n ∈ DataW.weightsAll P e ds
  | [], _, h, _, _ => by cases h
  | x :: r, d, h, n, hn => by
    unfold DataW.weightsAll
    rcases List.mem_cons.1 h with rfl | h
    · exact List.mem_append_left _ hn
    · exact List.mem_append_right _ (weightsAll_mem h n hn)
/-- what a list of terms reads as -/
def dT (H : Type) (dd : DataW H) (L : List T) : Prop := (dd = .nil ∧ L = []) ∨ ∃ sp, dd = .slice (L.map (T.d H)) sp
def dTT (H : Type) (dd : DataW H) (LL : List (List T)) : Prop := (dd = .nil ∧ LL = []) ∨ ∃ (D : List (DataW H)) (sp : List (DataW H)), dd = .slice D sp ∧ D.length = LL.length ∧ ∀ L ∈ LL, ∃ d ∈ D, dT H d L
theorem terms_of {fuel : Nat} {cs : List Value} {x : DataW H × List MemPlace} (h : DataW.trod enc Tryd.prog w base spare held fuel 37 cs = some x) :
    ∃ (v : Value) (L : List T), cs = [v] ∧ ReadT w v L ∧ dT H x.1 L ∧ ∀ t ∈ L, t.wf := by
  rcases open_slice Tryd.underlying37 h with ⟨hcs, hx⟩ | ⟨a, len, cap, m, n, D, Pl, hcs, hb, hl, hm, hmm, hx, hi⟩
  · exact ⟨_, [], hcs, ⟨none, 0, rfl, fun i hi => absurd hi (by simp)⟩, .inl ⟨by rw [hx], rfl⟩, fun t ht => by cases ht⟩
  · have hlm : len ≤ m := by rw [hmm]; split <;> omega
    obtain ⟨f, hf⟩ := choose_lt (α := T) (n := len) (p := fun i t => w.cells? base (a.add (i * 6)) 6 = some (t6 t) ∧ D i = t.d H ∧ t.wf) (fun i hi' => by
      obtain ⟨cs', h1, h2⟩ := hi i (by omega)
      rw [term_cells] at h1
      obtain ⟨_, hl6, _⟩ := World.cells?_some h1
      obtain ⟨t, rfl, ht, hw, _⟩ := term_of_cells hl6 h2
      exact ⟨t, h1, ht, hw⟩)
    refine ⟨_, (List.range len).map f, hcs, ⟨some a, cap, by simp, fun i hi' => ?_⟩, .inr ⟨_, by rw [hx]; show DataW.slice _ _ = DataW.slice _ _; congr 1; rw [List.map_map]; exact List.map_congr_left fun i hi => (hf i (List.mem_range.1 hi)).2.1⟩, fun t ht => ?_⟩
    · have hi2 : i < len := by simpa using hi'
      obtain ⟨h1, _, _⟩ := hf i hi2
      obtain ⟨_, _, h3⟩ := World.cells?_some h1
      obtain ⟨h10, _, _⟩ := hf 0 (by omega)
      obtain ⟨_, _, h30⟩ := World.cells?_some h10
      have h30 := h30 0 (by omega)
      rw [add_add] at h30
      obtain ⟨b, o, he, hbl⟩ := spot_none (a := a) (v := .int .i64 (f 0).op) h30
      have ha : a = ⟨a.block, a.off, none⟩ := by rw [he]
      have hbl : a.block < w.heap.size := by rw [he]; exact hbl
      refine ⟨a.block, a.off, by rw [← ha], hbl, fun j u hu => ?_⟩
      have hj : j < 6 := (List.getElem?_eq_some_iff.1 hu).1
      have h4 := h3 j hj
      rw [add_add, ha, add_at] at h4
      rw [Nat.add_assoc, h4]
      have he2 : ((List.range len).map f)[i] = f i := by simp
      rw [he2] at hu
      exact hu
    · obtain ⟨i, hi', rfl⟩ := List.mem_map.1 ht
      exact (hf i (List.mem_range.1 hi')).2.2
theorem open_terms (hv : Value.okWide Tryd.prog w r b0 37 v) (h : DataW.Trod enc Tryd.prog w base spare held 37 v dd p) :
    ∃ L : List T, ReadT w v L ∧ dT H dd L ∧ ∀ t ∈ L, t.wf := by
  obtain ⟨a, len, cap, rfl⟩ := okWide_slice Tryd.underlying37 hv
  obtain ⟨fuel, hf⟩ := h
  obtain ⟨v', L, hcs, hr, hd, hw⟩ := terms_of hf
  have : v' = .slice a len cap := by simpa [Value.cells] using hcs.symm
  subst this
  exact ⟨L, hr, hd, hw⟩
theorem terms_weights {L : List T} {d : DataW H} (h : dT H d L) (hall : ∀ k ∈ d.weights Tryd.prog 37, k ≤ 140737488351232) : Big L := by
  rcases h with ⟨rfl, rfl⟩ | ⟨sp, rfl⟩
  · exact ⟨by simp, fun t ht => by cases ht⟩
  · have hw : DataW.weights Tryd.prog 37 (.slice (L.map (T.d H)) sp) = ((L.map (T.d H)).length + sp.length) * 56 :: (DataW.weightsAll Tryd.prog 35 (L.map (T.d H)) ++ DataW.weightsAll Tryd.prog 35 sp) := by
      rw [DataW.weights, Tryd.underlying37]
      simp only [terms_bytes]
    rw [hw] at hall
    refine ⟨?_, fun t ht => ?_⟩
    · have := hall _ List.mem_cons_self
      rw [List.length_map] at this
      omega
    · have hm : t.p.size ∈ (T.d H t).weights Tryd.prog 35 := by
        simp [T.d, DataW.weights, DataW.weightsEach, Tryd.underlying35]
      exact hall _ (List.mem_cons_of_mem _ (List.mem_append_left _ (weightsAll_mem (List.mem_map_of_mem ht) _ hm)))
theorem sized_all {P : Program} {ts : List TypeId} {ds : List (DataW H)} (h : (DataW.weightsEach P ts ds).all (· ≤ reachBytes) = true) {j : Nat} {t : TypeId} {d : DataW H} (ht : ts[j]? = some t) (hd : ds[j]? = some d) : ∀ k ∈ d.weights P t, k ≤ 140737488351232 := fun k hk => by
  have := List.all_eq_true.1 h _ (DataW.weights_mem_each ht hd k hk)
  exact of_decide_eq_true this
theorem sized_terms {ts : List TypeId} {ds : List (DataW H)} (h : (DataW.weightsEach Tryd.prog ts ds).all (· ≤ reachBytes) = true) {j : Nat} {L : List T} {d : DataW H} (hL : dT H d L) (ht : ts[j]? = some 37) (hd : ds[j]? = some d) : Big L :=
  terms_weights hL (sized_all h ht hd)
/-- lists of lists -/
theorem open_termss (hv : Value.okWide Tryd.prog w r b0 28 v) (h : DataW.Trod enc Tryd.prog w base spare held 28 v dd p) :
    ∃ LL : List (List T), ReadTT w v LL ∧ dTT H dd LL ∧ ∀ L ∈ LL, ∀ t ∈ L, t.wf := by
  obtain ⟨a0, len0, cap0, rfl⟩ := okWide_slice Tryd.underlying28 hv
  obtain ⟨fuel, hf⟩ := h
  rcases open_slice1 Tryd.underlying28 terms_one hf with ⟨hcs, hx⟩ | ⟨a, len, cap, m, n, V, D, Pl, hcs, hb, hl, hm, hmm, hx, hi⟩
  · have he : Value.slice a0 len0 cap0 = .slice none 0 0 := by simpa [Value.cells] using hcs
    rw [he]
    refine ⟨[], ⟨[], rfl, ⟨none, 0, rfl, fun i hi => absurd hi (by simp)⟩, fun r hr => by cases hr⟩, .inl ⟨?_, rfl⟩, fun L hL => by cases hL⟩
    simpa using congrArg Prod.fst hx
  · have he : Value.slice a0 len0 cap0 = .slice (some a) len cap := by simpa [Value.cells] using hcs
    rw [he]
    have hlm : len ≤ m := by rw [hmm]; split <;> omega
    obtain ⟨f, hf⟩ := choose_lt (α := List T) (n := len) (p := fun i L => w.cell? (a.add i) = some (V i) ∧ ReadT w (V i) L ∧ dT H (D i) L ∧ ∀ t ∈ L, t.wf) (fun i hi' => by
      obtain ⟨h1, h2⟩ := hi i (by omega)
      obtain ⟨v', L, hcs, hr, hd, hw⟩ := terms_of h2
      obtain rfl : V i = v' := by simpa using hcs
      exact ⟨L, h1, hr, hd, hw⟩)
    refine ⟨(List.range len).map f, ⟨(List.range len).map fun i => (V i, f i), by simp, ⟨some a, cap, by simp, fun i hi' => ?_⟩, fun r hr => ?_⟩, .inr ⟨(List.range len).map D, _, by simpa using congrArg Prod.fst hx, by simp, fun L hL => ?_⟩, fun L hL => ?_⟩
    · have hi2 : i < len := by simpa using hi'
      obtain ⟨h1, _⟩ := hf i hi2
      obtain ⟨h10, _⟩ := hf 0 (by omega)
      obtain ⟨b, o, he, hbl⟩ := spot_none (a := a) h10
      have ha : a = ⟨a.block, a.off, none⟩ := by rw [he]
      have hbl : a.block < w.heap.size := by rw [he]; exact hbl
      refine ⟨a.block, a.off, by rw [← ha], hbl, fun j u hu => ?_⟩
      have he2 : ((List.range len).map fun i => (V i, f i))[i] = (V i, f i) := by simp
      rw [he2] at hu
      cases j with
      | zero =>
        simp only [List.getElem?_cons_zero, Option.some.injEq] at hu
        subst hu
        rw [ha, add_at] at h1
        simpa using h1
      | succ j => simp at hu
    · obtain ⟨i, hi', rfl⟩ := List.mem_map.1 hr
      exact (hf i (List.mem_range.1 hi')).2.1
    · obtain ⟨i, hi', rfl⟩ := List.mem_map.1 hL
      exact ⟨D i, List.mem_map_of_mem hi', (hf i (List.mem_range.1 hi')).2.2.1⟩
    · obtain ⟨i, hi', rfl⟩ := List.mem_map.1 hL
      exact (hf i (List.mem_range.1 hi')).2.2.2
theorem sized_termss {ts : List TypeId} {ds : List (DataW H)} (h : (DataW.weightsEach Tryd.prog ts ds).all (· ≤ reachBytes) = true) {j : Nat} {LL : List (List T)} {d : DataW H} (hL : dTT H d LL) (ht : ts[j]? = some 28) (hd : ds[j]? = some d) : BigL LL := by
  have hall := sized_all h ht hd
  rcases hL with ⟨rfl, rfl⟩ | ⟨D, sp, rfl, hlen, hD⟩
  · exact ⟨by simp, fun t ht => by cases ht⟩
  · have hw : DataW.weights Tryd.prog 28 (.slice D sp) = (D.length + sp.length) * 24 :: (DataW.weightsAll Tryd.prog 37 D ++ DataW.weightsAll Tryd.prog 37 sp) := by
      rw [DataW.weights, Tryd.underlying28]
      simp only [termss_bytes]
    rw [hw] at hall
    refine ⟨?_, fun L hL => ?_⟩
    · have := hall _ List.mem_cons_self
      omega
    · obtain ⟨d, hd, hdt⟩ := hD L hL
      exact terms_weights hdt (fun k hk => hall _ (List.mem_cons_of_mem _ (List.mem_append_left _ (weightsAll_mem hd k hk))))
end
end Go.Proofs.YtnkdpgcfaelpkaaDoor
