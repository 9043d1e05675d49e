/-
  What a row's list of sentinels ('laid') gives: each variable holds a pointer to an errors.errorString of its own.
-/
import Derived.Test.YtjipjhpehfbpkaaDoorChecked
import Derived.Stop.LaidErr
import Derived.MakeChecks
import Derived.Below
import Derived.WalkKit
namespace Go.Proofs.YtjipjhpehfbpkaaDoor
open Go.RowKit Go.ChangeShapes

namespace Sent
def mk (x : String × List UInt8) : String × DataW Unit := (x.1, .iface "*errors.errorString" (.ptr (.agg [.lit (.string x.2)])))

/-- variable number g holds a pointer a to an error of type tp -/
def At (tp : TypeId) (W : World) (g : Nat) (a : Addr) : Prop :=
  W.cell? ⟨g, 0, none⟩ = some (.iface tp (.pointer (some a))) ∧ ∃ c t, W.heap[a.block]? = some (.cells c t (0, 0))

section
variable {P : Program} {W : World} {ti tp te ts : TypeId} {ms : Array (String × TypeId)} {f : Field}
  (hi : P.underlying ti = some (.interface ms)) (hrow : ∀ u, P.typeName? 3 u = some "*errors.errorString" → u = tp)
  (hp : P.underlying tp = some (.pointer te)) (he : P.underlying te = some (.struct #[f])) (hft : f.type = ts) (hfo : f.offset = 0) (hs : P.underlying ts = some .string) (hc : P.cellsOf te = 1) (hcs : P.cellsOf ts = 1)
include hi hrow hp he hft hfo hs hc hcs

theorem sents : ∀ (l : List (String × List UInt8)) (ps : List MemPlace), DataW.LaidVars P W (l.map mk) ps → ps.Nodup →
    (∀ b off, MemPlace.cell b off ∈ ps → (∃ c t, W.heap[b]? = some (.cells c t (0, 0))) ∧ ∀ u v, W.cell? ⟨b, off, none⟩ = some (.iface u v) → Value.okWide P W .any 0 u v) →
    (∀ x ∈ l, ∀ g, P.globalNamed x.1 = some g → (P.globals[g]?).map (·.type) = some ti) →
    ∃ ads : List Addr, ads.length = l.length ∧ ads.Nodup ∧ (∀ a ∈ ads, MemPlace.cell a.block a.off ∈ ps) ∧
      ∀ (i : Nat) (x : String × List UInt8) (a : Addr) (g : Nat), l[i]? = some x → ads[i]? = some a → P.globalNamed x.1 = some g → At tp W g a
  | [], _, _, _, _, _ => ⟨[], rfl, List.nodup_nil, (fun _ h => by cases h), (fun i x a g h => by cases i <;> simp at h)⟩
  | x :: l, ps, h, hnd, hrows, hty => by
    obtain ⟨g0, t0, cs0, f0, p0, q0, hg0, ht0, hv0, hd0, hr, rfl⟩ := h
    have ht := hty x List.mem_cons_self g0 hg0
    obtain rfl := Option.some.inj (ht.symm.trans ht0)
    obtain ⟨l0⟩ := cs0
    have ok0 : ∀ u v, l0 = [.iface u v] → Value.okWide P W .any 0 u v := fun u v e => by
      subst e
      exact (hrows g0 0 (by simp [MemPlace.row])).2 u v (by simpa using World.var?_cell hg0 hv0 0)
    obtain ⟨a0, s0, rfl, _, _, _, rfl⟩ := errorString_of_trod hi hrow hp he hft hfo hs hc hcs hd0 ok0
    have hm0 : MemPlace.cell a0.block a0.off ∈ MemPlace.row a0 1 := by simp [MemPlace.row]
    obtain ⟨ads, h1, h2, h3, h4⟩ := sents l q0 hr (List.Nodup.sublist (List.sublist_append_right _ _) hnd) (fun b off hm => hrows b off (List.mem_append_right _ hm)) (fun y hy => hty y (List.mem_cons_of_mem _ hy))
    refine ⟨a0 :: ads, by simp [h1], ?_, ?_, ?_⟩
    · refine List.nodup_cons.2 ⟨fun hin => ?_, h2⟩
      exact (List.nodup_append.1 hnd).2.2 _ (List.mem_append_right _ hm0) _ (h3 a0 hin) rfl
    · intro a ha
      rcases List.mem_cons.1 ha with rfl | ha
      · exact List.mem_append_left _ (List.mem_append_right _ hm0)
      · exact List.mem_append_right _ (h3 a ha)
    · intro i y a g hi ha hg
      cases i with
      | zero =>
        simp only [List.getElem?_cons_zero, Option.some.injEq] at hi ha
        subst hi ha
        obtain rfl := Option.some.inj (hg0.symm.trans hg)
        refine ⟨by simpa using World.var?_cell hg0 hv0 0, (hrows a0.block a0.off ?_).1⟩
        exact List.mem_append_left _ (List.mem_append_right _ hm0)
      | succ i =>
        simp only [List.getElem?_cons_succ] at hi ha
        exact h4 i y a g hi ha hg

theorem of_laidP (l : List (String × List UInt8)) (h : laidMet P (l.map mk) W)
    (hty : (l.all fun x => match P.globalNamed x.1 with | some g => (P.globals[g]?).map (·.type) == some ti | none => false) = true) :
    ∃ ads : List Addr, ads.length = l.length ∧ ads.Nodup ∧
      ∀ (i : Nat) (x : String × List UInt8) (a : Addr) (g : Nat), l[i]? = some x → ads[i]? = some a → P.globalNamed x.1 = some g → At tp W g a := by
  obtain ⟨ps, hv, hnd, hrows⟩ := h
  obtain ⟨ads, h1, h2, _, h4⟩ := sents hi hrow hp he hft hfo hs hc hcs l ps hv hnd hrows (fun x hx g hg => by
    have := List.all_eq_true.1 hty x hx
    rw [hg] at this
    simpa using this)
  exact ⟨ads, h1, h2, h4⟩
end

theorem star : "*" ++ "errors.errorString" = "*errors.errorString" := by decide
theorem rowE (u : TypeId) (h : Tryd.prog.typeName? 3 u = some "*errors.errorString") : u = 94 :=
  typeName_ptr_named (nm := "errors.errorString") (by rw [star]; kernel_rfl) (by kernel_rfl) (by decide) u (by rw [star]; exact h)
theorem cellsE : Tryd.prog.cellsOf 96 = 1 := by kernel_rfl
theorem cellsS : Tryd.prog.cellsOf 9 = 1 := by kernel_rfl

/-- a row's entry read as a sentinel -/
def nm : String × DataW Unit → String × List UInt8
  | (n, .iface _ (.ptr (.agg [.lit (.string t)]))) => (n, t)
  | (n, _) => (n, [])

/-- the sentinels of the variables 'gs': each leads to a block of its own -/
structure Errs (gs : List Nat) (w : World) (sa : Nat → Addr) : Prop where
  var : ∀ j, j < gs.length → w.cell? ⟨gs.getD j 0, 0, none⟩ = some (.iface 94 (.pointer (some (sa j))))
  blk : ∀ j, j < gs.length → ∃ c t, w.heap[(sa j).block]? = some (.cells c t (0, 0))
  inj : ∀ i j, i < gs.length → j < gs.length → sa i = sa j → i = j

theorem cell_lt {w : World} {a : Addr} {v : Value} (h : w.cell? a = some v) : a.block < w.heap.size := by
  rcases Nat.lt_or_ge a.block w.heap.size with h' | h'
  · exact h'
  · simp [World.cell?, Array.getElem?_eq_none h'] at h

theorem Errs.below {gs : List Nat} {w w' : World} {sa : Nat → Addr} (h : Errs gs w sa) (b : Below w.heap.size w w') : Errs gs w' sa := by
  refine ⟨fun j hj => ?_, fun j hj => ?_, h.inj⟩
  · have h1 := h.var j hj
    rw [b.cell (p := ⟨gs.getD j 0, 0, none⟩) (cell_lt h1)]; exact h1
  · obtain ⟨c, t, h1⟩ := h.blk j hj
    have hlt : (sa j).block < w.heap.size := by
      rcases Nat.lt_or_ge (sa j).block w.heap.size with h' | h'
      · exact h'
      · simp [Array.getElem?_eq_none h'] at h1
    exact ⟨c, t, by rw [b.block _ hlt]; exact h1⟩

/-- out of the row's list -/
theorem errs_of_laid {W : World} (gs : List Nat) (laid : List (String × DataW Unit)) (h : laidMet Tryd.prog laid W) (hl : (laid.map nm).map mk = laid)
    (hty : ((laid.map nm).all fun x => match Tryd.prog.globalNamed x.1 with | some g => (Tryd.prog.globals[g]?).map (·.type) == some 46 | none => false) = true)
    (hg : (gs.all fun g => (laid.map nm).any fun x => Tryd.prog.globalNamed x.1 == some g) = true) (hgn : gs.Nodup) : ∃ sa, Errs gs W sa := by
  rw [← hl] at h
  obtain ⟨ads, h1, h2, h4⟩ := of_laidP Tryd.underlying46 rowE Tryd.underlying94 Tryd.underlying96 rfl rfl Tryd.underlying9 cellsE cellsS (laid.map nm) h hty
  have hex : ∀ j : Nat, ∃ a : Addr, j < gs.length → ∃ (i : Nat) (x : String × List UInt8), (laid.map nm)[i]? = some x ∧ ads[i]? = some a ∧ Tryd.prog.globalNamed x.1 = some (gs.getD j 0) := by
    intro j
    by_cases hj : j < gs.length
    · have hm : gs.getD j 0 ∈ gs := by
        rw [List.getD_eq_getElem?_getD, List.getElem?_eq_getElem hj]
        exact List.getElem_mem hj
      have := List.all_eq_true.1 hg _ hm
      obtain ⟨x, hx, hxg⟩ := List.any_eq_true.1 this
      obtain ⟨i, hi⟩ := List.getElem?_of_mem hx
      have hil : i < ads.length := by
        rw [h1]
        exact (List.getElem?_eq_some_iff.1 hi).1
      exact ⟨ads[i], fun _ => ⟨i, x, hi, List.getElem?_eq_getElem hil, by simpa using hxg⟩⟩
    · exact ⟨⟨0, 0, none⟩, fun h => absurd h hj⟩
  have hc := fun j => Classical.choose_spec (hex j)
  refine ⟨fun j => Classical.choose (hex j), ⟨fun j hj => ?_, fun j hj => ?_, fun i j hi hj e => ?_⟩⟩
  · obtain ⟨i, x, a1, a2, a3⟩ := hc j hj
    exact (h4 i x _ _ a1 a2 a3).1
  · obtain ⟨i, x, a1, a2, a3⟩ := hc j hj
    exact (h4 i x _ _ a1 a2 a3).2
  · obtain ⟨k, x, a1, a2, a3⟩ := hc i hi
    obtain ⟨m, y, b1, b2, b3⟩ := hc j hj
    rw [e] at a2
    have hk : k = m := by
      have hkl := (List.getElem?_eq_some_iff.1 a2).1
      exact (List.getElem?_inj hkl h2).1 (a2.trans b2.symm)
    subst hk
    obtain rfl := Option.some.inj (a1.symm.trans b1)
    have := Option.some.inj (a3.symm.trans b3)
    rw [List.getD_eq_getElem?_getD, List.getD_eq_getElem?_getD, List.getElem?_eq_getElem hi, List.getElem?_eq_getElem hj] at this
    exact (List.getElem?_inj hi hgn).1 (by rw [List.getElem?_eq_getElem hi, List.getElem?_eq_getElem hj]; exact congrArg some this)
end Sent
end Go.Proofs.YtjipjhpehfbpkaaDoor
