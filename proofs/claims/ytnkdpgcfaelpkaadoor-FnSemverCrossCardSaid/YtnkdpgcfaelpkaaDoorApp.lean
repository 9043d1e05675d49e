/-
  append of a whole row; a list of one list, as a slice literal; laws.scList.
-/
import Derived.Test.YtnkdpgcfaelpkaaDoorScGood
namespace Go.Proofs.YtnkdpgcfaelpkaaDoor
open Go.RowKit
set_option maxRecDepth 100000
set_option linter.unusedVariables false

section
variable {α : Type}
/-- 'append(v, ys...)', ys not empty -/
theorem append_rows {w : World} {ops : Array Oper} {rest : List Oper} {o : Oper} {a : Act} {Q : Exit → Act → World → Prop} (hgd : o.guard = none) (p x : Operand) (t e : TypeId) (z : Value) (s bytes : Nat)
    (ho : o.op = .call { callee := .builtin .append, args := #[p, x], argTypes := #[t, t] }) (ht : Tryd.prog.underlying t = some (.slice e))
    (hi : (Tryd.prog.info? e).map (fun i => (i.zero, i.size, i.bytes)) = some (some z, s, bytes)) (hzs : z.cells.size = s) (hs0 : 0 < s)
    (base : Nat) (f : α → List Value) (v : Value) (ls : List α) (hs : a.eval p = v) (hown : OwnG w base e s f v ls)
    (ad : Addr) (c : Nat) (ys : List α) (hx : a.eval x = .slice (some ad) ys.length c) (hfl : ∀ y, (f y).length = s) (h1 : ∀ y, ∀ u ∈ f y, u.oneCell' = true)
    (hcell : ∀ i (_ : i < ys.length) j u, (f ys[i])[j]? = some u → w.cell? (ad.add (i * s + j)) = some u)
    (hlen : ls.length + ys.length < 1099511627776) (hby : (ls.length + ys.length) * bytes ≤ 140737488355328) (hbase : base ≤ w.heap.size)
    (h : ∀ v' w', OwnG w' base e s f v' (ls ++ ys) → w.grownBy w' v.ownBlock → wpList Tryd.prog ops Q rest (a.put o.dst v') w') : wpList Tryd.prog ops Q (o :: rest) a w := by
  obtain ⟨i0, hi0, hz0, hz1, hz2⟩ := info_parts hi
  refine wpList_append_own w hgd p x t ho base e i0 z s bytes ht hi0 hz0 hz1 hz2 hzs hs0 v ls.length (ls.flatMap f) hs hown
    ad ys.length c (ys.flatMap f) hx (flatMap_len hfl ys) ?_ ?_ ?_ hby hbase ?_
  · intro j u hj
    have hlt : j < ys.length * s := by rw [← flatMap_len hfl ys]; exact (List.getElem?_eq_some_iff.1 hj).1
    have hq : j / s < ys.length := Nat.div_lt_of_lt_mul (by rw [Nat.mul_comm]; exact hlt)
    have hr : j % s < s := Nat.mod_lt _ hs0
    have hjj : j / s * s + j % s = j := by rw [Nat.mul_comm]; exact Nat.div_add_mod j s
    have hg := flatMap_get hfl ys (j / s) (j % s) hq hr
    rw [hjj, hj] at hg
    have := hcell (j / s) hq (j % s) u hg.symm
    rw [hjj] at this
    exact this
  · intro u hu
    obtain ⟨y, _, hy⟩ := List.mem_flatMap.1 hu
    exact h1 y u hy
  · exact maxLen_le (by omega)
  · intro v' w' h2 h3 _
    refine h v' w' ?_ h3
    unfold OwnG
    rw [List.length_append, List.flatMap_append]
    exact h2
end
theorem add_at (g o k : Nat) : (⟨g, o, none⟩ : Addr).add k = ⟨g, o + k, none⟩ := by
  unfold Addr.add
  split
  · rename_i h; rw [h]; rfl
  · rfl
theorem ReadT.cellsAt {w : World} {A : Option Addr} {n cap : Nat} {L : List T} (h : ReadT w (.slice A n cap) L) (hne : L ≠ []) : n = L.length ∧ ∃ g o, A = some ⟨g, o, none⟩ ∧ g < w.heap.size ∧ ∀ i (_ : i < L.length) j u, (t6 L[i])[j]? = some u → w.cell? ((⟨g, o, none⟩ : Addr).add (i * 6 + j)) = some u := by
  obtain ⟨A', cap', he, hc⟩ := h
  injection he with h1 h2 h3
  subst h1 h2 h3
  obtain ⟨g, o, rfl, hg, _⟩ := hc 0 (List.length_pos_iff.2 hne)
  refine ⟨rfl, g, o, rfl, hg, fun i hi j u hu => ?_⟩
  obtain ⟨g', o', he, _, hcc⟩ := hc i hi
  injection he with he
  injection he with e1 e2
  subst e1 e2
  rw [add_at, ← Nat.add_assoc]
  exact hcc j u hu
/-- lists of one list: '[][]T{l}' -/
theorem ReadTT.one {w : World} {g : Nat} {rv : Value} {L : List T} {c : Nat} (hg : g < w.heap.size) (hc : w.cell? ⟨g, 0, none⟩ = some rv) (hr : ReadT w rv L) : ReadTT w (.slice (some ⟨g, 0, none⟩) 1 c) [L] := by
  refine ⟨[(rv, L)], rfl, ⟨some ⟨g, 0, none⟩, c, rfl, fun i hi => ⟨g, 0, rfl, hg, fun j u hu => ?_⟩⟩, fun r hr' => ?_⟩
  · obtain rfl : i = 0 := by simp at hi; omega
    cases j with
    | zero => simp at hu; subst hu; simpa using hc
    | succ j => simp at hu
  · obtain rfl := List.mem_singleton.1 hr'
    exact hr
theorem fitsLL_one (L : List T) : fitsLL [L] = fitsL L := by unfold fitsLL; simp
/-- what a list says where every version is let in -/
theorem rowHolds_in {x : V} {pre : Bool} (h : pre = true ∨ M.bs x.p = []) (L : List T) : rowHolds x pre L = L.all fun t => t.hold x := by
  unfold rowHolds
  have hi : x.inl (pre || preOf L) = true := by
    unfold V.inl
    rcases h with rfl | h
    · simp
    · rw [h]; simp
  rw [hi]
  simp
theorem termsHold_one (x : V) (pre : Bool) (L : List T) : termsHold x pre [L] = rowHolds x pre L := by unfold termsHold; simp
theorem both_all {x : V} {pre : Bool} (h : pre = true ∨ M.bs x.p = []) (L K : List T) : termsHold x pre [L ++ K] = (termsHold x pre [L] && termsHold x pre [K]) := by
  rw [termsHold_one, termsHold_one, termsHold_one, rowHolds_in h, rowHolds_in h, rowHolds_in h, List.all_append]
theorem cmp_own (x y : V) (ha : x.a = y.a) (hb : x.b = y.b) (hc : x.c = y.c) (hp : x.p = y.p) : x.cmp y = 0 := by
  rw [V.cmp_key]
  have : x.key = y.key := by unfold V.key; rw [ha, hb, hc, hp]
  rw [this]
  exact key_cmp.refl _
theorem own_both {x : V} {pre : Bool} (h : pre = true ∨ M.bs x.p = []) : termsHold x pre [[⟨5, 3, x.a, x.b, x.c, x.p⟩, ⟨4, 3, x.a, x.b, x.c, x.p⟩]] = true := by
  rw [termsHold_one, rowHolds_in h]
  have h0 : x.cmp (T.ver ⟨5, 3, x.a, x.b, x.c, x.p⟩) = 0 := cmp_own _ _ rfl rfl rfl rfl
  have h1 : x.cmp (T.ver ⟨4, 3, x.a, x.b, x.c, x.p⟩) = 0 := cmp_own _ _ rfl rfl rfl rfl
  simp [T.hold, T.most, T.dirty, h0, h1]
theorem row_total {LL : List (List T)} {L : List T} (h : L ∈ LL) : L.length ≤ total LL := by
  unfold total
  induction LL with
  | nil => cases h
  | cons K r ih =>
    rw [List.flatten_cons, List.length_append]
    rcases List.mem_cons.1 h with rfl | h
    · omega
    · have := ih h; omega
theorem rows_total : ∀ (LL : List (List T)), LL.all rowG = true → LL.length ≤ total LL
  | [], _ => by unfold total; simp
  | K :: r, h => by
    rw [List.all_cons, Bool.and_eq_true] at h
    have ih := rows_total r h.2
    have h1 := h.1
    unfold rowG at h1
    unfold total at *
    rw [List.flatten_cons, List.length_append, List.length_cons]
    cases K with
    | nil => cases h1
    | cons _ _ => rw [List.length_cons]; omega
theorem gtB_good {LL : List (List T)} {most : Nat} (h : gtB LL most = true) (hm : most ≤ 1000) (hf : fitsLL LL = true) : LGood LL ∧ (∀ L ∈ LL, L ≠ [] ∧ L.length ≤ most) ∧ LL ≠ [] ∧ LL.length ≤ most := by
  unfold gtB at h
  rw [Bool.and_eq_true, Bool.and_eq_true, decide_eq_true_eq] at h
  obtain ⟨⟨h0, h1⟩, h2⟩ := h
  have hlen := rows_total LL h1
  unfold fitsLL at hf
  rw [Bool.and_eq_true] at hf
  have hf2 := List.all_eq_true.1 hf.2
  have hg := List.all_eq_true.1 h1
  refine ⟨⟨by omega, fun L hL => ⟨by have := row_total hL; omega, fun t ht => ⟨?_, ?_⟩⟩⟩, fun L hL => ⟨?_, by have := row_total hL; omega⟩, ?_, by omega⟩
  · have := hg L hL
    unfold rowG at this
    rw [Bool.and_eq_true] at this
    exact (T.goodB_iff t).1 (List.all_eq_true.1 this.2 t ht)
  · have := hf2 L hL
    unfold fitsL at this
    rw [Bool.and_eq_true] at this
    exact of_decide_eq_true (List.all_eq_true.1 this.2 t ht)
  · intro e
    have := hg L hL
    unfold rowG at this
    rw [e] at this
    cases this
  · intro e
    rw [e] at h0
    cases h0
theorem scB_gt {LL : List (List T)} (h : scB LL = true) : gtB LL 24 = true := by
  unfold scB at h
  rw [Bool.and_eq_true] at h
  exact h.1
end Go.Proofs.YtnkdpgcfaelpkaaDoor
