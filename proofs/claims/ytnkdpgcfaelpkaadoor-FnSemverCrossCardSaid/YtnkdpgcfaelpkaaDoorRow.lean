/-
  Slices of any element type: rows of the call's own, how they read, and append of one element.
-/
import Derived.Test.YtnkdpgcfaelpkaaDoorBaseA
import Derived.Laws.OwnMore
namespace Go.Proofs.YtnkdpgcfaelpkaaDoor
open Go.RowKit
set_option maxRecDepth 100000
set_option linter.unusedVariables false

section
variable {α β : Type} {w w' : World} {base e s : Nat} {f : α → List Value} {v : Value} {ls : List α}
/-- slice v is a row of the call's own that holds ls, each element spelled by f -/
def OwnG (w : World) (base e s : Nat) (f : α → List Value) (v : Value) (ls : List α) : Prop := w.ownsRow base e s v ls.length (ls.flatMap f)
/-- slice v reads as ls, each element spelled by f in s cells -/
def ReadG (w : World) (s : Nat) (f : α → List Value) (v : Value) (ls : List α) : Prop :=
  ∃ A cap, v = .slice A ls.length cap ∧ ∀ i (_ : i < ls.length), ∃ b o, A = some ⟨b, o, none⟩ ∧ b < w.heap.size ∧ ∀ j u, (f ls[i])[j]? = some u → w.cell? ⟨b, o + i * s + j, none⟩ = some u
theorem OwnG.nil (w : World) (base e s : Nat) (f : α → List Value) : OwnG w base e s f (.slice none 0 0) [] := World.ownsRow_nil w base e s
theorem OwnG.kept (h : OwnG w base e s f v ls) (b : Below w.heap.size w w') : OwnG w' base e s f v ls :=
  World.ownsRow.kept h (Below.grown b) (by cases hv : v.ownBlock <;> simp)
theorem OwnG.grown {row : Option Nat} (h : OwnG w base e s f v ls) (hg : w.grownBy w' row) (hne : v.ownBlock = none ∨ v.ownBlock ≠ row) : OwnG w' base e s f v ls := World.ownsRow.kept h hg hne
theorem OwnG.lower {base' : Nat} (h : OwnG w base e s f v ls) (hb : base' ≤ base) : OwnG w base' e s f v ls := by
  obtain ⟨h1, h2 | ⟨g, cap, cur, h3, hg, h4⟩⟩ := h
  · exact ⟨h1, .inl h2⟩
  · exact ⟨h1, .inr ⟨g, cap, cur, h3, Nat.le_trans hb hg, h4⟩⟩
theorem flatMap_get {f : α → List Value} (hf : ∀ x, (f x).length = s) : ∀ (ls : List α) (i j : Nat) (hi : i < ls.length), j < s → (ls.flatMap f)[i * s + j]? = (f ls[i])[j]?
  | [], i, j, hi, _ => absurd hi (by simp)
  | x :: r, 0, j, _, hj => by
    rw [List.flatMap_cons, Nat.zero_mul, Nat.zero_add, List.getElem?_append_left (by rw [hf]; exact hj)]
    rfl
  | x :: r, i + 1, j, hi, hj => by
    rw [List.flatMap_cons, List.getElem?_append_right (by rw [hf, Nat.succ_mul]; omega), hf]
    rw [show (i + 1) * s + j - s = i * s + j by rw [Nat.succ_mul]; omega, flatMap_get hf r i j (by simpa using hi) hj]
    rfl
theorem flatMap_len {f : α → List Value} (hf : ∀ x, (f x).length = s) (ls : List α) : (ls.flatMap f).length = ls.length * s := by
  induction ls with
  | nil => simp
  | cons x r ih => rw [List.flatMap_cons, List.length_append, ih, hf, List.length_cons, Nat.succ_mul]; omega
theorem OwnG.read (hf : ∀ x, (f x).length = s) (h : OwnG w base e s f v ls) : ReadG w s f v ls := by
  have h0 := h
  obtain ⟨h1, h2 | ⟨g, cap, cur, rfl, hg, hb, hn, hc, hs, ht⟩⟩ := h
  · obtain ⟨rfl, hn⟩ := h2
    obtain rfl : ls = [] := List.length_eq_zero_iff.1 hn
    exact ⟨none, 0, rfl, fun i hi => absurd hi (by simp)⟩
  · refine ⟨some ⟨g, 0, none⟩, cap, rfl, fun i hi => ⟨g, 0, rfl, ?_, fun j u hu => ?_⟩⟩
    · exact (Array.getElem?_eq_some_iff.1 hb).1
    · have hj : j < s := by rw [← hf ls[i]]; exact (List.getElem?_eq_some_iff.1 hu).1
      have hlt : i * s + j < ls.length * s := by
        have := Nat.mul_le_mul_right s (show i + 1 ≤ ls.length from hi)
        rw [Nat.succ_mul] at this
        omega
      have := World.ownsRow.cellAt (w := w) (base := base) (e := e) (size := s) (g := g) (n := ls.length) (cap := cap) (xs := ls.flatMap f) h0 (i * s + j) hlt
      rw [Nat.zero_add, this, flatMap_get hf ls i j hi hj]
      exact hu
theorem ReadG.kept (h : ReadG w s f v ls) (b : Below w.heap.size w w') : ReadG w' s f v ls := by
  obtain ⟨A, cap, rfl, hc⟩ := h
  refine ⟨A, cap, rfl, fun i hi => ?_⟩
  obtain ⟨g, o, h1, h2, h3⟩ := hc i hi
  exact ⟨g, o, h1, Nat.lt_of_lt_of_le h2 b.size, fun j u hu => by rw [b.cell (p := ⟨g, o + i * s + j, none⟩) h2]; exact h3 j u hu⟩
theorem ReadG.nil (w : World) (s : Nat) (f : α → List Value) : ReadG w s f (.slice none 0 0) [] := ⟨none, 0, rfl, fun i hi => absurd hi (by simp)⟩
theorem OwnG.slice (h : OwnG w base e s f v ls) : ∃ A c, v = .slice A ls.length c := by
  obtain ⟨_, h2 | ⟨b, cap, cur, h2, _⟩⟩ := h
  · exact ⟨none, 0, by rw [h2.1, h2.2]⟩
  · exact ⟨_, _, h2⟩
theorem OwnG.one (h : OwnG w base e s f v ls) : v.oneCell' = true := by
  obtain ⟨_, h2 | ⟨b, cap, cur, rfl, _⟩⟩ := h
  · rw [h2.1]; rfl
  · rfl
/-- rows of other element types never share a block -/
theorem OwnG.ne {g : β → List Value} {base' e' s' : Nat} {v' : Value} {ls' : List β} (h : OwnG w base e s f v ls) (h' : OwnG w base' e' s' g v' ls') (hne : e ≠ e') : v.ownBlock = none ∨ v.ownBlock ≠ v'.ownBlock := by
  obtain ⟨_, h2 | ⟨b, cap, cur, rfl, hg, hb, _⟩⟩ := h
  · left; rw [h2.1]; rfl
  · right
    obtain ⟨_, h2' | ⟨b', cap', cur', rfl, hg', hb', _⟩⟩ := h'
    · rw [h2'.1]; simp [Value.ownBlock]
    · intro he
      have : b = b' := by simpa [Value.ownBlock] using he
      subst this
      rw [hb] at hb'
      injection hb' with hb'
      injection hb' with _ ht
      exact hne ht
theorem OwnG.ne_blk {g : Nat} {cs : Array Value} {e' : Nat} (h : OwnG w base e s f v ls) (h' : w.heap[g]? = some (.cells cs e' (0, 0))) (hne : e ≠ e') : some g ≠ v.ownBlock := by
  obtain ⟨_, h2 | ⟨b, cap, cur, rfl, hg, hb, _⟩⟩ := h
  · rw [h2.1]; simp [Value.ownBlock]
  · intro he
    have : g = b := by simpa [Value.ownBlock] using he
    subst this
    rw [hb] at h'
    injection h' with h'
    injection h' with _ ht
    exact hne ht
theorem OwnG.below (hown : OwnG w base e s f v ls) (hb : base ≤ w.heap.size) (hg : w.grownBy w' v.ownBlock) : Below base w w' := below_of_grown hown hb hg
theorem maxLen_le {n : Nat} (h : n ≤ 1099511627776) : n ≤ maxLen := Nat.le_trans h (by unfold maxLen; decide)
/-- 'append(v, y)' -/
theorem append_gen {w : World} {ops : Array Oper} {rest : List Oper} {o : Oper} {a : Act} {Q : Exit → Act → World → Prop} (hgd : o.guard = none) (p x : Operand) (t e : TypeId) (z : Value) (s bytes : Nat)
    (ho : o.op = .call { callee := .builtin .append, args := #[p, x], argTypes := #[t, t] }) (ht : Tryd.prog.underlying t = some (.slice e))
    (hi : (Tryd.prog.info? e).map (fun i => (i.zero, i.size, i.bytes)) = some (some z, s, bytes)) (hzs : z.cells.size = s) (hs0 : 0 < s)
    (base : Nat) (f : α → List Value) (v : Value) (ls : List α) (hs : a.eval p = v) (hown : OwnG w base e s f v ls)
    (g c : Nat) (y : α) (hx : a.eval x = .slice (some ⟨g, 0, none⟩) 1 c) (hfl : (f y).length = s) (h1 : ∀ u ∈ f y, u.oneCell' = true) (hcell : ∀ j u, (f y)[j]? = some u → w.cell? ⟨g, j, none⟩ = some u)
    (hlen : ls.length < 1099511627776) (hby : (ls.length + 1) * bytes ≤ 140737488355328) (hbase : base ≤ w.heap.size)
    (h : ∀ v' w', OwnG w' base e s f v' (ls ++ [y]) → w.grownBy w' v.ownBlock → wpList Tryd.prog ops Q rest (a.put o.dst v') w') : wpList Tryd.prog ops Q (o :: rest) a w := by
  obtain ⟨i0, hi0, hz0, hz1, hz2⟩ := info_parts hi
  refine wpList_append_own w hgd p x t ho base e i0 z s bytes ht hi0 hz0 hz1 hz2 hzs hs0 v ls.length (ls.flatMap f) hs hown
    ⟨g, 0, none⟩ 1 c (f y) hx (by rw [hfl, Nat.one_mul]) ?_ h1 ?_ hby hbase ?_
  · intro j u hj
    have := hcell j u hj
    rw [← this]
    congr 1
    unfold Addr.add
    split
    · rename_i h; rw [h]
    · simp
  · exact maxLen_le (by omega)
  · intro v' w' h2 h3 _
    refine h v' w' ?_ h3
    unfold OwnG
    rw [List.length_append, List.flatMap_append]
    simpa using h2
end
end Go.Proofs.YtnkdpgcfaelpkaaDoor
