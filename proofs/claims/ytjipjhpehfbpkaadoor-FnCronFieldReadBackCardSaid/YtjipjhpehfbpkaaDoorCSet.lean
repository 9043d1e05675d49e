/-
  A spec.CronSet in memory: a star and 63 values, 64 cells.
-/
import Derived.Test.YtjipjhpehfbpkaaDoorCKit
import Derived.Deep.MidRow
namespace Go.Proofs.YtjipjhpehfbpkaaDoor
open Go.RowKit
set_option maxRecDepth 100000
set_option linter.unusedVariables false

/-- the cells of a set: the star, then the values 0 to 62 -/
def setL (f : Nat → Bool) : List Value := (List.range 64).map fun i => .bool (f i)
def setV (f : Nat → Bool) : Value := .agg (setL f).toArray
theorem setL_len (f : Nat → Bool) : (setL f).length = 64 := by unfold setL; simp
theorem setA_size (f : Nat → Bool) : (setL f).toArray.size = 64 := by simp [setL]
theorem setL_get (f : Nat → Bool) (i : Nat) (h : i < 64) : (setL f)[i]? = some (.bool (f i)) := by
  unfold setL
  simp [h]
theorem setL_congr {f g : Nat → Bool} (h : ∀ i, i < 64 → f i = g i) : setL f = setL g := by
  unfold setL
  apply List.map_congr_left
  intro i hi
  rw [h i (by simpa using hi)]
theorem setA_one (f : Nat → Bool) : (setL f).toArray.all (·.oneCell') = true := all_oneCell_toArray (fun v hv => by
  unfold setL at hv
  obtain ⟨i, _, rfl⟩ := List.mem_map.1 hv
  rfl)
/-- block N holds a set -/
structure SetAt (w : World) (N : Nat) (f : Nat → Bool) : Prop where
  lt : N < w.heap.size
  has : w.rangeAt N 0 (setL f)
  loose : ∀ j, w.frozen? ⟨N, j, none⟩ = false
theorem SetAt.cell {w : World} {N : Nat} {f : Nat → Bool} (h : SetAt w N f) (j : Nat) (hj : j < 64) : w.cell? ⟨N, j, none⟩ = some (.bool (f j)) := by
  have := h.has j _ (setL_get f j hj)
  rw [Nat.zero_add] at this
  exact this
theorem SetAt.there {w : World} {N : Nat} {f : Nat → Bool} (h : SetAt w N f) (g : Nat → Bool) : w.there N 0 (setL g).toArray.size := fun j hj => by
  rw [setA_size] at hj
  rw [Nat.zero_add, h.cell j hj]
  exact ⟨rfl, h.loose j⟩
theorem SetAt.below {w w' : World} {N : Nat} {f : Nat → Bool} (h : SetAt w N f) (b : Below w.heap.size w w') : SetAt w' N f :=
  ⟨Nat.lt_of_lt_of_le h.lt b.size, fun j v hv => by rw [b.cell (p := ⟨N, 0 + j, none⟩) h.lt]; exact h.has j v hv, fun j => by rw [b.frozen (p := ⟨N, j, none⟩) h.lt]; exact h.loose j⟩
theorem SetAt.drew {w : World} {N : Nat} {f : Nat → Bool} (h : SetAt w N f) : SetAt w.drew N f := h.below (Below.refl _ _).drew
theorem SetAt.alloc {w : World} {N : Nat} {f : Nat → Bool} (h : SetAt w N f) (o : Obj) : SetAt (w.alloc o) N f := h.below (below_alloc _ _)
theorem heap_size_setCell (w : World) (a : Addr) (v : Value) : (w.setCell a v).heap.size = w.heap.size := by simp [World.setCell]
theorem SetAt.other {w : World} {N M : Nat} {f : Nat → Bool} (h : SetAt w N f) (hne : N ≠ M) (j : Nat) (v : Value) : SetAt (w.setCell ⟨M, j, none⟩ v) N f :=
  ⟨by rw [heap_size_setCell]; exact h.lt, fun i u hu => cell_set_other hne (h.has i u hu), fun i => by rw [World.frozen?_setCell]; exact h.loose i⟩
theorem SetAt.set {w : World} {N : Nat} {f : Nat → Bool} (h : SetAt w N f) (j : Nat) (hj : j < 64) (b : Bool) : SetAt (w.setCell ⟨N, j, none⟩ (.bool b)) N (fun i => if i = j then b else f i) := by
  refine ⟨by rw [heap_size_setCell]; exact h.lt, fun i u hu => ?_, fun i => by rw [World.frozen?_setCell]; exact h.loose i⟩
  have hi : i < 64 := by have := (List.getElem?_eq_some_iff.1 hu).1; rwa [setL_len] at this
  rw [setL_get _ i hi] at hu
  obtain rfl := Option.some.inj hu
  rw [Nat.zero_add]
  by_cases e : i = j
  · subst e
    rw [if_pos rfl]
    exact World.cell?_setCell_same _ _ _ (h.cell i hi)
  · rw [if_neg e, World.cell?_setCell_other _ _ _ _ (fun q => e (Addr.mk.inj q).2.1.symm)]
    exact h.cell i hi
theorem heap_setCells_other (b : Nat) : ∀ (vs : List Value) (o : Nat) (w : World) (N : Nat), N ≠ b → (w.setCells b o vs).heap[N]? = w.heap[N]?
  | [], _, _, _, _ => rfl
  | v :: r, o, w, N, h => by
    rw [World.setCells, heap_setCells_other b r (o + 1) _ N h]
    exact heap_setCell_other w ⟨b, o, none⟩ N v h
theorem below_setCells_up {B : Nat} (b : Nat) (hb : B ≤ b) : ∀ (vs : List Value) (o : Nat) {w w' : World}, Below B w w' → Below B w (w'.setCells b o vs)
  | [], _, _, _, h => h
  | v :: r, o, _, _, h => by
    rw [World.setCells]
    exact below_setCells_up b hb r (o + 1) (h.setCell (p := ⟨b, o, none⟩) hb v)
theorem heap_size_setCells (b : Nat) : ∀ (vs : List Value) (o : Nat) (w : World), (w.setCells b o vs).heap.size = w.heap.size
  | [], _, _ => rfl
  | v :: r, o, w => by rw [World.setCells, heap_size_setCells b r (o + 1), heap_size_setCell]
theorem SetAt.putOther {w : World} {N M : Nat} {f : Nat → Bool} (h : SetAt w N f) (hne : N ≠ M) (vs : List Value) : SetAt (w.setCells M 0 vs) N f :=
  ⟨by rw [heap_size_setCells]; exact h.lt, World.rangeAt_setCells_apart h.has M 0 vs (.inl hne), fun i => by rw [World.frozen?_setCells]; exact h.loose i⟩
theorem SetAt.put {w : World} {N : Nat} {f : Nat → Bool} (h : SetAt w N f) (g : Nat → Bool) : SetAt (w.setCells N 0 (setL g).toArray.toList) N g :=
  ⟨by rw [heap_size_setCells]; exact h.lt, World.rangeAt_setCells_same w N 0 _ (by have := h.there g; simpa using this), fun i => by rw [World.frozen?_setCells]; exact h.loose i⟩
theorem SetAt.of_row {w : World} {N : Nat} {f : Nat → Bool} {cs : Array Value} {t : TypeId} (h : w.heap[N]? = some (.cells cs t (0, 0))) (hcs : cs = (setL f).toArray) : SetAt w N f := by
  subst hcs
  refine ⟨(Array.getElem?_eq_some_iff.1 h).1, fun j v hv => ?_, fun j => by simp [World.frozen?, h]⟩
  rw [Nat.zero_add]
  exact row_cell h j v (by simpa using hv)
theorem SetAt.new (w : World) (f : Nat → Bool) {cs : Array Value} (t : TypeId) (hcs : cs = (setL f).toArray) : SetAt (w.alloc (.cells cs t (0, 0))) w.heap.size f :=
  SetAt.of_row (alloc_at _ _ _ rfl) hcs
/-- the empty set -/
def noneF : Nat → Bool := fun _ => false
theorem setL_none : setL noneF = List.replicate 64 (.bool false) := by
  unfold setL noneF
  rw [List.map_const']
  simp
theorem zero_set : #[Value.bool false, Value.bool false, Value.bool false, Value.bool false, Value.bool false, Value.bool false, Value.bool false, Value.bool false, Value.bool false, Value.bool false, Value.bool false, Value.bool false, Value.bool false, Value.bool false, Value.bool false, Value.bool false, Value.bool false, Value.bool false, Value.bool false, Value.bool false, Value.bool false, Value.bool false, Value.bool false, Value.bool false, Value.bool false, Value.bool false, Value.bool false, Value.bool false, Value.bool false, Value.bool false, Value.bool false, Value.bool false, Value.bool false, Value.bool false, Value.bool false, Value.bool false, Value.bool false, Value.bool false, Value.bool false, Value.bool false, Value.bool false, Value.bool false, Value.bool false, Value.bool false, Value.bool false, Value.bool false, Value.bool false, Value.bool false, Value.bool false, Value.bool false, Value.bool false, Value.bool false, Value.bool false, Value.bool false, Value.bool false, Value.bool false, Value.bool false, Value.bool false, Value.bool false, Value.bool false, Value.bool false, Value.bool false, Value.bool false, Value.bool false] = (setL noneF).toArray := by rfl
theorem heap_size_alloc (w : World) (o : Obj) : (w.alloc o).heap.size = w.heap.size + 1 := by show (w.heap.push o).size = _; simp
/-- a load of the whole set -/
theorem set_load {w : World} {N : Nat} {f : Nat → Bool} (h : SetAt w N f) : (Instr.loadAt 27 (.pointer (some ⟨N, 0, none⟩))).run Tryd.prog w = .ok (setV f) w :=
  run_loadAt_mid w N 0 _ (setL f) _ h.has Tryd.underlying27 rfl (by rw [setL_len]; kernel_rfl)
theorem wpList_set_load {ops : Array Oper} {rest : List Oper} {op : Oper} {a : Act} {w : World} {Q : Exit → Act → World → Prop} (hgd : op.guard = none) (x : Operand) (ho : op.op = .load 27 x)
    (N : Nat) (f : Nat → Bool) (hx : a.eval x = .pointer (some ⟨N, 0, none⟩)) (h : SetAt w N f)
    (hK : wpList Tryd.prog ops Q rest (a.put op.dst (setV f)) w) : wpList Tryd.prog ops Q (op :: rest) a w :=
  wpList_load_mid hgd _ x ho N 0 hx (setL f) _ h.has Tryd.underlying27 rfl (by rw [setL_len]; kernel_rfl) hK
/-- W is w with the set g in block N -/
structure PutAt (w : World) (N : Nat) (g : Nat → Bool) (W : World) : Prop where
  it : SetAt W N g
  other : ∀ {M : Nat} {f : Nat → Bool}, M ≠ N → SetAt w M f → SetAt W M f
  bel : ∀ {B : Nat} {w0 : World}, B ≤ N → Below B w0 w → Below B w0 W
  heap : ∀ {b : Nat}, b ≠ N → W.heap[b]? = w.heap[b]?
  size : W.heap.size = w.heap.size
theorem PutAt.cell {w W : World} {N : Nat} {g : Nat → Bool} (h : PutAt w N g W) {b o : Nat} {v : Value} (hb : b ≠ N) (hc : w.cell? ⟨b, o, none⟩ = some v) : W.cell? ⟨b, o, none⟩ = some v := by
  rw [World.cell?_of_block (w := w) (h.heap hb)]
  exact hc
theorem wpList_set_store {ops : Array Oper} {rest : List Oper} {op : Oper} {a : Act} {w : World} {Q : Exit → Act → World → Prop} (hgd : op.guard = none) (x y : Operand) (ho : op.op = .store 27 x y)
    (N : Nat) (f g : Nat → Bool) (hx : a.eval x = .pointer (some ⟨N, 0, none⟩)) (hy : a.eval y = setV g) (h : SetAt w N f)
    (hK : ∀ W, PutAt w N g W → wpList Tryd.prog ops Q rest (a.put op.dst undef) W) : wpList Tryd.prog ops Q (op :: rest) a w := by
  refine wpList_store_mid hgd _ x y ho N 0 _ hx hy (h.there g) (by rw [setA_size]; kernel_rfl) (setA_one g) (hK _ ⟨h.put g, ?_, ?_, ?_, ?_⟩)
  · intro M f' hne hM
    exact hM.putOther hne _
  · intro B w0 hB hb
    exact below_setCells_up N hB _ _ hb
  · intro b hb
    exact heap_setCells_other N _ _ _ b hb
  · exact heap_size_setCells _ _ _ _
/-- results that begin with a set in memory -/
theorem results_set1 {fn : Func} {p : Tmp} (h : fn.results = #[.cell p 27]) (tmps : Array Value) (w : World) (N : Nat) (f : Nat → Bool)
    (hp : tmps.getD p undef = .pointer (some ⟨N, 0, none⟩)) (hs : SetAt w N f) : (results fn tmps).run Tryd.prog w = .ok (setV f) w := by
  have hp' : tmps[p]?.getD undef = .pointer (some ⟨N, 0, none⟩) := by simpa using hp
  simp [results, h, hp', asAddr, run_loadVar_mid w N 0 _ (setL f) _ hs.has Tryd.underlying27 rfl (by rw [setL_len]; kernel_rfl)]
  rfl
theorem results_set2 {fn : Func} {p q : Tmp} (h : fn.results = #[.cell p 27, .tmp q]) (tmps : Array Value) (w : World) (N : Nat) (f : Nat → Bool)
    (hp : tmps.getD p undef = .pointer (some ⟨N, 0, none⟩)) (hs : SetAt w N f) : (results fn tmps).run Tryd.prog w = .ok (.tuple #[setV f, tmps.getD q undef]) w := by
  have hp' : tmps[p]?.getD undef = .pointer (some ⟨N, 0, none⟩) := by simpa using hp
  simp [results, h, hp', asAddr, run_loadVar_mid w N 0 _ (setL f) _ hs.has Tryd.underlying27 rfl (by rw [setL_len]; kernel_rfl)]
  rfl
end Go.Proofs.YtjipjhpehfbpkaaDoor
