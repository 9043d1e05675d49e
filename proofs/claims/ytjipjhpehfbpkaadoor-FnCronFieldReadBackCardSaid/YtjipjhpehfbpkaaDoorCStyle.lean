/-
  A spec.CronStyle in memory; its Pick.
-/
import Derived.Test.YtjipjhpehfbpkaaDoorCSet
import Derived.Test.YtjipjhpehfbpkaaDoorCFlip
import Derived.Deep.QuietTactic
import Derived.BigQuiet
namespace Go.Proofs.YtjipjhpehfbpkaaDoor
open Go.RowKit
set_option maxRecDepth 100000
set_option linter.unusedVariables false

/-- below B the world w' is as w was, but for block S -/
structure Bar (B S : Nat) (w w' : World) : Prop where
  os : w'.os = w.os
  tape : w'.tape = w.tape
  output : w'.output = w.output
  size : w.heap.size ≤ w'.heap.size
  block : ∀ k, k < B → k ≠ S → w'.heap[k]? = w.heap[k]?
theorem Bar.refl (B S : Nat) (w : World) : Bar B S w w := ⟨rfl, rfl, rfl, Nat.le_refl _, fun _ _ _ => rfl⟩
theorem Bar.trans {B S : Nat} {a b c : World} (h : Bar B S a b) (k : Bar B S b c) : Bar B S a c :=
  ⟨k.os.trans h.os, k.tape.trans h.tape, k.output.trans h.output, Nat.le_trans h.size k.size, fun i hi hs => (k.block i hi hs).trans (h.block i hi hs)⟩
theorem Bar.mono {B C S : Nat} {w w' : World} (h : Bar B S w w') (hc : C ≤ B) : Bar C S w w' := ⟨h.os, h.tape, h.output, h.size, fun k hk hs => h.block k (by omega) hs⟩
theorem Bar.up {S : Nat} {a b c : World} (h : Bar a.heap.size S a b) (k : Bar b.heap.size S b c) : Bar a.heap.size S a c := h.trans (k.mono h.size)
theorem Bar.of {B S : Nat} {w w' : World} (h : Below B w w') : Bar B S w w' := ⟨h.os, h.tape, h.output, h.size, fun k hk _ => h.block k hk⟩
theorem Bar.low {B S : Nat} {w w' : World} (h : Bar B S w w') (hs : B ≤ S) : Below B w w' := ⟨h.os, h.tape, h.output, h.size, fun k hk => h.block k hk (by omega)⟩
theorem Bar.drew {B S : Nat} {a w : World} (h : Bar B S a w) : Bar B S a w.drew := ⟨h.os, h.tape, h.output, h.size, h.block⟩
theorem Bar.alloc {B S : Nat} {a w : World} (h : Bar B S a w) (hB : B ≤ w.heap.size) (o : Obj) : Bar B S a (w.alloc o) := h.trans (Bar.of ((Below.refl B w).alloc hB o))
theorem Bar.set {B S : Nat} {a w : World} (h : Bar B S a w) (j : Nat) (v : Value) : Bar B S a (w.setCell ⟨S, j, none⟩ v) :=
  h.trans ⟨rfl, rfl, rfl, by rw [heap_size_setCell]; exact Nat.le_refl _, fun k _ hk => heap_setCell_other w ⟨S, j, none⟩ k v hk⟩
theorem Bar.cell {B S : Nat} {w w' : World} (h : Bar B S w w') {b o : Nat} (hb : b < B) (hs : b ≠ S) : w'.cell? ⟨b, o, none⟩ = w.cell? ⟨b, o, none⟩ :=
  World.cell?_of_block (h.block b hb hs)
/-- block S holds a style -/
def StyleAt (w : World) (S : Nat) : Prop := ∃ A L cap a, w.heap[S]? = some (.cells #[.slice A L cap, .int .i64 ((a : Nat) : Int)] 57 (0, 0)) ∧ L ≤ 140737488351232 ∧
  ∀ j, j < L → ∃ g o x, A = some ⟨g, o, none⟩ ∧ g < w.heap.size ∧ g < S ∧ w.cell? ⟨g, o + j, none⟩ = some (byteV x)
theorem StyleAt.lt {w : World} {S : Nat} (h : StyleAt w S) : S < w.heap.size := by
  obtain ⟨A, L, cap, a, h1, _⟩ := h
  exact (Array.getElem?_eq_some_iff.1 h1).1
theorem StyleAt.below {w w' : World} {S : Nat} (h : StyleAt w S) (b : Below w.heap.size w w') : StyleAt w' S := by
  have hlt := h.lt
  obtain ⟨A, L, cap, a, h1, h2, h3⟩ := h
  refine ⟨A, L, cap, a, by rw [b.block _ hlt]; exact h1, h2, fun j hj => ?_⟩
  obtain ⟨g, o, x, e, e1, e2, e3⟩ := h3 j hj
  exact ⟨g, o, x, e, Nat.lt_of_lt_of_le e1 b.size, e2, by rw [b.cell (p := ⟨g, o + j, none⟩) e1]; exact e3⟩
theorem StyleAt.apart {w : World} {S N : Nat} (h : StyleAt w S) (hne : S < N) (j : Nat) (u : Value) : StyleAt (w.setCell ⟨N, j, none⟩ u) S := by
  obtain ⟨A, L, cap, a, h1, h2, h3⟩ := h
  refine ⟨A, L, cap, a, by rw [heap_setCell_other w ⟨N, j, none⟩ S u (Nat.ne_of_lt hne)]; exact h1, h2, fun i hi => ?_⟩
  obtain ⟨g, o, x, e, e1, e2, e3⟩ := h3 i hi
  refine ⟨g, o, x, e, by rw [heap_size_setCell]; exact e1, e2, ?_⟩
  rw [World.cell?_setCell_other _ _ _ _ (fun q => Nat.ne_of_lt (Nat.lt_trans e2 hne) (Addr.mk.inj q).1.symm)]
  exact e3
/-- what a Pick among n gives -/
def Picked (S : Nat) (n : Nat) (w : World) (e : Ending) (w' : World) : Prop := ∃ r : Nat, e = .returned (.int .i64 (r : Int)) ∧ r < n ∧ StyleAt w' S ∧ Bar w.heap.size S w w'
theorem pick_rem (x : UInt8) (n : Nat) (h : 0 < n) : ∃ r : Nat, Int.tmod (x.toNat : Int) (n : Int) = (r : Int) ∧ r < n := ⟨x.toNat % n, by rw [Int.ofNat_tmod], Nat.mod_lt _ h⟩
theorem below_drewN (w : World) (n : Nat) : Below w.heap.size w (w.drewN n) := ⟨rfl, rfl, rfl, Nat.le_refl _, fun _ _ => rfl⟩
theorem pick_next {w W : World} {S L cap a : Nat} {A : Option Addr} (hb : Below w.heap.size w W) (h1 : w.heap[S]? = some (.cells #[.slice A L cap, .int .i64 ((a : Nat) : Int)] 57 (0, 0)))
    (h3 : ∀ j, j < L → ∃ g o x, A = some ⟨g, o, none⟩ ∧ g < w.heap.size ∧ g < S ∧ w.cell? ⟨g, o + j, none⟩ = some (byteV x)) (h2 : L ≤ 140737488351232) (ha : a ≤ L) :
    StyleAt (W.setCell ⟨S, 1, none⟩ (.int .i64 ((a : Int) + 1))) S ∧ Bar w.heap.size S w (W.setCell ⟨S, 1, none⟩ (.int .i64 ((a : Int) + 1))) := by
  have hlt : S < w.heap.size := (Array.getElem?_eq_some_iff.1 h1).1
  have h1' : W.heap[S]? = some (.cells #[.slice A L cap, .int .i64 ((a : Nat) : Int)] 57 (0, 0)) := by rw [hb.block _ hlt]; exact h1
  refine ⟨⟨A, L, cap, a + 1, ?_, h2, fun j hj => ?_⟩, (Bar.of hb).set _ _⟩
  · simp [World.setCell, Array.getElem?_modify, h1']
  · obtain ⟨g, o, x, e, e1, e2, e3⟩ := h3 j hj
    refine ⟨g, o, x, e, by rw [heap_size_setCell]; exact Nat.lt_of_lt_of_le e1 hb.size, e2, ?_⟩
    rw [World.cell?_setCell_other _ _ _ _ (fun q => Nat.ne_of_lt e2 (Addr.mk.inj q).1.symm), hb.cell (p := ⟨g, o + j, none⟩) e1]
    exact e3
theorem pick_any (S n : Nat) (w : World) (h : StyleAt w S) (hn : 0 < n) (hn2 : n ≤ 2147483647) :
    Calls Tryd.prog 30 #[.pointer (some ⟨S, 0, none⟩), .int .i64 (n : Int)] w (Picked S n w) := by
  have H := Lib.hid h
  obtain ⟨A, L, cap, a, h1, h2, h3⟩ := h
  have H3 := Lib.hid h3
  clear h3
  have c0 : w.cell? ⟨S, 0, none⟩ = some (.slice A L cap) := row_cell h1 0 _ rfl
  have c1 : w.cell? ⟨S, 1, none⟩ = some (.int .i64 (a : Int)) := row_cell h1 1 _ rfl
  have H1 := Lib.hid h1
  clear h1
  have HF := Lib.hid (fun j => (by simp [World.frozen?, H1.out] : w.frozen? ⟨S, j, none⟩ = false))
  have hsz : Hid (S < w.heap.size) := Lib.hid H.out.lt
  by_cases hl : L ≤ a
  · have hl1 : (L : Int) ≤ (a : Int) := by omega
    go_enter Tryd.func30, Tryd.ntmps30
    go_wp2
    go_quiet (fail)
    go_wp2
    go_ret
    exact ⟨0, rfl, hn, H.out.below (below_drewN _ _), Bar.of (below_drewN _ _)⟩
  · obtain ⟨g, o, x, rfl, e1, e2, e3⟩ := H3.out a (by omega)
    have hl1 : ¬ (L : Int) ≤ (a : Int) := by omega
    have hl2 : (a : Int) < (L : Int) := by omega
    have f1 := HF.out 1
    have HAL : Hid (a ≤ L) := Lib.hid (by omega)
    have HX := Lib.hid x.toNat_lt
    go_enter Tryd.func30, Tryd.ntmps30
    go_wp2
    go_quiet (fail)
    go_wp2
    have G := Lib.hid (pick_next (W := w.drewN nq) (below_drewN _ _) H1.out H3.out h2 HAL.out)
    have d0 : ((w.drewN nq).setCell ⟨S, 1, none⟩ (.int .i64 ((a : Int) + 1))).cell? ⟨S, 0, none⟩ = some (.slice (some ⟨g, o, none⟩) L cap) := by
      rw [World.cell?_setCell_other _ _ _ _ (fun q => by cases q)]
      exact c0
    have d1 : ((w.drewN nq).setCell ⟨S, 1, none⟩ (.int .i64 ((a : Int) + 1))).cell? ⟨S, 1, none⟩ = some (.int .i64 ((a : Int) + 1)) := World.cell?_setCell_same _ _ _ c1
    have d2 : ((w.drewN nq).setCell ⟨S, 1, none⟩ (.int .i64 ((a : Int) + 1))).cell? ⟨g, o + a, none⟩ = some (.int .u8 (x.toNat : Int)) := by
      rw [World.cell?_setCell_other _ _ _ _ (fun q => Nat.ne_of_lt e2 (Addr.mk.inj q).1.symm)]
      exact e3
    generalize (w.drewN nq).setCell ⟨S, 1, none⟩ (.int .i64 ((a : Int) + 1)) = W at *
    clear c0 c1 e3
    have s1 : IntKind.i64.wrap ((a : Int) + 1 - 1) = (a : Int) := by
      have := HAL.out
      rw [IntWalk.i64_in _ (by omega)]
      omega
    have s2 : (a : Int) + 1 - 1 = (a : Int) := by omega
    have n0 : ¬ (n : Int) = 0 := by omega
    go_quiet (fail)
    go_wp2
    go_ret
    obtain ⟨r, hr, hlt⟩ := pick_rem x n hn
    have sx : wrap64 (x.toNat : Int) = (x.toNat : Int) := by
      have := HX.out
      unfold wrap64
      omega
    refine ⟨r, ?_, hlt, G.out.1.below (below_drewN _ _), G.out.2.up (Bar.of (below_drewN _ _))⟩
    show Ending.returned (.int .i64 ((wrap64 (x.toNat : Int)).tmod (n : Int))) = _
    rw [sx, hr]
end Go.Proofs.YtjipjhpehfbpkaaDoor
