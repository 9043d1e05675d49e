/-
  References: names, first places, slashes among runes.
-/
import Derived.Test.YtmjipdcohkiblaaDoorStr
import Derived.Test.YtmjipdcohkiblaaDoorRefM
import Derived.Test.YtmjipdcohkiblaaDoorRefAgg
import Derived.WalkKit
import Derived.Handy
import Derived.Lib.Hide
import Derived.Laws.Runes
import Derived.Laws.IdiomStrings
import Derived.Deep.LoopGhost
import Derived.Stop.Asserts
import Derived.Shelf.Strings.FieldsFuncAny
namespace Go.Proofs.YtmjipdcohkiblaaDoor
open Go.RowKit
set_option maxRecDepth 100000
set_option linter.unusedVariables false

theorem below_alloc (w : World) (o : Obj) : Below w.heap.size w (w.alloc o) := (Below.refl _ _).alloc (Nat.le_refl _) _
theorem toList_bs (s : ByteArray) : s.toList = M.bs s := ByteArray.toList_eq s
theorem Below.up {w X w2 : World} (h1 : Below w.heap.size w X) (h2 : Below X.heap.size X w2) : Below w.heap.size w w2 := h1.trans (h2.mono h1.size)
theorem alloc_at (w : World) (o : Obj) (n : Nat) (h : n = w.heap.size) : (w.alloc o).heap[n]? = some o := by
  subst h
  show (w.heap.push o)[w.heap.size]? = some o
  simp
theorem row_cell {w : World} {b : Nat} {cs : Array Value} {t : TypeId} {fz : Nat × Nat} (h : w.heap[b]? = some (.cells cs t fz)) (j : Nat) (v : Value) (hv : cs[j]? = some v) : w.cell? ⟨b, j, none⟩ = some v := by
  rw [cell_of_row _ _ _ _ _ _ h]; exact hv
theorem heap_below {w w' : World} {o : Obj} {n : Nat} (b : Below w.heap.size w w') (h : w.heap[n]? = some o) : w'.heap[n]? = some o := by
  rw [b.block _ (Array.getElem?_eq_some_iff.1 h).1]; exact h
theorem size_bs (s : ByteArray) : s.size = 0 ↔ M.bs s = [] := by
  rw [← M.bs_length]; exact List.length_eq_zero_iff
theorem empty_true {s : ByteArray} (h : s.size = 0) : s.toList = [] := by rw [toList_bs]; exact (size_bs s).1 h
theorem empty_false {s : ByteArray} (h : s.size ≠ 0) : s.toList.isEmpty = false := by
  rw [toList_bs]
  cases hq : M.bs s with
  | nil => exact absurd ((size_bs s).2 hq) h
  | cons _ _ => rfl
theorem add_ok {a b : ByteArray} (h : a.size + b.size ≤ 9223372036854775807) : ∀ w : World, (Op.stringOp .add a b).run Tryd.prog w = .ok (.string (a ++ b)) w := fun w => run_string_add_sum w a b h

/-- repository.Name -/
theorem name_any (d p : ByteArray) (w : World) (hz : d.size + p.size ≤ 1099511627776) :
    Calls Tryd.prog 39 #[.agg #[.string d, .string p]] w fun e w' => e = .returned (.string (refName d p)) ∧ Below w.heap.size w w' := by
  unfold refName
  by_cases h : d.size = 0
  · have e1 := empty_true h
    rw [if_pos h]
    go_enter Tryd.func39, Tryd.ntmps39
    go_wp2
    go_ret
    exact ⟨rfl, below_alloc _ _⟩
  · have e1 := empty_false h
    have a1 := add_ok (a := d) (b := ⟨#[47]⟩) (by show _ + 1 ≤ _; omega)
    have a2 := add_ok (a := d ++ ⟨#[47]⟩) (b := p) (by rw [ByteArray.size_append]; show _ + 1 + _ ≤ _; omega)
    rw [if_neg h]
    clear h
    go_enter Tryd.func39, Tryd.ntmps39
    go_wp2
    go_ret
    exact ⟨rfl, below_alloc _ _⟩
def FirstRes (s : ByteArray) (w : World) (e : Ending) (w' : World) : Prop := (∃ i : Int, e = .returned (.int .i64 i) ∧ (0 ≤ i ↔ M.slash s = true)) ∧ w = w'
/-- at the loop's head: no slash ahead of pos -/
def SlRel (s : ByteArray) (w : World) (gf : Nat) (wx : World) : Prop :=
  ∃ pos : Nat, wx.heap[w.heap.size]? = some (.stringIter s pos) ∧ Below w.heap.size w wx ∧ (∀ j, j < pos → s.get! j ≠ 47) ∧ pos ≤ s.size ∧ s.size ≤ pos + gf
/-- zzContainsRune at a slash -/
def IdxRes (s : ByteArray) (w : World) (e : Ending) (w' : World) : Prop := (∃ i : Int, e = .returned (.int .i64 i) ∧ (0 ≤ i ↔ M.slash s = true)) ∧ Below w.heap.size w w'
theorem idxRune_any (s : ByteArray) (w : World) (hs : s.size ≤ 2147483647) :
    Calls Tryd.prog 47 #[.string s, .int .i32 47] w (IdxRes s w) := by
  go_enter Tryd.func47, Tryd.ntmps47
  go_wp2
  go_loopg [5] s.size (fun gf s5 wx => Hid (SlRel s w gf wx))
  case atStart => exact Lib.hid ⟨0, World.iter_heap w s 0, below_alloc _ _, fun j hj => absurd hj (by omega), Nat.zero_le _, by omega⟩
  case round =>
    obtain ⟨pos, hit, hbw, hno, hps, hfu⟩ := hrel.out
    clear hrel
    by_cases hlt : pos < s.size
    · obtain ⟨g', rfl⟩ : ∃ g', gk = g' + 1 := ⟨gk - 1, by omega⟩
      have hnx : ∀ ty, (Instr.next (.pointer (some ⟨w.heap.size, 0, none⟩)) true ty).run Tryd.prog wr = _ := fun ty => Lib.run_next_any_at wr w.heap.size s pos ty hit hlt
      obtain ⟨hwn, hwd, h47, h48⟩ := M.slash_at s pos hlt
      obtain ⟨R, hR⟩ : ∃ R, (Utf8.decode s pos).1 = R := ⟨_, rfl⟩
      obtain ⟨K, hK⟩ : ∃ K, (Utf8.decode s pos).2 = K := ⟨_, rfl⟩
      rw [hR, hK] at hnx
      rw [hK] at hwd hwn
      rw [hR] at h47 h48
      rw [hK] at h48
      have hit2 := Lib.iterAt_heap wr w.heap.size s pos (pos + K) hit
      have hbw2 := Lib.below_iterAt hbw (k := w.heap.size) (Nat.le_refl _) s (pos + K)
      obtain ⟨W, hWd⟩ : ∃ W, wr.iterAt w.heap.size s (pos + K) = W := ⟨_, rfl⟩
      rw [hWd] at hnx hit2 hbw2
      have HI := Lib.hid hit2
      have HB := Lib.hid hbw2
      have H47 := Lib.hid h47
      have H48 := Lib.hid h48
      have HNO := Lib.hid hno
      clear hit hbw hR hK hWd hit2 hbw2 h47 h48 hno
      by_cases c0 : R = 47
      · have d3 : ((R : Int) == 47) = true := by rw [beq_iff_eq]; omega
        have HY := Lib.hid (M.slash_yes hlt (H47.out c0))
        clear c0
        go_wp2
        go_ret
        exact ⟨⟨_, rfl, ⟨fun _ => HY.out, fun _ => by omega⟩⟩, HB.out⟩
      · have d3 : ((R : Int) == 47) = false := by rw [beq_eq_false_iff_ne]; omega
        have HY := Lib.hid c0
        clear c0
        go_wp2
        go_roundg g'
        case measure => omega
        case rel =>
          refine Lib.hid ⟨pos + K, HI.out, HB.out, fun j hj => ?_, hwn, by omega⟩
          by_cases e : j < pos
          · exact HNO.out j e
          · exact H48.out HY.out j (by omega) hj
    · have hp : pos = s.size := by omega
      subst hp
      have hnx : ∀ ty, (Instr.next (.pointer (some ⟨w.heap.size, 0, none⟩)) true ty).run Tryd.prog wr = _ := fun ty => Lib.run_next_end_at wr w.heap.size s s.size ty hit hlt
      have HB := Lib.hid hbw
      have HN := Lib.hid (M.slash_no hno)
      clear hno hbw hit
      go_wp2
      go_ret
      exact ⟨⟨-1, rfl, ⟨fun h => by omega, fun h => by rw [HN.out] at h; cases h⟩⟩, HB.out⟩
theorem contains_any (s : ByteArray) (w : World) (hs : s.size ≤ 2147483647) (b : Bool) (hb : Hid (M.slash s = b)) :
    Calls Tryd.prog 44 #[.string s, .int .i32 47] w fun e w' => e = .returned (.bool b) ∧ Below w.heap.size w w' := by
  go_enter Tryd.func44, Tryd.ntmps44
  go_wp2_with (go_at_call 47; (with_reducible refine (idxRune_any s _ hs).mono ?_); rintro e w1 ⟨⟨i, rfl, hi⟩, hbb⟩; have HI := Lib.hid hi; have HB := Lib.hid hbb; clear hi hbb)
  go_ret
  refine ⟨?_, HB.out⟩
  have h := HI.out
  rw [hb.out] at h
  cases b with
  | true => have : 0 ≤ i := h.2 rfl; simp [this]
  | false => have : ¬ 0 ≤ i := fun q => by have := h.1 q; cases this
             simp [this]
end Go.Proofs.YtmjipdcohkiblaaDoor
