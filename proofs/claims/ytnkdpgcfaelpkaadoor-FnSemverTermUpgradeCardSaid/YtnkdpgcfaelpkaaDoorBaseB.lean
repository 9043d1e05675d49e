/-
  Fmt, Ver, Good, SvGood, Text, SetMeta, Plain, Ord, Less, Inc.
-/
import Derived.Test.YtnkdpgcfaelpkaaDoorShelf
import Derived.WalkLawsBesides
import Derived.Lib.ItoaMem
import Derived.Lib.AppendIntMem
import Derived.Lib.Hide
import Derived.Test.YtnkdpgcfaelpkaaDoorBaseA
import Derived.Deep.RegionHeld3
import Derived.Laws.ResultCell
/-
  strconv.FormatUint at base 10: the decimal numeral, for every uint64.
-/
namespace Go.Proofs.YtnkdpgcfaelpkaaDoor
open Go.RowKit Go.Sort
set_option maxRecDepth 100000

def Pow10 (w : World) : Prop := Lib.TabIs Tryd.prog w "internal/strconv.uint64pow10" .u64 Lib.pow10Tab
theorem Pow10.below {w w' : World} (h : Pow10 w) (b : Below w.heap.size w w') : Pow10 w' := (Lib.tabBelow_of_tabIs h).on b |>.here

theorem fmtInner (u : Nat) (w : World) (hu : u < 18446744073709551616) (htab : Pow10 w) :
    Calls Tryd.prog 65 #[.int .u64 u, .int .i64 10] w fun e w' => e = .returned (.string ⟨(Lib.decDigits u).toArray⟩) ∧ Below w.heap.size w w' := by
  by_cases hs : u < 100
  · go_enter Tryd.func65, Tryd.ntmps65
    go_wp2_with (go_at_call 71; refine (Tryd.internal_strconv_small u hs _).mono ?_; rintro e w' ⟨rfl, rfl⟩)
    go_ret
    exact ⟨rfl, Below.refl _ _⟩
  · have hu1 : 1 ≤ u := by omega
    have hnd20 : Lib.nDigits u ≤ 20 := by have := Lib.numDigits_eq u hu1 hu; split at this <;> omega
    have hal : Tryd.prog.arrayLen 88 = 24 := by kernel_rfl
    have hH0 := Lib.holds_zero0 w 88 (Lib.nDigits u) (by omega)
    have hfmt := Tryd.internal_strconv_formatBase10 w.heap.size 0 24 u (Array.replicate (Lib.nDigits u) 0) (w.alloc (.cells Lib.zeros24 88)) hH0 (by rw [Array.size_replicate]; exact Lib.lt_pow_nDigits u) hu (by rw [Array.size_replicate]; omega)
    rw [Array.size_replicate] at hfmt
    have hsl0 : ∀ W, (Instr.sliceAt 88 (.pointer (some ⟨w.heap.size, 0, none⟩)) none (some (.int .i64 (Lib.nDigits u : Int))) none).run Tryd.prog W = .ok (.slice (some ⟨w.heap.size, 0, none⟩) (Lib.nDigits u) 24) W := fun W => by
      rw [run_sliceAt_array_h W 88 ⟨w.heap.size, 0, none⟩ (by kernel_rfl) .i64 (Lib.nDigits u : Int) (by omega) (by rw [hal]; omega)]
      go_simp
    have HH0 := Lib.hid hH0
    have HU := Lib.hid hu
    have HT := Lib.hid htab
    clear hH0 hal htab
    go_enter Tryd.func65, Tryd.ntmps65
    go_wp2_with (first
      | (go_at_call 72; refine (Tryd.internal_strconv_numDigits u hu1 HU.out _ (Lib.tabIs_alloc HT.out _)).mono ?_; rintro e w' ⟨rfl, rfl⟩))
    go_at_call 73
    refine hfmt.mono ?_
    rintro e w' ⟨rfl, k, v', dk, rfl, hF⟩
    have hcv : (convert 91 9 (.slice (some ⟨w.heap.size, 0, none⟩) (Lib.nDigits u) 24)).run Tryd.prog ((putRow (fun (b : UInt8) => Value.int .u8 (b.toNat : Int)) (w.alloc (.cells Lib.zeros24 88)) w.heap.size 0 dk).drewN k) = .ok (.string ⟨(Lib.decDigits u).toArray⟩) ((putRow (fun (b : UInt8) => Value.int .u8 (b.toNat : Int)) (w.alloc (.cells Lib.zeros24 88)) w.heap.size 0 dk).drewN k) := by
      have h := run_convert_bytes_back (P := Tryd.prog) ((putRow (fun (b : UInt8) => Value.int .u8 (b.toNat : Int)) (w.alloc (.cells Lib.zeros24 88)) w.heap.size 0 dk).drewN k) 91 9 5 ⟨w.heap.size, 0, none⟩ 24 (Lib.decDigits u) (by kernel_rfl) (by kernel_rfl) (by kernel_rfl) (fun j hj => by
        rw [Lib.row_is_numeral hF j hj, Lib.add_plain, World.cell?_drewN]
        exact cell?_putRow (fun (b : UInt8) => Value.int .u8 (b.toNat : Int)) _ w.heap.size 0 _ dk HH0.out (by rw [hF.size, Array.size_replicate]) j (by rw [hF.size]; rw [Lib.decDigits_length] at hj; exact hj))
      rw [Lib.decDigits_length] at h
      exact h
    go_wp2
    go_ret
    obtain ⟨os, eo⟩ := Lib.fin_at w (.cells Lib.zeros24 88) dk k 0
    rw [eo]
    exact ⟨rfl, Lib.below_grow _ w (Nat.le_refl _) k os⟩

theorem formatUint_any (u : Nat) (w : World) (hu : u < 18446744073709551616) (htab : Pow10 w) :
    Calls Tryd.prog 53 #[.int .u64 u, .int .i64 10] w fun e w' => e = .returned (.string ⟨(Lib.decDigits u).toArray⟩) ∧ Below w.heap.size w w' := by
  go_enter Tryd.func53, Tryd.ntmps53
  go_wp2_with fail
  refine (fmtInner u _ hu htab).mono ?_
  rintro e w1 ⟨rfl, hb⟩
  go_wp2
  go_ret
  exact ⟨rfl, hb⟩
end Go.Proofs.YtnkdpgcfaelpkaaDoor

/-
  The records of versions: what the laws ask of one, and the package's own record of one.
-/
namespace Go.Proofs.YtnkdpgcfaelpkaaDoor
open Go.RowKit
set_option maxRecDepth 100000

/-- a version's parts -/
structure V where
  (a b c : Nat)
  (p m : ByteArray)
def V.v (x : V) : Value := .agg #[.int .u64 x.a, .int .u64 x.b, .int .u64 x.c, .string x.p, .string x.m]
def V.fits (x : V) : Bool := decide (x.p.size ≤ 2147483647) && decide (x.m.size ≤ 2147483647)

theorem below_alloc (w : World) (o : Obj) : Below w.heap.size w (w.alloc o) := (Below.refl _ _).alloc (Nat.le_refl _) _

theorem alloc_at (w : World) (o : Obj) (n : Nat) (h : n = w.heap.size) : (w.alloc o).heap[n]? = some o := by
  subst h
  show (w.heap.push o)[w.heap.size]? = some o
  simp

theorem cell_alloc_some {w : World} {o : Obj} {a : Addr} {v : Value} (h : w.cell? a = some v) : (w.alloc o).cell? a = some v := by
  rw [(below_alloc w o).cell (p := a) (Sent.cell_lt h)]; exact h
theorem cell_drew_some {w : World} {a : Addr} {v : Value} (h : w.cell? a = some v) : w.drew.cell? a = some v := h
theorem below_alloc_on {B : Nat} {a w : World} {o : Obj} (hB : B ≤ a.heap.size) (h : Below B a w) : Below B a (w.alloc o) := h.alloc (Nat.le_trans hB h.size) _
theorem heap_alloc_some {w : World} {o o' : Obj} {n : Nat} (h : w.heap[n]? = some o) : (w.alloc o').heap[n]? = some o := by
  have hlt : n < w.heap.size := by
    rcases Nat.lt_or_ge n w.heap.size with h' | h'
    · exact h'
    · rw [Array.getElem?_eq_none h'] at h; cases h
  rw [(below_alloc w o').block n hlt]; exact h
theorem heap_drew_some {w : World} {o : Obj} {n : Nat} (h : w.heap[n]? = some o) : w.drew.heap[n]? = some o := h

theorem zzFits14_any (x : V) (w : World) (h1 : x.p.size ≤ 140737488351232) (h2 : x.m.size ≤ 140737488351232) :
    Calls Tryd.prog 5 #[x.v] w fun e w' => e = .returned (.bool x.fits) ∧ Below w.heap.size w w' := by
  obtain ⟨a, b, c, p, m⟩ := x
  unfold V.v V.fits
  simp only at h1 h2 ⊢
  by_cases hp : p.size ≤ 2147483647
  · by_cases hm : m.size ≤ 2147483647
    · rw [decide_eq_true hp, decide_eq_true hm]
      go_enter Tryd.func5, Tryd.ntmps5
      go_wp2
      go_ret
      exact ⟨rfl, below_alloc _ _⟩
    · rw [decide_eq_true hp, decide_eq_false hm]
      go_enter Tryd.func5, Tryd.ntmps5
      go_wp2
      go_ret
      exact ⟨rfl, below_alloc _ _⟩
  · rw [decide_eq_false hp]
    go_enter Tryd.func5, Tryd.ntmps5
    go_wp2
    go_ret
    exact ⟨rfl, below_alloc _ _⟩

/-- the package's record of a version, with its original text -/
def V.rc (x : V) (o : ByteArray) : Value := .agg #[.int .u64 x.a, .int .u64 x.b, .int .u64 x.c, .string x.p, .string x.m, .string o]
def V.cells (x : V) (o : ByteArray) : Obj := .cells #[.int .u64 x.a, .int .u64 x.b, .int .u64 x.c, .string x.p, .string x.m, .string o] 41
/-- a pointer to a record of x, of the call's own -/
def PtrV (w : World) (x : V) (o : ByteArray) (e : Ending) (w' : World) : Prop :=
  ∃ N, e = .returned (.pointer (some ⟨N, 0, none⟩)) ∧ w.heap.size ≤ N ∧ w'.heap[N]? = some (x.cells o) ∧ Below w.heap.size w w'

theorem version_any (x : V) (w : World) : Calls Tryd.prog 20 #[x.v] w (PtrV w x ⟨#[]⟩) := by
  obtain ⟨a, b, c, p, m⟩ := x
  unfold V.v
  simp only
  go_enter Tryd.func20, Tryd.ntmps20
  go_wp2_with (go_at_call 36; go_in)
  go_ret
  refine ⟨_, rfl, ?_, ?_, (((Below.refl _ _).alloc (Nat.le_refl _) _).alloc (by simp) _)⟩
  · simp
  · exact alloc_at _ _ _ (by simp)

theorem major_any (x : V) (o : ByteArray) (w : World) : Calls Tryd.prog 39 #[x.rc o] w fun e w' => e = .returned (.int .u64 x.a) ∧ w' = w.alloc (x.cells o) := by
  obtain ⟨a, b, c, p, m⟩ := x
  unfold V.rc
  simp only
  go_enter Tryd.func39, Tryd.ntmps39
  go_wp2
  go_ret
  exact ⟨rfl, rfl⟩
theorem minor_any (x : V) (o : ByteArray) (w : World) : Calls Tryd.prog 40 #[x.rc o] w fun e w' => e = .returned (.int .u64 x.b) ∧ w' = w.alloc (x.cells o) := by
  obtain ⟨a, b, c, p, m⟩ := x
  unfold V.rc
  simp only
  go_enter Tryd.func40, Tryd.ntmps40
  go_wp2
  go_ret
  exact ⟨rfl, rfl⟩
theorem patch_any (x : V) (o : ByteArray) (w : World) : Calls Tryd.prog 41 #[x.rc o] w fun e w' => e = .returned (.int .u64 x.c) ∧ w' = w.alloc (x.cells o) := by
  obtain ⟨a, b, c, p, m⟩ := x
  unfold V.rc
  simp only
  go_enter Tryd.func41, Tryd.ntmps41
  go_wp2
  go_ret
  exact ⟨rfl, rfl⟩
theorem prerelease_any (x : V) (o : ByteArray) (w : World) : Calls Tryd.prog 42 #[x.rc o] w fun e w' => e = .returned (.string x.p) ∧ w' = w.alloc (x.cells o) := by
  obtain ⟨a, b, c, p, m⟩ := x
  unfold V.rc
  simp only
  go_enter Tryd.func42, Tryd.ntmps42
  go_wp2
  go_ret
  exact ⟨rfl, rfl⟩
theorem metadata_any (x : V) (o : ByteArray) (w : World) : Calls Tryd.prog 43 #[x.rc o] w fun e w' => e = .returned (.string x.m) ∧ w' = w.alloc (x.cells o) := by
  obtain ⟨a, b, c, p, m⟩ := x
  unfold V.rc
  simp only
  go_enter Tryd.func43, Tryd.ntmps43
  go_wp2
  go_ret
  exact ⟨rfl, rfl⟩

/-- a record's block, to stand in every world behind -/
def AtV (w : World) (N : Nat) (x : V) (o : ByteArray) : Prop := w.heap[N]? = some (x.cells o)
theorem AtV.below {w w' : World} {N : Nat} {x : V} {o : ByteArray} (h : AtV w N x o) (b : Below w.heap.size w w') : AtV w' N x o := by
  have hlt : N < w.heap.size := by
    rcases Nat.lt_or_ge N w.heap.size with h' | h'
    · exact h'
    · unfold AtV at h; rw [Array.getElem?_eq_none h'] at h; cases h
  unfold AtV
  rw [b.block _ hlt]
  exact h

theorem AtV.lt {w : World} {N : Nat} {x : V} {o : ByteArray} (h : AtV w N x o) : N < w.heap.size := by
  rcases Nat.lt_or_ge N w.heap.size with h' | h'
  · exact h'
  · unfold AtV at h; rw [Array.getElem?_eq_none h'] at h; cases h
theorem AtV.cells {w : World} {N : Nat} {x : V} {o : ByteArray} (h : AtV w N x o) :
    w.cell? ⟨N, 0, none⟩ = some (.int .u64 x.a) ∧ w.cell? ⟨N, 1, none⟩ = some (.int .u64 x.b) ∧ w.cell? ⟨N, 2, none⟩ = some (.int .u64 x.c) ∧
    w.cell? ⟨N, 3, none⟩ = some (.string x.p) ∧ w.cell? ⟨N, 4, none⟩ = some (.string x.m) ∧ w.cell? ⟨N, 5, none⟩ = some (.string o) := by
  unfold AtV V.cells at h
  refine ⟨?_, ?_, ?_, ?_, ?_, ?_⟩ <;> rw [cell_of_row w N _ _ _ _ h] <;> rfl

set_option maxHeartbeats 1000000 in
theorem plainVersion_any (x : V) (o : ByteArray) (N : Nat) (w : World) (h : AtV w N x o) :
    Calls Tryd.prog 22 #[.pointer (some ⟨N, 0, none⟩)] w fun e w' => e = .returned x.v ∧ Below w.heap.size w w' := by
  have hN := h.lt
  obtain ⟨c0, c1, c2, c3, c4, c5⟩ := h.cells
  clear h
  go_enter Tryd.func22, Tryd.ntmps22
  go_wp2_with fail
  go_region_held3 (fun w' => w'.cell? ⟨N, 0, none⟩ = some (.int .u64 x.a) ∧ w'.cell? ⟨N, 1, none⟩ = some (.int .u64 x.b) ∧ w'.cell? ⟨N, 2, none⟩ = some (.int .u64 x.c) ∧
    w'.cell? ⟨N, 3, none⟩ = some (.string x.p) ∧ w'.cell? ⟨N, 4, none⟩ = some (.string x.m) ∧ w'.cell? ⟨N, 5, none⟩ = some (.string o)) (first | (refine ⟨?_, ?_, ?_, ?_, ?_, ?_⟩ <;> (repeat (first | with_reducible assumption | with_reducible apply cell_alloc_some | with_reducible apply cell_drew_some | with_reducible refine cell_below (by with_reducible assumption) ?_ | with_reducible refine cell_set_other (by omega) ?_)))) (first
    | (go_at_call 39; refine (major_any x o _).mono ?_; rintro e w' ⟨rfl, rfl⟩)
    | (go_at_call 40; refine (minor_any x o _).mono ?_; rintro e w' ⟨rfl, rfl⟩)
    | (go_at_call 41; refine (patch_any x o _).mono ?_; rintro e w' ⟨rfl, rfl⟩)
    | (go_at_call 42; refine (prerelease_any x o _).mono ?_; rintro e w' ⟨rfl, rfl⟩)
    | (go_at_call 43; refine (metadata_any x o _).mono ?_; rintro e w' ⟨rfl, rfl⟩))
  go_wp2
  refine bodyPost_ret (results_cell_row rfl _ _ w.heap.size 24 #[.int .u64 x.a, .int .u64 x.b, .int .u64 x.c, .string x.p, .string x.m] (0, 0) _ rfl (by (repeat (first | exact alloc_at _ _ _ rfl | assumption | apply heap_alloc_some | apply heap_drew_some))) Tryd.underlying24 rfl (by kernel_rfl)) rfl ?_
  refine ⟨rfl, ?_⟩
  (repeat (first | exact Below.refl _ _ | apply Below.drew | (apply below_alloc_on (Nat.le_refl _))))
end Go.Proofs.YtnkdpgcfaelpkaaDoor

/-
  What the laws ask of a version: spec.Good, svGood.
-/
namespace Go.Proofs.YtnkdpgcfaelpkaaDoor
open Go.RowKit
set_option maxRecDepth 100000

def V.pOk (x : V) : Bool := (M.bs x.p).isEmpty || M.goodPre (M.bs x.p)
def V.mOk (x : V) : Bool := (M.bs x.m).isEmpty || M.validMeta (M.bs x.m)
def V.good (x : V) : Bool := x.pOk && x.mOk

/-- a version boxed -/
def V.box (x : V) : Obj := .cells #[.int .u64 x.a, .int .u64 x.b, .int .u64 x.c, .string x.p, .string x.m] 24
theorem box_after (x : V) {w w1 : World} (h : Below (w.alloc x.box).heap.size (w.alloc x.box) w1) :
    w1.cell? ⟨w.heap.size, 0, none⟩ = some (.int .u64 x.a) ∧ w1.cell? ⟨w.heap.size, 1, none⟩ = some (.int .u64 x.b) ∧ w1.cell? ⟨w.heap.size, 2, none⟩ = some (.int .u64 x.c) ∧
    w1.cell? ⟨w.heap.size, 3, none⟩ = some (.string x.p) ∧ w1.cell? ⟨w.heap.size, 4, none⟩ = some (.string x.m) := by
  have h0 : w1.heap[w.heap.size]? = some x.box := by
    rw [h.block _ (by simp)]
    exact alloc_at _ _ _ rfl
  unfold V.box at h0
  refine ⟨?_, ?_, ?_, ?_, ?_⟩ <;> rw [cell_of_row w1 _ _ _ _ _ h0] <;> rfl
theorem below_boxed {w w1 : World} {o : Obj} (h : Below (w.alloc o).heap.size (w.alloc o) w1) : Below w.heap.size w w1 := (below_alloc w o).trans (h.mono (below_alloc w o).size)

theorem validPre_is (s : ByteArray) (r : Bool) (w : World) (hs : s.size ≤ 2147483647) (hr : Hid (M.validPre (M.bs s) = r)) :
    Calls Tryd.prog 33 #[.string s] w fun e w' => e = .returned (.bool r) ∧ Below w.heap.size w w' := by
  have := validPre_any s w hs
  rw [hr.out] at this
  exact this
theorem smallPre_is (s : ByteArray) (r : Bool) (w : World) (hs : s.size ≤ 2147483647) (hr : Hid (M.smallPre (M.bs s) = r)) :
    Calls Tryd.prog 34 #[.string s] w fun e w' => e = .returned (.bool r) ∧ Below w.heap.size w w' := by
  have := smallPre_any s w hs
  rw [hr.out] at this
  exact this
theorem validMeta_is (s : ByteArray) (r : Bool) (w : World) (hs : s.size ≤ 2147483647) (hr : Hid (M.validMeta (M.bs s) = r)) :
    Calls Tryd.prog 35 #[.string s] w fun e w' => e = .returned (.bool r) ∧ Below w.heap.size w w' := by
  have := validMeta_any s w hs
  rw [hr.out] at this
  exact this

/-- an equation between strings and the empty one, as the walk asks it -/
theorem empty_cases (s : ByteArray) : (s.toList = [] ∧ (M.bs s).isEmpty = true) ∨ (s.toList.isEmpty = false ∧ (M.bs s).isEmpty = false) := by
  rw [toList_bs]
  cases h : M.bs s with
  | nil => exact .inl ⟨rfl, rfl⟩
  | cons _ _ => exact .inr ⟨rfl, rfl⟩

set_option maxHeartbeats 1000000 in
theorem good_any (x : V) (w : World) (h1 : x.p.size ≤ 2147483647) (h2 : x.m.size ≤ 2147483647) :
    Calls Tryd.prog 19 #[x.v] w fun e w' => e = .returned (.bool x.good) ∧ Below w.heap.size w w' := by
  obtain ⟨a, b, c, p, m⟩ := x
  simp only at h1 h2
  have hv : V.v ⟨a, b, c, p, m⟩ = .agg #[.int .u64 a, .int .u64 b, .int .u64 c, .string p, .string m] := rfl
  rw [hv]
  clear hv
  rcases empty_cases p with ⟨hp, hp2⟩ | ⟨hp, hp2⟩ <;> rcases empty_cases m with ⟨hm, hm2⟩ | ⟨hm, hm2⟩
  · have HR := Lib.hid (show V.good ⟨a, b, c, p, m⟩ = true by simp only [V.good, V.pOk, V.mOk, hp2, hm2, Bool.true_or, Bool.and_self])
    clear hp2 hm2
    rw [HR.out]
    go_enter Tryd.func19, Tryd.ntmps19
    go_wp2
    go_ret
    exact ⟨rfl, below_alloc _ _⟩
  · cases hvm : M.validMeta (M.bs m)
    all_goals
      have HV := Lib.hid hvm
      have HR := Lib.hid (show V.good ⟨a, b, c, p, m⟩ = M.validMeta (M.bs m) by simp only [V.good, V.pOk, V.mOk, hp2, hm2, Bool.true_or, Bool.false_or, Bool.true_and])
      clear hp2 hm2
      rw [HR.out, hvm]
      clear hvm
      go_enter Tryd.func19, Tryd.ntmps19
      go_wp2_with (go_at_call 35; (with_reducible refine (validMeta_is _ _ _ h2 HV).mono ?_); rintro e w1 ⟨rfl, hb⟩; have HB1 := Lib.hid hb; clear hb)
      go_ret
      exact ⟨rfl, below_boxed HB1.out⟩
  · cases hv : M.validPre (M.bs p)
    · have HV := Lib.hid hv
      have HR := Lib.hid (show V.good ⟨a, b, c, p, m⟩ = false by simp only [V.good, V.pOk, M.goodPre, hp2, hv, Bool.false_or, Bool.false_and])
      clear hp2 hm2 hv
      rw [HR.out]
      go_enter Tryd.func19, Tryd.ntmps19
      go_wp2_with (go_at_call 33; (with_reducible refine (validPre_is _ _ _ h1 HV).mono ?_); rintro e w1 ⟨rfl, hb⟩; have HB1 := Lib.hid hb; obtain ⟨k0, k1, k2, k3, k4⟩ := box_after ⟨a, b, c, p, m⟩ hb; clear hb k0 k1 k2)
      go_ret
      exact ⟨rfl, below_boxed HB1.out⟩
    cases hs : M.smallPre (M.bs p)
    · have HV := Lib.hid hv
      have HS := Lib.hid hs
      have HR := Lib.hid (show V.good ⟨a, b, c, p, m⟩ = false by simp only [V.good, V.pOk, M.goodPre, hp2, hv, hs, Bool.false_or, Bool.false_and, Bool.and_false])
      clear hp2 hm2 hv hs
      rw [HR.out]
      go_enter Tryd.func19, Tryd.ntmps19
      go_wp2_with (first
        | (go_at_call 33; (with_reducible refine (validPre_is _ _ _ h1 HV).mono ?_); rintro e w1 ⟨rfl, hb⟩; have HB1 := Lib.hid hb; obtain ⟨k0, k1, k2, k3, k4⟩ := box_after ⟨a, b, c, p, m⟩ hb; clear hb k0 k1 k2)
        | (go_at_call 34; (with_reducible refine (smallPre_is _ _ _ h1 HS).mono ?_); rintro e w2 ⟨rfl, hb⟩; have HB2 := Lib.hid (HB1.out.trans (hb.mono HB1.out.size)); clear k3 k4; obtain ⟨k0, k1, k2, k3, k4⟩ := box_after ⟨a, b, c, p, m⟩ HB2.out; clear hb k0 k1 k2))
      go_ret
      exact ⟨rfl, below_boxed HB2.out⟩
    · have HV := Lib.hid hv
      have HS := Lib.hid hs
      have HR := Lib.hid (show V.good ⟨a, b, c, p, m⟩ = true by simp only [V.good, V.pOk, V.mOk, M.goodPre, hp2, hm2, hv, hs, Bool.false_or, Bool.true_or, Bool.and_self])
      clear hp2 hm2 hv hs
      rw [HR.out]
      go_enter Tryd.func19, Tryd.ntmps19
      go_wp2_with (first
        | (go_at_call 33; (with_reducible refine (validPre_is _ _ _ h1 HV).mono ?_); rintro e w1 ⟨rfl, hb⟩; have HB1 := Lib.hid hb; obtain ⟨k0, k1, k2, k3, k4⟩ := box_after ⟨a, b, c, p, m⟩ hb; clear hb k0 k1 k2)
        | (go_at_call 34; (with_reducible refine (smallPre_is _ _ _ h1 HS).mono ?_); rintro e w2 ⟨rfl, hb⟩; have HB2 := Lib.hid (HB1.out.trans (hb.mono HB1.out.size)); clear k3 k4; obtain ⟨k0, k1, k2, k3, k4⟩ := box_after ⟨a, b, c, p, m⟩ HB2.out; clear hb k0 k1 k2))
      go_ret
      exact ⟨rfl, below_boxed HB2.out⟩
  · cases hv : M.validPre (M.bs p)
    · have HV := Lib.hid hv
      have HR := Lib.hid (show V.good ⟨a, b, c, p, m⟩ = false by simp only [V.good, V.pOk, M.goodPre, hp2, hv, Bool.false_or, Bool.false_and])
      clear hp2 hm2 hv
      rw [HR.out]
      go_enter Tryd.func19, Tryd.ntmps19
      go_wp2_with (go_at_call 33; (with_reducible refine (validPre_is _ _ _ h1 HV).mono ?_); rintro e w1 ⟨rfl, hb⟩; have HB1 := Lib.hid hb; obtain ⟨k0, k1, k2, k3, k4⟩ := box_after ⟨a, b, c, p, m⟩ hb; clear hb k0 k1 k2)
      go_ret
      exact ⟨rfl, below_boxed HB1.out⟩
    cases hs : M.smallPre (M.bs p)
    · have HV := Lib.hid hv
      have HS := Lib.hid hs
      have HR := Lib.hid (show V.good ⟨a, b, c, p, m⟩ = false by simp only [V.good, V.pOk, M.goodPre, hp2, hv, hs, Bool.false_or, Bool.false_and, Bool.and_false])
      clear hp2 hm2 hv hs
      rw [HR.out]
      go_enter Tryd.func19, Tryd.ntmps19
      go_wp2_with (first
        | (go_at_call 33; (with_reducible refine (validPre_is _ _ _ h1 HV).mono ?_); rintro e w1 ⟨rfl, hb⟩; have HB1 := Lib.hid hb; obtain ⟨k0, k1, k2, k3, k4⟩ := box_after ⟨a, b, c, p, m⟩ hb; clear hb k0 k1 k2)
        | (go_at_call 34; (with_reducible refine (smallPre_is _ _ _ h1 HS).mono ?_); rintro e w2 ⟨rfl, hb⟩; have HB2 := Lib.hid (HB1.out.trans (hb.mono HB1.out.size)); clear k3 k4; obtain ⟨k0, k1, k2, k3, k4⟩ := box_after ⟨a, b, c, p, m⟩ HB2.out; clear hb k0 k1 k2))
      go_ret
      exact ⟨rfl, below_boxed HB2.out⟩
    cases hvm : M.validMeta (M.bs m)
    all_goals
      have HV := Lib.hid hv
      have HS := Lib.hid hs
      have HM := Lib.hid hvm
      have HR := Lib.hid (show V.good ⟨a, b, c, p, m⟩ = M.validMeta (M.bs m) by simp only [V.good, V.pOk, V.mOk, M.goodPre, hp2, hm2, hv, hs, Bool.false_or, Bool.true_and, Bool.and_self])
      rw [HR.out, hvm]
      clear hp2 hm2 hv hs hvm
      go_enter Tryd.func19, Tryd.ntmps19
      go_wp2_with (first
        | (go_at_call 33; (with_reducible refine (validPre_is _ _ _ h1 HV).mono ?_); rintro e w1 ⟨rfl, hb⟩; have HB1 := Lib.hid hb; obtain ⟨k0, k1, k2, k3, k4⟩ := box_after ⟨a, b, c, p, m⟩ hb; clear hb k0 k1 k2)
        | (go_at_call 34; (with_reducible refine (smallPre_is _ _ _ h1 HS).mono ?_); rintro e w2 ⟨rfl, hb⟩; have HB2 := Lib.hid (HB1.out.trans (hb.mono HB1.out.size)); clear k3 k4; obtain ⟨k0, k1, k2, k3, k4⟩ := box_after ⟨a, b, c, p, m⟩ HB2.out; clear hb k0 k1 k2)
        | (go_at_call 35; (with_reducible refine (validMeta_is _ _ _ h2 HM).mono ?_); rintro e w3 ⟨rfl, hb⟩; have HB3 := Lib.hid (HB2.out.trans (hb.mono HB2.out.size)); clear hb))
      go_ret
      exact ⟨rfl, below_boxed HB3.out⟩
end Go.Proofs.YtnkdpgcfaelpkaaDoor

/-
  laws.svGood: over a slice of versions.
-/
namespace Go.Proofs.YtnkdpgcfaelpkaaDoor
open Go.RowKit
set_option maxRecDepth 100000

/-- slice v reads as the versions L -/
def ReadV (w : World) (v : Value) (L : List V) : Prop :=
  ∃ A cap, v = .slice A L.length cap ∧ ∀ i (_ : i < L.length), ∃ b o, A = some ⟨b, o, none⟩ ∧ b < w.heap.size ∧
    w.cell? ⟨b, o + i * 5, none⟩ = some (.int .u64 L[i].a) ∧ w.cell? ⟨b, o + i * 5 + 1, none⟩ = some (.int .u64 L[i].b) ∧ w.cell? ⟨b, o + i * 5 + 2, none⟩ = some (.int .u64 L[i].c) ∧
    w.cell? ⟨b, o + i * 5 + 3, none⟩ = some (.string L[i].p) ∧ w.cell? ⟨b, o + i * 5 + 4, none⟩ = some (.string L[i].m)

theorem ReadS.two (w : World) (t : TypeId) (a b : ByteArray) : ReadS (w.alloc (.cells #[.string a, .string b] t)) (.slice (some ⟨w.heap.size, 0, none⟩) 2 2) [a, b] := by
  refine ⟨some ⟨w.heap.size, 0, none⟩, 2, rfl, fun i hi => ⟨w.heap.size, 0, rfl, by simp, ?_⟩⟩
  have hi3 : i < 2 := hi
  obtain rfl | rfl : i = 0 ∨ i = 1 := by omega
  all_goals go_simp
theorem svShort_two (w : World) (t : TypeId) (a b : ByteArray) (ha : a.size ≤ 140737488351232) (hb : b.size ≤ 140737488351232) :
    Calls Tryd.prog 29 #[.slice (some ⟨w.heap.size, 0, none⟩) 2 2] (w.alloc (.cells #[.string a, .string b] t)) fun e w' => e = .returned (.bool (decide (a.size ≤ 65536) && decide (b.size ≤ 65536))) ∧ w' = w.alloc (.cells #[.string a, .string b] t) := by
  have := svShort_any _ [a, b] _ (ReadS.two w t a b) (by simp) (by simp [ha, hb])
  simpa using this

theorem svShort_two_at (n : Nat) (w : World) (t : TypeId) (a b : ByteArray) (hn : n = w.heap.size) (ha : a.size ≤ 140737488351232) (hb : b.size ≤ 140737488351232) :
    Calls Tryd.prog 29 #[.slice (some ⟨n, 0, none⟩) 2 2] (w.alloc (.cells #[.string a, .string b] t)) fun e w' => e = .returned (.bool (decide (a.size ≤ 65536) && decide (b.size ≤ 65536))) ∧ w' = w.alloc (.cells #[.string a, .string b] t) := by
  subst hn
  exact svShort_two w t a b ha hb

theorem Below.up {w X w2 : World} (h1 : Below w.heap.size w X) (h2 : Below X.heap.size X w2) : Below w.heap.size w w2 := h1.trans (h2.mono h1.size)

def V.short (x : V) : Bool := decide (x.p.size ≤ 65536) && decide (x.m.size ≤ 65536)
def V.law (x : V) : Bool := x.short && x.good

set_option maxHeartbeats 1000000 in
theorem svGood_big (v : Value) (L : List V) (w : World) (hr : ReadV w v L) (hl : L.length ≤ 1099511627776) (hz : ∀ x ∈ L, x.p.size ≤ 140737488351232 ∧ x.m.size ≤ 140737488351232) :
    Calls Tryd.prog 14 #[v] w fun e w' => e = .returned (.bool (L.all V.law)) ∧ Below w.heap.size w w' := by
  obtain ⟨A, cap, rfl, hcell⟩ := hr
  have HC := Lib.hid hcell
  have HZ := Lib.hid hz
  clear hcell hz
  go_enter Tryd.func14, Tryd.ntmps14
  go_wp2
  go_loopw [7] (fun i wr => ∃ k : Nat, k ≤ L.length ∧ i = .int .i64 k ∧ Hid ((L.take k).all V.law = true) ∧ Hid (Below w.heap.size w wr)) (fun i _ => L.length - (intOf i).toNat)
  case atStart => exact ⟨0, Nat.zero_le _, rfl, Lib.hid (by simp), Lib.hid (Below.refl _ _)⟩
  case round =>
    obtain ⟨k, hk, rfl, ha, HR⟩ := hrel
    by_cases hlt : k < L.length
    · obtain ⟨b, o, rfl, hbl, q0, q1, q2, q3, q4⟩ := HC.out k hlt
      have c0 : wr.cell? ⟨b, o + k * 5, none⟩ = _ := (HR.out.cell (p := ⟨b, o + k * 5, none⟩) hbl).trans q0
      have c1 : wr.cell? ⟨b, o + k * 5 + 1, none⟩ = _ := (HR.out.cell (p := ⟨b, o + k * 5 + 1, none⟩) hbl).trans q1
      have c2 : wr.cell? ⟨b, o + k * 5 + 2, none⟩ = _ := (HR.out.cell (p := ⟨b, o + k * 5 + 2, none⟩) hbl).trans q2
      have c3 : wr.cell? ⟨b, o + k * 5 + 3, none⟩ = _ := (HR.out.cell (p := ⟨b, o + k * 5 + 3, none⟩) hbl).trans q3
      have c4 : wr.cell? ⟨b, o + k * 5 + 4, none⟩ = _ := (HR.out.cell (p := ⟨b, o + k * 5 + 4, none⟩) hbl).trans q4
      clear q0 q1 q2 q3 q4 hbl
      have hsz := HZ.out L[k] (List.getElem_mem hlt)
      have hz1 : L[k].p.size ≤ 140737488351232 := by omega
      have hz2 : L[k].m.size ≤ 140737488351232 := by omega
      have ZL := Lib.hid hsz
      clear hsz
      go_wp2_with (first
        | (go_at_call 29; refine (svShort_two_at _ _ _ _ _ (by simp) hz1 hz2).mono ?_; rintro e w1 ⟨rfl, rfl⟩)
        | (go_at_call 19; refine (good_any L[k] _ (by have h9 : L[k].p.size ≤ 65536 ∧ L[k].m.size ≤ 65536 := (by assumption); omega) (by have h9 : L[k].p.size ≤ 65536 ∧ L[k].m.size ≤ 65536 := (by assumption); omega)).mono ?_; rintro e w2 ⟨rfl, hb⟩; have HB1 := Lib.hid hb; clear hb))
      all_goals go_ways
      · have h1 : (!L[k].good) = true := by assumption
        rw [Bool.not_eq_true'] at h1
        go_ret
        refine ⟨ret_bool ?_, Below.up HR.out (Below.up ?_ HB1.out)⟩
        · rw [listAll_false _ L k hlt (by rw [V.law, h1, Bool.and_false])]
        · (repeat (first | exact Below.refl _ _ | apply Below.drew | (apply below_alloc_on (Nat.le_refl _))))
      · have h1 : (!L[k].good) = false := by assumption
        have h2 : L[k].p.size ≤ 65536 ∧ L[k].m.size ≤ 65536 := by assumption
        rw [Bool.not_eq_false'] at h1
        have HV := Lib.hid (show V.law L[k] = true by rw [V.law, V.short, h1, decide_eq_true h2.1, decide_eq_true h2.2]; rfl)
        clear h1 h2
        go_roundw
        case rel => exact ⟨k + 1, hlt, by go_num, Lib.hid (listAll_take _ L k hlt ha.out HV.out), Lib.hid (Below.up HR.out (Below.up (by (repeat (first | exact Below.refl _ _ | apply Below.drew | (apply below_alloc_on (Nat.le_refl _))))) HB1.out))⟩
        case measure => simp [intOf]; omega
      · have h1 : ¬(L[k].p.size ≤ 65536 ∧ L[k].m.size ≤ 65536) := by assumption
        go_ret
        refine ⟨ret_bool ?_, Below.up HR.out ?_⟩
        · rw [listAll_false _ L k hlt]
          rw [V.law, V.short]
          rw [Classical.not_and_iff_not_or_not] at h1
          rcases h1 with h | h <;> simp [h]
        · (repeat (first | exact Below.refl _ _ | apply Below.drew | (apply below_alloc_on (Nat.le_refl _))))
    · have HK := Lib.hid (show k = L.length by omega)
      go_wp2
      go_ret
      refine ⟨ret_bool ?_, HR.out⟩
      have h1 := ha.out
      rw [HK.out, List.take_length] at h1
      exact h1.symm
theorem svGood_any (v : Value) (L : List V) (w : World) (hr : ReadV w v L) (hl : L.length ≤ 1099511627776) (hz : ∀ x ∈ L, x.p.size ≤ 2147483647 ∧ x.m.size ≤ 2147483647) :
    Calls Tryd.prog 14 #[v] w fun e w' => e = .returned (.bool (L.all V.law)) ∧ Below w.heap.size w w' :=
  svGood_big v L w hr hl fun x hx => ⟨by have := (hz x hx).1; omega, by have := (hz x hx).2; omega⟩
end Go.Proofs.YtnkdpgcfaelpkaaDoor

/-
  A version's printed form: (Version).String; SetMetadata.
-/
namespace Go.Proofs.YtnkdpgcfaelpkaaDoor
open Go.RowKit
set_option maxRecDepth 100000

def dec (n : Nat) : ByteArray := ⟨(Lib.decDigits n).toArray⟩
/-- the three numbers as text -/
def V.nums (x : V) : ByteArray := dec x.a ++ ⟨#[46]⟩ ++ dec x.b ++ ⟨#[46]⟩ ++ dec x.c
def V.text (x : V) : ByteArray :=
  let t := if x.p.toList.isEmpty then x.nums else x.nums ++ (⟨#[45]⟩ ++ x.p)
  if x.m.toList.isEmpty then t else t ++ (⟨#[43]⟩ ++ x.m)

theorem rc_after (x : V) (o : ByteArray) {w w1 : World} (h : Below (w.alloc (x.cells o)).heap.size (w.alloc (x.cells o)) w1) : AtV w1 w.heap.size x o := by
  unfold AtV
  rw [h.block _ (by simp)]
  exact alloc_at _ _ _ rfl

/-- a record's numbers are uint64 -/
def V.u64 (x : V) : Prop := x.a < 18446744073709551616 ∧ x.b < 18446744073709551616 ∧ x.c < 18446744073709551616

theorem dec_size {n : Nat} (h : n < 18446744073709551616) : (dec n).size ≤ 20 := by
  show (Lib.decDigits n).toArray.size ≤ 20
  rw [List.size_toArray, Lib.decDigits_length]
  rcases Nat.eq_zero_or_pos n with rfl | hn
  · rw [Lib.nDigits]; simp
  · have := Lib.numDigits_eq n hn h
    split at this <;> omega
theorem formatUint_dec (u : Nat) (w : World) (hu : u < 18446744073709551616) (htab : Pow10 w) :
    Calls Tryd.prog 53 #[.int .u64 u, .int .i64 10] w fun e w' => e = .returned (.string (dec u)) ∧ Below w.heap.size w w' := formatUint_any u w hu htab

theorem add_ok {a b : ByteArray} (h : a.size + b.size ≤ 9223372036854775807) : ∀ w : World, (Op.stringOp .add a b).run Tryd.prog w = .ok (.string (a ++ b)) w := fun w => run_string_add_sum w a b h

theorem Pow10.drew {w : World} (h : Pow10 w) : Pow10 w.drew := h.below (Below.refl _ _).drew

set_option maxHeartbeats 2000000 in
theorem string_any (x : V) (o : ByteArray) (w : World) (hu : x.u64) (ht : Pow10 w) (hp1 : x.p.size ≤ 2147483647) (hm1 : x.m.size ≤ 2147483647) :
    Calls Tryd.prog 38 #[x.rc o] w fun e w' => e = .returned (.string x.text) ∧ Below w.heap.size w w' := by
  have HUa := Lib.hid hu.1
  have HUb := Lib.hid hu.2.1
  have HUc := Lib.hid hu.2.2
  have HT := Lib.hid (ht.below (below_alloc w (x.cells o)))
  have HC := Lib.hid (fun w1 (h : Below (w.alloc (x.cells o)).heap.size (w.alloc (x.cells o)) w1) => (rc_after x o h).cells)
  have h0 := (rc_after x o (Below.refl _ (w.alloc (x.cells o)))).cells
  have da := dec_size hu.1
  have db := dec_size hu.2.1
  have dc := dec_size hu.2.2
  clear hu ht
  have s1 : (⟨#[46]⟩ : ByteArray).size = 1 := rfl
  have s2 : (⟨#[45]⟩ : ByteArray).size = 1 := rfl
  have s3 : (⟨#[43]⟩ : ByteArray).size = 1 := rfl
  have e1 := add_ok (a := dec x.a) (b := ⟨#[46]⟩) (by omega)
  have e2 := add_ok (a := dec x.a ++ ⟨#[46]⟩) (b := dec x.b) (by rw [ByteArray.size_append]; omega)
  have e3 := add_ok (a := dec x.a ++ ⟨#[46]⟩ ++ dec x.b) (b := ⟨#[46]⟩) (by rw [ByteArray.size_append, ByteArray.size_append]; omega)
  have e4 := add_ok (a := dec x.a ++ ⟨#[46]⟩ ++ dec x.b ++ ⟨#[46]⟩) (b := dec x.c) (by rw [ByteArray.size_append, ByteArray.size_append, ByteArray.size_append]; omega)
  have hn : x.nums.size ≤ 62 := by unfold V.nums; rw [ByteArray.size_append, ByteArray.size_append, ByteArray.size_append, ByteArray.size_append]; omega
  have e5 := add_ok (a := ⟨#[45]⟩) (b := x.p) (by omega)
  have e6 := add_ok (a := x.nums) (b := ⟨#[45]⟩ ++ x.p) (by rw [ByteArray.size_append]; omega)
  have e7 := add_ok (a := ⟨#[43]⟩) (b := x.m) (by omega)
  have e8 := add_ok (a := x.nums) (b := ⟨#[43]⟩ ++ x.m) (by rw [ByteArray.size_append]; omega)
  have e9 := add_ok (a := x.nums ++ (⟨#[45]⟩ ++ x.p)) (b := ⟨#[43]⟩ ++ x.m) (by rw [ByteArray.size_append, ByteArray.size_append, ByteArray.size_append]; omega)
  clear s1 s2 s3 hn da db dc
  unfold V.nums at e6 e8 e9
  obtain ⟨c0, c1, c2, c3, c4, c5⟩ := h0
  have hv : x.rc o = .agg #[.int .u64 x.a, .int .u64 x.b, .int .u64 x.c, .string x.p, .string x.m, .string o] := rfl
  rw [hv]
  clear hv
  go_enter Tryd.func38, Tryd.ntmps38
  go_wp2_with fail
  go_region_held3 (fun w' => w'.cell? ⟨w.heap.size, 0, none⟩ = some (.int .u64 x.a) ∧ w'.cell? ⟨w.heap.size, 1, none⟩ = some (.int .u64 x.b) ∧ w'.cell? ⟨w.heap.size, 2, none⟩ = some (.int .u64 x.c) ∧
    w'.cell? ⟨w.heap.size, 3, none⟩ = some (.string x.p) ∧ w'.cell? ⟨w.heap.size, 4, none⟩ = some (.string x.m) ∧ w'.cell? ⟨w.heap.size, 5, none⟩ = some (.string o))
    (first | exact HC.out _ (Below.refl _ _).drew | exact HC.out _ (Below.refl _ _) | exact HC.out _ HB1.out | exact HC.out _ HB2.out | exact HC.out _ HB3.out | fail) (first
    | (go_at_call 53; (with_reducible refine (formatUint_dec x.a _ HUa.out ?_).mono ?_); (first | exact HT.out.drew | exact HT.out | fail); rintro e w1 ⟨rfl, hb⟩; have HB1 := Lib.hid (Below.up (w := w.alloc (x.cells o)) (Below.refl _ _).drew hb); clear hb)
    | (go_at_call 53; (with_reducible refine (formatUint_dec x.b _ HUb.out ?_).mono ?_); (first | exact HT.out.below HB1.out | exact (HT.out.below HB1.out).drew | fail); rintro e w2 ⟨rfl, hb⟩; have HB2 := Lib.hid (Below.up HB1.out hb); clear hb)
    | (go_at_call 53; (with_reducible refine (formatUint_dec x.c _ HUc.out ?_).mono ?_); (first | exact HT.out.below HB2.out | exact (HT.out.below HB2.out).drew | fail); rintro e w3 ⟨rfl, hb⟩; have HB3 := Lib.hid (Below.up HB2.out hb); clear hb)
    | fail)
  obtain ⟨k0, k1, k2, k3, k4, k5⟩ := HC.out _ HB3.out
  clear c0 c1 c2 c3 c4 c5
  have HE := Lib.hid (Below.up (below_alloc w (x.cells o)) HB3.out)
  rcases empty_cases x.p with ⟨hp, _⟩ | ⟨hp, _⟩ <;> rcases empty_cases x.m with ⟨hm, _⟩ | ⟨hm, _⟩
  all_goals
    go_wp2
    go_ret
    refine ⟨?_, HE.out⟩
    first
      | (have hx : x.text = x.nums := by unfold V.text; simp only [hp, hm, List.isEmpty_nil, if_true]
         rw [hx]; rfl)
      | (have hx : x.text = x.nums ++ (⟨#[43]⟩ ++ x.m) := by unfold V.text; simp only [hp, hm, List.isEmpty_nil, if_true]; rfl
         rw [hx]; rfl)
      | (have hx : x.text = x.nums ++ (⟨#[45]⟩ ++ x.p) := by unfold V.text; simp only [hp, hm, List.isEmpty_nil, if_true]; rfl
         rw [hx]; rfl)
      | (have hx : x.text = x.nums ++ (⟨#[45]⟩ ++ x.p) ++ (⟨#[43]⟩ ++ x.m) := by unfold V.text; simp only [hp, hm]; rfl
         rw [hx]; rfl)
end Go.Proofs.YtnkdpgcfaelpkaaDoor

/-
  Setting a version's metadata.
-/
namespace Go.Proofs.YtnkdpgcfaelpkaaDoor
open Go.RowKit
set_option maxRecDepth 100000
set_option linter.unusedVariables false

theorem text_size (x : V) (hu : x.u64) : x.text.size ≤ 64 + x.p.size + x.m.size := by
  have da := dec_size hu.1
  have db := dec_size hu.2.1
  have dc := dec_size hu.2.2
  have s1 : (⟨#[46]⟩ : ByteArray).size = 1 := rfl
  have s2 : (⟨#[45]⟩ : ByteArray).size = 1 := rfl
  have s3 : (⟨#[43]⟩ : ByteArray).size = 1 := rfl
  have hn : x.nums.size ≤ 62 := by unfold V.nums; rw [ByteArray.size_append, ByteArray.size_append, ByteArray.size_append, ByteArray.size_append]; omega
  unfold V.text
  by_cases h1 : x.p.toList.isEmpty = true <;> by_cases h2 : x.m.toList.isEmpty = true <;> simp only [h1, h2, if_true, if_false, Bool.false_eq_true, ByteArray.size_append] <;> omega

theorem AtV.loose {w : World} {N : Nat} {x : V} {o : ByteArray} (h : AtV w N x o) (j : Nat) : w.frozen? ⟨N, j, none⟩ = false := by
  unfold AtV V.cells at h
  simp [World.frozen?, h]

theorem AtV.store6 {w : World} {N : Nat} {x : V} {o : ByteArray} (h : AtV w N x o) (y : V) (o' : ByteArray) :
    AtV ((((((w.setCell ⟨N, 0, none⟩ (.int .u64 y.a)).setCell ⟨N, 1, none⟩ (.int .u64 y.b)).setCell ⟨N, 2, none⟩ (.int .u64 y.c)).setCell ⟨N, 3, none⟩ (.string y.p)).setCell ⟨N, 4, none⟩ (.string y.m)).setCell ⟨N, 5, none⟩ (.string o')) N y o' := by
  unfold AtV V.cells at *
  have h0 := heap_setCell_same w N 0 _ _ (.int .u64 y.a) h
  have h1 := heap_setCell_same _ N 1 _ _ (.int .u64 y.b) h0
  have h2 := heap_setCell_same _ N 2 _ _ (.int .u64 y.c) h1
  have h3 := heap_setCell_same _ N 3 _ _ (.string y.p) h2
  have h4 := heap_setCell_same _ N 4 _ _ (.string y.m) h3
  have h5 := heap_setCell_same _ N 5 _ _ (.string o') h4
  simpa using h5
theorem AtV.other {w : World} {N : Nat} {x : V} {o : ByteArray} (h : AtV w N x o) (a : Addr) (v : Value) (hn : N ≠ a.block) : AtV (w.setCell a v) N x o := by
  unfold AtV at *
  rw [heap_setCell_other w a N v hn]
  exact h
theorem results_rec {fn : Func} {p u : Tmp} (h : fn.results = #[.cell p 41, .tmp u]) (tmps : Array Value) (w : World) (N : Nat) (x : V) (o : ByteArray) (v : Value)
    (hp : tmps.getD p undef = .pointer (some ⟨N, 0, none⟩)) (hu : tmps.getD u undef = v) (hat : AtV w N x o) : (results fn tmps).run Tryd.prog w = .ok (.tuple #[x.rc o, v]) w := by
  unfold AtV V.cells at hat
  rw [results_cell_tmp h, hp, hu]
  simp [asAddr, Result.andThen, run_loadVar_row w N _ _ _ _ _ hat Tryd.underlying41 rfl (by kernel_rfl), V.rc]

theorem post_rec {fn : Func} {p u : Tmp} (h : fn.results = #[.cell p 41, .tmp u]) {R : Ending → World → Prop} {a : Act} {w : World} (N : Nat) (x : V) (o : ByteArray) (v : Value) (hd : a.defers = [])
    (hp : a.tmps.getD p undef = .pointer (some ⟨N, 0, none⟩)) (hu : a.tmps.getD u undef = v) (hat : AtV w N x o) (hR : R (.returned (.tuple #[x.rc o, v])) w) : bodyPost Tryd.prog fn R .ret a w :=
  bodyPost_ret (results_rec h _ _ N x o v hp hu hat) hd hR
theorem up_store6 {B N : Nat} {a w : World} (h : Below B a w) (hB : B ≤ N) (v0 v1 v2 v3 v4 v5 : Value) :
    Below B a ((((((w.setCell ⟨N, 0, none⟩ v0).setCell ⟨N, 1, none⟩ v1).setCell ⟨N, 2, none⟩ v2).setCell ⟨N, 3, none⟩ v3).setCell ⟨N, 4, none⟩ v4).setCell ⟨N, 5, none⟩ v5) :=
  (((((h.setCell hB _).setCell hB _).setCell hB _).setCell hB _).setCell hB _).setCell hB _

theorem vPrefix_nil (x : V) (w : World) : Calls Tryd.prog 37 #[x.rc ⟨#[]⟩] w fun e w' => e = .returned (.string ⟨#[]⟩) ∧ Below w.heap.size w w' := by
  obtain ⟨a, b, c, p, m⟩ := x
  unfold V.rc
  simp only
  go_enter Tryd.func37, Tryd.ntmps37
  go_wp2
  go_ret
  exact ⟨rfl, below_alloc _ _⟩
theorem bs_nil {s : ByteArray} (h : s.size = 0) : M.bs s = [] := by
  apply List.eq_nil_of_length_eq_zero
  rw [M.bs_length]; exact h
theorem bs_ne {s : ByteArray} (h : 0 < s.size) : ¬ M.bs s = [] := by
  intro e
  have : (M.bs s).length = 0 := by rw [e]; rfl
  rw [M.bs_length] at this
  omega
theorem AtV.newMeta {w : World} {N : Nat} {x : V} {o s : ByteArray} (h : AtV w N x o) : AtV (w.setCell ⟨N, 4, none⟩ (.string s)) N { x with m := s } o := by
  unfold AtV V.cells at *
  have h0 := heap_setCell_same w N 4 _ _ (.string s) h
  simpa using h0

end Go.Proofs.YtnkdpgcfaelpkaaDoor

/-
  Plain versions in memory; impl.read.
-/
namespace Go.Proofs.YtnkdpgcfaelpkaaDoor
open Go.RowKit
set_option maxRecDepth 100000
set_option linter.unusedVariables false

/-- a plain version's block -/
def V.pc (x : V) : Obj := .cells #[.int .u64 x.a, .int .u64 x.b, .int .u64 x.c, .string x.p, .string x.m] 24
def AtP (w : World) (N : Nat) (x : V) : Prop := w.heap[N]? = some x.pc
def V.zero : V := ⟨0, 0, 0, ⟨#[]⟩, ⟨#[]⟩⟩
theorem AtP.lt {w : World} {N : Nat} {x : V} (h : AtP w N x) : N < w.heap.size := by
  rcases Nat.lt_or_ge N w.heap.size with h' | h'
  · exact h'
  · unfold AtP at h; rw [Array.getElem?_eq_none h'] at h; cases h
theorem AtP.below {w w' : World} {N : Nat} {x : V} (h : AtP w N x) (b : Below w.heap.size w w') : AtP w' N x := by
  unfold AtP
  rw [b.block _ h.lt]
  exact h
theorem AtP.loose {w : World} {N : Nat} {x : V} (h : AtP w N x) (j : Nat) : w.frozen? ⟨N, j, none⟩ = false := by
  unfold AtP V.pc at h
  simp [World.frozen?, h]
theorem AtP.cells {w : World} {N : Nat} {x : V} (h : AtP w N x) :
    w.cell? ⟨N, 0, none⟩ = some (.int .u64 x.a) ∧ w.cell? ⟨N, 1, none⟩ = some (.int .u64 x.b) ∧ w.cell? ⟨N, 2, none⟩ = some (.int .u64 x.c) ∧
    w.cell? ⟨N, 3, none⟩ = some (.string x.p) ∧ w.cell? ⟨N, 4, none⟩ = some (.string x.m) := by
  unfold AtP V.pc at h
  refine ⟨?_, ?_, ?_, ?_, ?_⟩ <;> rw [cell_of_row w N _ _ _ _ h] <;> rfl
theorem AtP.store5 {w : World} {N : Nat} {x : V} (h : AtP w N x) (y : V) :
    AtP (((((w.setCell ⟨N, 0, none⟩ (.int .u64 y.a)).setCell ⟨N, 1, none⟩ (.int .u64 y.b)).setCell ⟨N, 2, none⟩ (.int .u64 y.c)).setCell ⟨N, 3, none⟩ (.string y.p)).setCell ⟨N, 4, none⟩ (.string y.m)) N y := by
  unfold AtP V.pc at *
  have h0 := heap_setCell_same w N 0 _ _ (.int .u64 y.a) h
  have h1 := heap_setCell_same _ N 1 _ _ (.int .u64 y.b) h0
  have h2 := heap_setCell_same _ N 2 _ _ (.int .u64 y.c) h1
  have h3 := heap_setCell_same _ N 3 _ _ (.string y.p) h2
  have h4 := heap_setCell_same _ N 4 _ _ (.string y.m) h3
  simpa using h4
theorem up_store5 {B N : Nat} {a w : World} (h : Below B a w) (hB : B ≤ N) (v0 v1 v2 v3 v4 : Value) :
    Below B a (((((w.setCell ⟨N, 0, none⟩ v0).setCell ⟨N, 1, none⟩ v1).setCell ⟨N, 2, none⟩ v2).setCell ⟨N, 3, none⟩ v3).setCell ⟨N, 4, none⟩ v4) :=
  ((((h.setCell hB _).setCell hB _).setCell hB _).setCell hB _).setCell hB _
theorem results_ver {fn : Func} {p u : Tmp} (h : fn.results = #[.cell p 24, .tmp u]) (tmps : Array Value) (w : World) (N : Nat) (x : V) (v : Value)
    (hp : tmps.getD p undef = .pointer (some ⟨N, 0, none⟩)) (hu : tmps.getD u undef = v) (hat : AtP w N x) : (results fn tmps).run Tryd.prog w = .ok (.tuple #[x.v, v]) w := by
  unfold AtP V.pc at hat
  rw [results_cell_tmp h, hp, hu]
  simp [asAddr, Result.andThen, run_loadVar_row w N _ _ _ _ _ hat Tryd.underlying24 rfl (by kernel_rfl), V.v]
theorem post_ver {fn : Func} {p u : Tmp} (h : fn.results = #[.cell p 24, .tmp u]) {R : Ending → World → Prop} {a : Act} {w : World} (N : Nat) (x : V) (v : Value) (hd : a.defers = [])
    (hp : a.tmps.getD p undef = .pointer (some ⟨N, 0, none⟩)) (hu : a.tmps.getD u undef = v) (hat : AtP w N x) (hR : R (.returned (.tuple #[x.v, v])) w) : bodyPost Tryd.prog fn R .ret a w :=
  bodyPost_ret (results_ver h _ _ N x v hp hu hat) hd hR
theorem post_ver1 {fn : Func} {p : Tmp} (h : fn.results = #[.cell p 24]) {R : Ending → World → Prop} {a : Act} {w : World} (N : Nat) (x : V) (hd : a.defers = [])
    (hp : a.tmps.getD p undef = .pointer (some ⟨N, 0, none⟩)) (hat : AtP w N x) (hR : R (.returned x.v) w) : bodyPost Tryd.prog fn R .ret a w :=
  bodyPost_ret (results_cell_row h _ _ N _ _ (0, 0) _ hp hat Tryd.underlying24 rfl (by kernel_rfl)) hd hR

end Go.Proofs.YtnkdpgcfaelpkaaDoor

/-
  The order of versions: plain, and (*Version).Compare and what stands on it.
-/
namespace Go.Proofs.YtnkdpgcfaelpkaaDoor
open Go.RowKit
set_option maxRecDepth 100000
set_option linter.unusedVariables false

namespace M
def seg (a b : Nat) : Int := if a < b then -1 else if b < a then 1 else 0
def preCmp (p q : Bs) : Int := if p = [] then (if q = [] then 0 else 1) else if q = [] then -1 else cmpPre p q
end M
def V.nums3 (x y : V) : Int := if M.seg x.a y.a ≠ 0 then M.seg x.a y.a else if M.seg x.b y.b ≠ 0 then M.seg x.b y.b else M.seg x.c y.c
/-- by clause 11 -/
def V.cmp (x y : V) : Int := if x.nums3 y ≠ 0 then x.nums3 y else M.preCmp (M.bs x.p) (M.bs y.p)
/-- a prerelease that Compare is asked of: none, or a good one -/
def V.pGood (x : V) : Prop := M.bs x.p = [] ∨ M.goodPre (M.bs x.p) = true

theorem compareSegment_is (a b : Nat) (r : Int) (w : World) (hr : Hid (M.seg a b = r)) :
    Calls Tryd.prog 77 #[.int .u64 a, .int .u64 b] w fun e w' => e = .returned (.int .i64 r) ∧ w' = w := by
  obtain rfl := hr.out
  clear hr
  rcases Nat.lt_trichotomy a b with h | h | h
  · rw [show M.seg a b = -1 by unfold M.seg; rw [if_pos h]]
    have h' : (a : Int) < b := by omega
    go_enter Tryd.func77, Tryd.ntmps77
    go_wp2
    go_ret
    exact ⟨rfl, rfl⟩
  · rw [show M.seg a b = 0 by unfold M.seg; rw [if_neg (by omega), if_neg (by omega)]]
    subst h
    go_enter Tryd.func77, Tryd.ntmps77
    go_wp2
    go_ret
    exact ⟨rfl, rfl⟩
  · rw [show M.seg a b = 1 by unfold M.seg; rw [if_neg (by omega), if_pos h]]
    have h' : ¬ (a : Int) < b := by omega
    have h'' : (b : Int) < a := by omega
    go_enter Tryd.func77, Tryd.ntmps77
    go_wp2
    go_ret
    exact ⟨rfl, rfl⟩

set_option maxHeartbeats 4000000 in
theorem compare_a (x y : V) (o o' : ByteArray) (N K : Nat) (w : World) (hx : AtV w N x o) (hy : AtV w K y o') (r : Int) (hr : Hid (M.seg x.a y.a = r)) (h0 : ¬ r = 0) :
    Calls Tryd.prog 69 #[.pointer (some ⟨N, 0, none⟩), .pointer (some ⟨K, 0, none⟩)] w fun e w' => e = .returned (.int .i64 r) ∧ Below w.heap.size w w' := by
  obtain ⟨c0, c1, c2, c3, c4, c5⟩ := hx.cells
  obtain ⟨d0, d1, d2, d3, d4, d5⟩ := hy.cells
  clear hx hy
  go_enter Tryd.func69, Tryd.ntmps69
  go_wp2_with fail
  go_region_held3 (fun w' => w'.cell? ⟨N, 0, none⟩ = some (.int .u64 x.a) ∧ w'.cell? ⟨N, 1, none⟩ = some (.int .u64 x.b) ∧ w'.cell? ⟨N, 2, none⟩ = some (.int .u64 x.c) ∧
    w'.cell? ⟨N, 3, none⟩ = some (.string x.p) ∧ w'.cell? ⟨N, 4, none⟩ = some (.string x.m) ∧ w'.cell? ⟨N, 5, none⟩ = some (.string o) ∧
    w'.cell? ⟨K, 0, none⟩ = some (.int .u64 y.a) ∧ w'.cell? ⟨K, 1, none⟩ = some (.int .u64 y.b) ∧ w'.cell? ⟨K, 2, none⟩ = some (.int .u64 y.c) ∧
    w'.cell? ⟨K, 3, none⟩ = some (.string y.p) ∧ w'.cell? ⟨K, 4, none⟩ = some (.string y.m) ∧ w'.cell? ⟨K, 5, none⟩ = some (.string o')) (first | (refine ⟨?_, ?_, ?_, ?_, ?_, ?_, ?_, ?_, ?_, ?_, ?_, ?_⟩ <;> (repeat (first | with_reducible assumption | with_reducible apply cell_alloc_some | with_reducible apply cell_drew_some | with_reducible refine cell_below (by with_reducible assumption) ?_ | with_reducible refine cell_set_other (by omega) ?_))) | fail) (first
    | (go_at_call 39; refine (major_any x o _).mono ?_; rintro e w' ⟨rfl, rfl⟩)
    | (go_at_call 39; refine (major_any y o' _).mono ?_; rintro e w' ⟨rfl, rfl⟩)
    | (go_at_call 77; refine (compareSegment_is _ _ _ _ hr).mono ?_; rintro e w' ⟨rfl, rfl⟩)
    | fail)
  go_wp2
  go_ret
  refine ⟨rfl, ?_⟩
  (repeat (first | exact Below.refl _ _ | apply Below.drew | (apply below_alloc_on (Nat.le_refl _))))
set_option maxHeartbeats 4000000 in
theorem compare_b (x y : V) (o o' : ByteArray) (N K : Nat) (w : World) (hx : AtV w N x o) (hy : AtV w K y o') (r : Int) (ha : Hid (M.seg x.a y.a = 0)) (hr : Hid (M.seg x.b y.b = r)) (h0 : ¬ r = 0) :
    Calls Tryd.prog 69 #[.pointer (some ⟨N, 0, none⟩), .pointer (some ⟨K, 0, none⟩)] w fun e w' => e = .returned (.int .i64 r) ∧ Below w.heap.size w w' := by
  obtain ⟨c0, c1, c2, c3, c4, c5⟩ := hx.cells
  obtain ⟨d0, d1, d2, d3, d4, d5⟩ := hy.cells
  clear hx hy
  go_enter Tryd.func69, Tryd.ntmps69
  go_wp2_with fail
  go_region_held3 (fun w' => w'.cell? ⟨N, 0, none⟩ = some (.int .u64 x.a) ∧ w'.cell? ⟨N, 1, none⟩ = some (.int .u64 x.b) ∧ w'.cell? ⟨N, 2, none⟩ = some (.int .u64 x.c) ∧
    w'.cell? ⟨N, 3, none⟩ = some (.string x.p) ∧ w'.cell? ⟨N, 4, none⟩ = some (.string x.m) ∧ w'.cell? ⟨N, 5, none⟩ = some (.string o) ∧
    w'.cell? ⟨K, 0, none⟩ = some (.int .u64 y.a) ∧ w'.cell? ⟨K, 1, none⟩ = some (.int .u64 y.b) ∧ w'.cell? ⟨K, 2, none⟩ = some (.int .u64 y.c) ∧
    w'.cell? ⟨K, 3, none⟩ = some (.string y.p) ∧ w'.cell? ⟨K, 4, none⟩ = some (.string y.m) ∧ w'.cell? ⟨K, 5, none⟩ = some (.string o')) (first | (refine ⟨?_, ?_, ?_, ?_, ?_, ?_, ?_, ?_, ?_, ?_, ?_, ?_⟩ <;> (repeat (first | with_reducible assumption | with_reducible apply cell_alloc_some | with_reducible apply cell_drew_some | with_reducible refine cell_below (by with_reducible assumption) ?_ | with_reducible refine cell_set_other (by omega) ?_))) | fail) (first
    | (go_at_call 39; refine (major_any x o _).mono ?_; rintro e w' ⟨rfl, rfl⟩)
    | (go_at_call 39; refine (major_any y o' _).mono ?_; rintro e w' ⟨rfl, rfl⟩)
    | (go_at_call 77; refine (compareSegment_is _ _ _ _ ha).mono ?_; rintro e w' ⟨rfl, rfl⟩)
    | fail)
  go_wp2_with fail
  go_region_held3 (fun w' => w'.cell? ⟨N, 0, none⟩ = some (.int .u64 x.a) ∧ w'.cell? ⟨N, 1, none⟩ = some (.int .u64 x.b) ∧ w'.cell? ⟨N, 2, none⟩ = some (.int .u64 x.c) ∧
    w'.cell? ⟨N, 3, none⟩ = some (.string x.p) ∧ w'.cell? ⟨N, 4, none⟩ = some (.string x.m) ∧ w'.cell? ⟨N, 5, none⟩ = some (.string o) ∧
    w'.cell? ⟨K, 0, none⟩ = some (.int .u64 y.a) ∧ w'.cell? ⟨K, 1, none⟩ = some (.int .u64 y.b) ∧ w'.cell? ⟨K, 2, none⟩ = some (.int .u64 y.c) ∧
    w'.cell? ⟨K, 3, none⟩ = some (.string y.p) ∧ w'.cell? ⟨K, 4, none⟩ = some (.string y.m) ∧ w'.cell? ⟨K, 5, none⟩ = some (.string o')) (first | (refine ⟨?_, ?_, ?_, ?_, ?_, ?_, ?_, ?_, ?_, ?_, ?_, ?_⟩ <;> (repeat (first | with_reducible assumption | with_reducible apply cell_alloc_some | with_reducible apply cell_drew_some | with_reducible refine cell_below (by with_reducible assumption) ?_ | with_reducible refine cell_set_other (by omega) ?_))) | fail) (first
    | (go_at_call 40; refine (minor_any x o _).mono ?_; rintro e w' ⟨rfl, rfl⟩)
    | (go_at_call 40; refine (minor_any y o' _).mono ?_; rintro e w' ⟨rfl, rfl⟩)
    | (go_at_call 77; refine (compareSegment_is _ _ _ _ hr).mono ?_; rintro e w' ⟨rfl, rfl⟩)
    | fail)
  go_wp2
  go_ret
  refine ⟨rfl, ?_⟩
  (repeat (first | exact Below.refl _ _ | apply Below.drew | (apply below_alloc_on (Nat.le_refl _))))
set_option maxHeartbeats 4000000 in
theorem compare_tail (x y : V) (o o' : ByteArray) (N K : Nat) (w : World) (hx : AtV w N x o) (hy : AtV w K y o') (r : Int) (ha : Hid (M.seg x.a y.a = 0)) (hb : Hid (M.seg x.b y.b = 0)) (hr : Hid (M.seg x.c y.c = r)) (q : Int) (hq : Hid (q = if r ≠ 0 then r else M.preCmp (M.bs x.p) (M.bs y.p))) (gx : Hid x.pGood) (gy : Hid y.pGood) (hn : Hid (NumErrs w)) (zx : x.p.size ≤ 2147483647) (zy : y.p.size ≤ 2147483647) :
    Calls Tryd.prog 69 #[.pointer (some ⟨N, 0, none⟩), .pointer (some ⟨K, 0, none⟩)] w fun e w' => e = .returned (.int .i64 q) ∧ Below w.heap.size w w' := by
  obtain ⟨c0, c1, c2, c3, c4, c5⟩ := hx.cells
  obtain ⟨d0, d1, d2, d3, d4, d5⟩ := hy.cells
  clear hx hy
  go_enter Tryd.func69, Tryd.ntmps69
  go_wp2_with fail
  go_region_held3 (fun w' => w'.cell? ⟨N, 0, none⟩ = some (.int .u64 x.a) ∧ w'.cell? ⟨N, 1, none⟩ = some (.int .u64 x.b) ∧ w'.cell? ⟨N, 2, none⟩ = some (.int .u64 x.c) ∧
    w'.cell? ⟨N, 3, none⟩ = some (.string x.p) ∧ w'.cell? ⟨N, 4, none⟩ = some (.string x.m) ∧ w'.cell? ⟨N, 5, none⟩ = some (.string o) ∧
    w'.cell? ⟨K, 0, none⟩ = some (.int .u64 y.a) ∧ w'.cell? ⟨K, 1, none⟩ = some (.int .u64 y.b) ∧ w'.cell? ⟨K, 2, none⟩ = some (.int .u64 y.c) ∧
    w'.cell? ⟨K, 3, none⟩ = some (.string y.p) ∧ w'.cell? ⟨K, 4, none⟩ = some (.string y.m) ∧ w'.cell? ⟨K, 5, none⟩ = some (.string o')) (first | (refine ⟨?_, ?_, ?_, ?_, ?_, ?_, ?_, ?_, ?_, ?_, ?_, ?_⟩ <;> (repeat (first | with_reducible assumption | with_reducible apply cell_alloc_some | with_reducible apply cell_drew_some | with_reducible refine cell_below (by with_reducible assumption) ?_ | with_reducible refine cell_set_other (by omega) ?_))) | fail) (first
    | (go_at_call 39; refine (major_any x o _).mono ?_; rintro e w' ⟨rfl, rfl⟩)
    | (go_at_call 39; refine (major_any y o' _).mono ?_; rintro e w' ⟨rfl, rfl⟩)
    | (go_at_call 77; refine (compareSegment_is _ _ _ _ ha).mono ?_; rintro e w' ⟨rfl, rfl⟩)
    | fail)
  go_wp2_with fail
  go_region_held3 (fun w' => w'.cell? ⟨N, 0, none⟩ = some (.int .u64 x.a) ∧ w'.cell? ⟨N, 1, none⟩ = some (.int .u64 x.b) ∧ w'.cell? ⟨N, 2, none⟩ = some (.int .u64 x.c) ∧
    w'.cell? ⟨N, 3, none⟩ = some (.string x.p) ∧ w'.cell? ⟨N, 4, none⟩ = some (.string x.m) ∧ w'.cell? ⟨N, 5, none⟩ = some (.string o) ∧
    w'.cell? ⟨K, 0, none⟩ = some (.int .u64 y.a) ∧ w'.cell? ⟨K, 1, none⟩ = some (.int .u64 y.b) ∧ w'.cell? ⟨K, 2, none⟩ = some (.int .u64 y.c) ∧
    w'.cell? ⟨K, 3, none⟩ = some (.string y.p) ∧ w'.cell? ⟨K, 4, none⟩ = some (.string y.m) ∧ w'.cell? ⟨K, 5, none⟩ = some (.string o')) (first | (refine ⟨?_, ?_, ?_, ?_, ?_, ?_, ?_, ?_, ?_, ?_, ?_, ?_⟩ <;> (repeat (first | with_reducible assumption | with_reducible apply cell_alloc_some | with_reducible apply cell_drew_some | with_reducible refine cell_below (by with_reducible assumption) ?_ | with_reducible refine cell_set_other (by omega) ?_))) | fail) (first
    | (go_at_call 40; refine (minor_any x o _).mono ?_; rintro e w' ⟨rfl, rfl⟩)
    | (go_at_call 40; refine (minor_any y o' _).mono ?_; rintro e w' ⟨rfl, rfl⟩)
    | (go_at_call 77; refine (compareSegment_is _ _ _ _ hb).mono ?_; rintro e w' ⟨rfl, rfl⟩)
    | fail)
  go_wp2_with fail
  go_region_held3 (fun w' => w'.cell? ⟨N, 0, none⟩ = some (.int .u64 x.a) ∧ w'.cell? ⟨N, 1, none⟩ = some (.int .u64 x.b) ∧ w'.cell? ⟨N, 2, none⟩ = some (.int .u64 x.c) ∧
    w'.cell? ⟨N, 3, none⟩ = some (.string x.p) ∧ w'.cell? ⟨N, 4, none⟩ = some (.string x.m) ∧ w'.cell? ⟨N, 5, none⟩ = some (.string o) ∧
    w'.cell? ⟨K, 0, none⟩ = some (.int .u64 y.a) ∧ w'.cell? ⟨K, 1, none⟩ = some (.int .u64 y.b) ∧ w'.cell? ⟨K, 2, none⟩ = some (.int .u64 y.c) ∧
    w'.cell? ⟨K, 3, none⟩ = some (.string y.p) ∧ w'.cell? ⟨K, 4, none⟩ = some (.string y.m) ∧ w'.cell? ⟨K, 5, none⟩ = some (.string o')) (first | (refine ⟨?_, ?_, ?_, ?_, ?_, ?_, ?_, ?_, ?_, ?_, ?_, ?_⟩ <;> (repeat (first | with_reducible assumption | with_reducible apply cell_alloc_some | with_reducible apply cell_drew_some | with_reducible refine cell_below (by with_reducible assumption) ?_ | with_reducible refine cell_set_other (by omega) ?_))) | fail) (first
    | (go_at_call 41; refine (patch_any x o _).mono ?_; rintro e w' ⟨rfl, rfl⟩)
    | (go_at_call 41; refine (patch_any y o' _).mono ?_; rintro e w' ⟨rfl, rfl⟩)
    | (go_at_call 77; refine (compareSegment_is _ _ _ _ hr).mono ?_; rintro e w' ⟨rfl, rfl⟩)
    | fail)
  by_cases h0 : r = 0
  · subst h0
    have HX : Hid (M.bs x.p = [] ∨ M.goodPre (M.bs x.p) = true) := gx
    have HY : Hid (M.bs y.p = [] ∨ M.goodPre (M.bs y.p) = true) := gy
    by_cases ex : M.bs x.p = [] <;> by_cases ey : M.bs y.p = []
    · have hq1 : q = 0 := by rw [hq.out, if_neg (by simp), M.preCmp, if_pos ex, if_pos ey]
      have HQ := Lib.hid hq1
      clear hq1
      have e1 : x.p.toList = [] := empty_toList ex
      have e2 : y.p.toList = [] := empty_toList ey
      clear ex ey
      go_wp2_with (go_at_call 42; refine (prerelease_any y o' _).mono ?_; rintro e w' ⟨rfl, rfl⟩)
      go_ret
      refine ⟨ret_int HQ.out.symm, ?_⟩
      (repeat (first | exact Below.refl _ _ | apply Below.drew | (apply below_alloc_on (Nat.le_refl _))))
    · have hq1 : q = 1 := by rw [hq.out, if_neg (by simp), M.preCmp, if_pos ex, if_neg ey]
      have HQ := Lib.hid hq1
      clear hq1
      have e1 : x.p.toList = [] := empty_toList ex
      have e2 : y.p.toList.isEmpty = false := nonempty_toList ey
      clear ex ey
      go_wp2_with (go_at_call 42; refine (prerelease_any y o' _).mono ?_; rintro e w' ⟨rfl, rfl⟩)
      go_ret
      refine ⟨ret_int HQ.out.symm, ?_⟩
      (repeat (first | exact Below.refl _ _ | apply Below.drew | (apply below_alloc_on (Nat.le_refl _))))
    · have hq1 : q = -1 := by rw [hq.out, if_neg (by simp), M.preCmp, if_neg ex, if_pos ey]
      have HQ := Lib.hid hq1
      clear hq1
      have e1 : x.p.toList.isEmpty = false := nonempty_toList ex
      have e2 : y.p.toList = [] := empty_toList ey
      clear ex ey
      go_wp2_with (go_at_call 42; refine (prerelease_any y o' _).mono ?_; rintro e w' ⟨rfl, rfl⟩)
      go_ret
      refine ⟨ret_int HQ.out.symm, ?_⟩
      (repeat (first | exact Below.refl _ _ | apply Below.drew | (apply below_alloc_on (Nat.le_refl _))))
    · have hq1 : q = M.cmpPre (M.bs x.p) (M.bs y.p) := by rw [hq.out, if_neg (by simp), M.preCmp, if_neg ex, if_neg ey]
      have HQ := Lib.hid hq1
      clear hq1
      have e1 : x.p.toList.isEmpty = false := nonempty_toList ex
      have e2 : y.p.toList.isEmpty = false := nonempty_toList ey
      have GX := Lib.hid (HX.out.resolve_left ex)
      have GY := Lib.hid (HY.out.resolve_left ey)
      clear ex ey
      go_wp2_with (first
        | (go_at_call 42; refine (prerelease_any y o' _).mono ?_; rintro e w' ⟨rfl, rfl⟩)
        | (go_at_call 68; refine (comparePrerelease_any x.p y.p _ zx zy (hn.out.below (by (repeat (first | exact Below.refl _ _ | apply Below.drew | (apply below_alloc_on (Nat.le_refl _)))))) GX GY).mono ?_; rintro e w2 ⟨rfl, hb⟩; have HB := Lib.hid (Below.up (w := w) (by (repeat (first | exact Below.refl _ _ | apply Below.drew | (apply below_alloc_on (Nat.le_refl _))))) hb); clear hb))
      go_ret
      exact ⟨ret_int HQ.out.symm, HB.out⟩
  · have HQ := Lib.hid (show q = r by rw [hq.out, if_pos h0])
    go_wp2
    go_ret
    refine ⟨ret_int HQ.out.symm, ?_⟩
    (repeat (first | exact Below.refl _ _ | apply Below.drew | (apply below_alloc_on (Nat.le_refl _))))

theorem compare_any (x y : V) (o o' : ByteArray) (N K : Nat) (w : World) (hx : AtV w N x o) (hy : AtV w K y o') (gx : x.pGood) (gy : y.pGood) (hn : NumErrs w) (zx : x.p.size ≤ 2147483647) (zy : y.p.size ≤ 2147483647) :
    Calls Tryd.prog 69 #[.pointer (some ⟨N, 0, none⟩), .pointer (some ⟨K, 0, none⟩)] w fun e w' => e = .returned (.int .i64 (x.cmp y)) ∧ Below w.heap.size w w' := by
  by_cases ha : M.seg x.a y.a = 0
  · by_cases hb : M.seg x.b y.b = 0
    · have h3 : x.nums3 y = M.seg x.c y.c := by unfold V.nums3; rw [ha, hb]; rfl
      unfold V.cmp
      rw [h3]
      exact compare_tail x y o o' N K w hx hy _ (Lib.hid ha) (Lib.hid hb) (Lib.hid rfl) _ (Lib.hid rfl) (Lib.hid gx) (Lib.hid gy) (Lib.hid hn) zx zy
    · have h3 : x.nums3 y = M.seg x.b y.b := by unfold V.nums3; rw [ha, if_neg (by simp), if_pos hb]
      have hv : x.cmp y = M.seg x.b y.b := by unfold V.cmp; rw [h3, if_pos hb]
      rw [hv]
      exact compare_b x y o o' N K w hx hy _ (Lib.hid ha) (Lib.hid rfl) hb
  · have h3 : x.nums3 y = M.seg x.a y.a := by unfold V.nums3; rw [if_pos ha]
    have hv : x.cmp y = M.seg x.a y.a := by unfold V.cmp; rw [h3, if_pos ha]
    rw [hv]
    exact compare_a x y o o' N K w hx hy _ (Lib.hid rfl) ha
end Go.Proofs.YtnkdpgcfaelpkaaDoor

/-
  LessThan and its kin; the same over plain versions.
-/
namespace Go.Proofs.YtnkdpgcfaelpkaaDoor
open Go.RowKit
set_option maxRecDepth 100000
set_option linter.unusedVariables false

theorem cell_below {w w' : World} {a : Addr} {v : Value} (hb : Below w.heap.size w w') (h : w.cell? a = some v) : w'.cell? a = some v := (hb.cell (Sent.cell_lt h)).trans h
theorem ret_b {a b : Bool} (h : a = b) : Ending.returned (.bool a) = .returned (.bool b) := by rw [h]
theorem version_exact (x : V) (w : World) : Calls Tryd.prog 20 #[x.v] w fun e w' => e = .returned (.pointer (some ⟨w.heap.size + 1, 0, none⟩)) ∧ w' = (w.alloc x.pc).alloc (x.cells ⟨#[]⟩) := by
  obtain ⟨a, b, c, p, m⟩ := x
  unfold V.v
  simp only
  go_enter Tryd.func20, Tryd.ntmps20
  go_wp2_with (go_at_call 36; go_in)
  go_ret
  exact ⟨rfl, rfl⟩
theorem version_x (x : V) (w : World) : Calls Tryd.prog 20 #[.agg #[.int .u64 x.a, .int .u64 x.b, .int .u64 x.c, .string x.p, .string x.m]] w fun e w' => e = .returned (.pointer (some ⟨w.heap.size + 1, 0, none⟩)) ∧ w' = (w.alloc x.pc).alloc (x.cells ⟨#[]⟩) := version_exact x w
theorem lessPtr_any (x y : V) (o o' : ByteArray) (N K : Nat) (w : World) (hx : AtV w N x o) (hy : AtV w K y o') (gx : x.pGood) (gy : y.pGood) (hn : NumErrs w) (zx : x.p.size ≤ 2147483647) (zy : y.p.size ≤ 2147483647) :
    Calls Tryd.prog 70 #[.pointer (some ⟨N, 0, none⟩), .pointer (some ⟨K, 0, none⟩)] w fun e w' => e = .returned (.bool (decide (x.cmp y < 0))) ∧ Below w.heap.size w w' := by
  go_enter Tryd.func70, Tryd.ntmps70
  go_wp2_with (go_at_call 69; refine (compare_any x y o o' N K _ hx hy gx gy hn zx zy).mono ?_; rintro e w1 ⟨rfl, hb⟩; have HB := Lib.hid hb; clear hb)
  go_ret
  exact ⟨ret_b (by simp), HB.out⟩
end Go.Proofs.YtnkdpgcfaelpkaaDoor

/-
  (Version).IncMajor, impl.VersionIncMajor, spec.Plain.
-/
namespace Go.Proofs.YtnkdpgcfaelpkaaDoor
open Go.RowKit
set_option maxRecDepth 100000
set_option linter.unusedVariables false

/-- a version of numbers alone -/
def V.bare (a b c : Nat) : V := ⟨a, b, c, ⟨#[]⟩, ⟨#[]⟩⟩
theorem wrap_u64 {n : Int} (h0 : 0 ≤ n) (h1 : n < 18446744073709551616) : IntKind.u64.wrap n = n := by
  simp only [IntKind.wrap, IntKind.bits, IntKind.signed]
  simp
  omega
theorem post_rec1 {fn : Func} {p : Tmp} (h : fn.results = #[.cell p 41]) {R : Ending → World → Prop} {a : Act} {w : World} (N : Nat) (x : V) (o : ByteArray) (hd : a.defers = [])
    (hp : a.tmps.getD p undef = .pointer (some ⟨N, 0, none⟩)) (hat : AtV w N x o) (hR : R (.returned (x.rc o)) w) : bodyPost Tryd.prog fn R .ret a w :=
  bodyPost_ret (results_cell_row h _ _ N _ _ (0, 0) _ hp hat Tryd.underlying41 rfl (by kernel_rfl)) hd hR

set_option maxHeartbeats 2000000 in
theorem incMajor_any (x : V) (w : World) (hu : x.u64) (hm : x.a < 18446744073709551615) (ht : Pow10 w) :
    Calls Tryd.prog 24 #[x.rc ⟨#[]⟩] w fun e w' => (∃ o, e = .returned (V.rc (V.bare (x.a + 1) 0 0) o)) ∧ Below w.heap.size w w' := by
  have hv1 : x.rc ⟨#[]⟩ = .agg #[.int .u64 x.a, .int .u64 x.b, .int .u64 x.c, .string x.p, .string x.m, .string ⟨#[]⟩] := rfl
  rw [hv1]
  clear hv1
  have HT := Lib.hid ht
  have HU := Lib.hid hu
  have HU1 : Hid (V.u64 (V.bare (x.a + 1) 0 0)) := Lib.hid ⟨by show x.a + 1 < _; omega, by show 0 < _; omega, by show 0 < _; omega⟩
  have hwrap : IntKind.u64.wrap ((x.a : Int) + 1) = ((x.a + 1 : Nat) : Int) := by rw [wrap_u64 (by omega) (by omega)]; omega
  have HWR := Lib.hid hwrap
  clear hwrap
  have hm1 : ¬ (x.a : Int) = 18446744073709551615 := by omega
  have hm2 : (x.a : Int) + 1 < 18446744073709551616 := by omega
  clear ht hu hm hm2
  go_enter Tryd.func24, Tryd.ntmps24
  go_wp2_with fail
  generalize hW : (((w.alloc (Obj.cells #[Value.int IntKind.u64 x.a, Value.int IntKind.u64 x.b, Value.int IntKind.u64 x.c, Value.string x.p, Value.string x.m, Value.string { data := #[] }] 41)).alloc (Obj.cells #[Value.int IntKind.u64 0, Value.int IntKind.u64 0, Value.int IntKind.u64 0, Value.string { data := #[] }, Value.string { data := #[] }, Value.string { data := #[] }] 41)).alloc (Obj.cells #[Value.int IntKind.u64 (IntKind.u64.wrap ((x.a : Int) + 1)), Value.int IntKind.u64 0, Value.int IntKind.u64 0, Value.string { data := #[] }, Value.string { data := #[] }, Value.string { data := #[] }] 41)) = W
  rw [HWR.out] at hW
  have hA : AtV W w.heap.size x ⟨#[]⟩ := by subst hW; exact heap_alloc_some (heap_alloc_some (alloc_at _ _ _ rfl))
  have hB : AtV W (w.heap.size + 1 + 1) (V.bare (x.a + 1) 0 0) ⟨#[]⟩ := by subst hW; exact alloc_at _ _ _ (by simp)
  have hC : AtV W (w.heap.size + 1) ⟨0, 0, 0, ⟨#[]⟩, ⟨#[]⟩⟩ ⟨#[]⟩ := by subst hW; exact heap_alloc_some (alloc_at _ _ _ (by simp))
  have hBW : Below w.heap.size w W := by subst hW; (repeat (first | exact Below.refl _ _ | apply Below.drew | (apply below_alloc_on (Nat.le_refl _))))
  have HA := Lib.hid hA
  have HB := Lib.hid hB
  have HC := Lib.hid hC
  have HW := Lib.hid hBW
  obtain ⟨a0, a1, a2, a3, a4, a5⟩ := hA.cells
  obtain ⟨b0, b1, b2, b3, b4, b5⟩ := hB.cells
  have ht1 := text_size (V.bare (x.a + 1) 0 0) HU1.out
  have e1 := add_ok (a := ⟨#[]⟩) (b := ⟨#[]⟩) (by decide)
  have e2 := add_ok (a := ⟨#[]⟩) (b := V.text (V.bare (x.a + 1) 0 0)) (by have : (⟨#[]⟩ : ByteArray).size = 0 := rfl; simp only [V.bare] at ht1 ⊢; omega)
  have e3 := add_ok (a := ⟨#[]⟩ ++ ⟨#[]⟩) (b := V.text (V.bare (x.a + 1) 0 0)) (by rw [ByteArray.size_append]; have : (⟨#[]⟩ : ByteArray).size = 0 := rfl; simp only [V.bare] at ht1 ⊢; omega)
  clear hA hB hC hBW hW ht1
  go_region_with (first
    | (go_at_call 37; refine (vPrefix_nil x _).mono ?_; rintro e w1 ⟨rfl, hb⟩; have HB1 := Lib.hid (Below.up (w := W) (Below.refl _ _).drew hb); obtain ⟨d0, d1, d2, d3, d4, d5⟩ := (HB.out.below HB1.out).cells; clear hb)
    | (go_at_call 38; refine (string_any (V.bare (x.a + 1) 0 0) _ _ HU1.out (HT.out.below (Below.up HW.out HB1.out)) (by show (0 : Nat) ≤ _; omega) (by show (0 : Nat) ≤ _; omega)).mono ?_; rintro e w2 ⟨rfl, hb⟩; have HB2 := Lib.hid (Below.up HB1.out hb); obtain ⟨f0, f1, f2, f3, f4, f5⟩ := (HB.out.below HB2.out).cells; have hfz := (HB.out.below HB2.out).loose 5; clear hb)
    | fail)
  all_goals
    have hAt := HC.out.below HB2.out
    obtain ⟨g0, g1, g2, g3, g4, g5⟩ := hAt.cells
    have l0 := hAt.loose 0
    have l1 := hAt.loose 1
    have l2 := hAt.loose 2
    have l3 := hAt.loose 3
    have l4 := hAt.loose 4
    have l5 := hAt.loose 5
    have HAt := Lib.hid hAt
    clear hAt
    go_wp2
  all_goals
    refine post_rec1 rfl (w.heap.size + 1) (V.bare (x.a + 1) 0 0) (⟨#[]⟩ ++ ⟨#[]⟩ ++ V.text (V.bare (x.a + 1) 0 0)) rfl rfl ?_ ?_
    · exact AtV.store6 (AtV.other HAt.out _ _ (by simp)) (V.bare (x.a + 1) 0 0) _
    · exact ⟨⟨_, rfl⟩, up_store6 ((Below.up HW.out HB2.out).setCell (Nat.le_succ_of_le (Nat.le_succ _)) _) (Nat.le_succ _) _ _ _ _ _ _⟩

theorem version_at (x : V) (w : World) : Calls Tryd.prog 20 #[.agg #[.int .u64 x.a, .int .u64 x.b, .int .u64 x.c, .string x.p, .string x.m]] w (PtrV w x ⟨#[]⟩) := version_any x w
theorem versionIncMajor_any (x : V) (w : World) (hu : x.u64) (hm : x.a < 18446744073709551615) (ht : Pow10 w) :
    Calls Tryd.prog 10 #[.agg #[.int .u64 x.a, .int .u64 x.b, .int .u64 x.c, .string x.p, .string x.m]] w fun e w' => e = .returned (V.v (V.bare (x.a + 1) 0 0)) ∧ Below w.heap.size w w' := by
  have HT := Lib.hid ht
  have HU := Lib.hid hu
  have HM := Lib.hid hm
  clear ht hu hm
  go_enter Tryd.func10, Tryd.ntmps10
  go_wp2_with (first
    | (go_at_call 20; (with_reducible refine (version_at x _).mono ?_); rintro e w1 ⟨N, rfl, hN, hat, hb⟩; have hz : AtP w1 (w.heap.size + 1) V.zero := AtP.below (alloc_at _ _ _ (by simp)) hb; have hB1 : Below w.heap.size w w1 := Below.up (by (repeat (first | exact Below.refl _ _ | apply Below.drew | (apply below_alloc_on (Nat.le_refl _))))) hb; have hat1 : AtV w1 N x ⟨#[]⟩ := hat; obtain ⟨a0, a1, a2, a3, a4, a5⟩ := hat1.cells; have HZ1 := Lib.hid hz; have HB1 := Lib.hid hB1; clear hz hB1 hb hat hat1 hN)
    | (go_at_call 24; refine (incMajor_any x _ HU.out HM.out (HT.out.below HB1.out)).mono ?_; rintro e w2 ⟨⟨o, rfl⟩, hb⟩; simp only [V.rc, V.bare]; have HZ2 := Lib.hid (HZ1.out.below hb); have HB2 := Lib.hid (Below.up HB1.out hb); clear hb)
    | (go_at_call 22; refine (plainVersion_any (V.bare (x.a + 1) 0 0) o _ _ (alloc_at _ _ _ (by simp))).mono ?_; rintro e w3 ⟨rfl, hb⟩; simp only [V.v, V.bare]; have hz : AtP w3 (w.heap.size + 1) V.zero := AtP.below (heap_alloc_some HZ2.out) hb; have HB3 := Lib.hid (Below.up (Below.up HB2.out (below_alloc _ _)) hb); obtain ⟨g0, g1, g2, g3, g4⟩ := hz.cells; have l0 := hz.loose 0; have l1 := hz.loose 1; have l2 := hz.loose 2; have l3 := hz.loose 3; have l4 := hz.loose 4; have HZ3 := Lib.hid hz; clear hz hb))
  refine post_ver1 rfl (w.heap.size + 1) (V.bare (x.a + 1) 0 0) rfl rfl ?_ ⟨rfl, ?_⟩
  · exact AtP.store5 HZ3.out (V.bare (x.a + 1) 0 0)
  · exact up_store5 HB3.out (Nat.le_succ _) _ _ _ _ _
end Go.Proofs.YtnkdpgcfaelpkaaDoor
