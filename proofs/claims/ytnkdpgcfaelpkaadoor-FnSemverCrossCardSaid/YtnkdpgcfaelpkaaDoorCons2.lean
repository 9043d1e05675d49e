/-
  semver.ZZConstraints: lists of constraints out of lists of terms.
-/
import Derived.Test.YtnkdpgcfaelpkaaDoorTerms
import Derived.Test.YtnkdpgcfaelpkaaDoorOpEq
namespace Go.Proofs.YtnkdpgcfaelpkaaDoor
open Go.RowKit
set_option maxRecDepth 100000
set_option linter.unusedVariables false

/-- a term, its version's block, its record's block -/
abbrev TMK := T × Nat × Nat
def kc (q : TMK) : List Value := [.pointer (some ⟨q.2.2, 0, none⟩)]
def recC (q : TMK) : Obj := .cells #[.pointer (some ⟨q.2.1, 0, none⟩), .string ⟨#[]⟩, .string (opText q.1.op.toNat), .bool q.1.minor, .bool q.1.dirty, .bool q.1.patch] 82
def RecAt (w : World) (q : TMK) : Prop := AtV w q.2.1 q.1.ver ⟨#[]⟩ ∧ w.heap[q.2.2]? = some (recC q)
def RowC (w : World) (base : Nat) (v : Value) (Q : List TMK) : Prop := OwnG w base 75 1 kc v Q ∧ ∀ q ∈ Q, RecAt w q
def rc1 (r : Value × List TMK) : List Value := [r.1]
def RowsC (w : World) (base : Nat) (v : Value) (R : List (Value × List TMK)) : Prop := OwnG w base 74 1 rc1 v R ∧ ∀ r ∈ R, RowC w base r.1 r.2
def bc (b : Bool) : List Value := [.bool b]
/-- has a term of the list a prerelease? -/
def preOf (L : List T) : Bool := L.any fun t => !(M.bs t.p).isEmpty
def Pres (w : World) (base : Nat) (v : Value) (B : List Bool) : Prop := OwnG w base 4 1 bc v B
theorem r1_len (x : Value × List (T × Nat)) : (r1 x).length = 1 := rfl
theorem zc_len (x : T × Nat) : (zc x).length = 5 := rfl
theorem kc_len (x : TMK) : (kc x).length = 1 := rfl
theorem rc1_len (x : Value × List TMK) : (rc1 x).length = 1 := rfl
theorem bc_len (x : Bool) : (bc x).length = 1 := rfl
theorem infoK : (Tryd.prog.info? 75).map (fun i => (i.zero, i.size, i.bytes)) = some (some (.pointer none), 1, 8) := by kernel_rfl
theorem infoKr : (Tryd.prog.info? 74).map (fun i => (i.zero, i.size, i.bytes)) = some (some (.slice none 0 0), 1, 24) := by kernel_rfl
theorem infoB : (Tryd.prog.info? 4).map (fun i => (i.zero, i.size, i.bytes)) = some (some (.bool false), 1, 1) := by kernel_rfl
theorem RecAt.below {w w' : World} {q : TMK} (h : RecAt w q) (b : Below w.heap.size w w') : RecAt w' q := ⟨h.1.below b, blk_below b h.2⟩
theorem RecAt.grown {w w' : World} {q : TMK} {row : Option Nat} (h : RecAt w q) (hg : w.grownBy w' row) (h1 : some q.2.1 ≠ row) (h2 : some q.2.2 ≠ row) : RecAt w' q :=
  ⟨h.1.grown hg h1, (hg.block q.2.2 (Array.getElem?_eq_some_iff.1 h.2).1 h2).trans h.2⟩
theorem RowC.below {w w' : World} {base : Nat} {v : Value} {Q : List TMK} (h : RowC w base v Q) (b : Below w.heap.size w w') : RowC w' base v Q := ⟨h.1.kept b, fun q hq => (h.2 q hq).below b⟩
theorem RowsC.below {w w' : World} {base : Nat} {v : Value} {R : List (Value × List TMK)} (h : RowsC w base v R) (b : Below w.heap.size w w') : RowsC w' base v R := ⟨h.1.kept b, fun r hr => (h.2 r hr).below b⟩
theorem RowC.lower {w : World} {base base' : Nat} {v : Value} {Q : List TMK} (h : RowC w base v Q) (hb : base' ≤ base) : RowC w base' v Q := ⟨h.1.lower hb, h.2⟩
theorem RowC.snoc {w w' : World} {base : Nat} {v v' : Value} {Q : List TMK} {q : TMK} (h : RowC w base v Q) (hq : RecAt w q)
    (h' : OwnG w' base 75 1 kc v' (Q ++ [q])) (hg : w.grownBy w' v.ownBlock) : RowC w' base v' (Q ++ [q]) := by
  refine ⟨h', fun p hp => ?_⟩
  have hp' : RecAt w p := by
    rcases List.mem_append.1 hp with hp | hp
    · exact h.2 p hp
    · obtain rfl := List.mem_singleton.1 hp
      exact hq
  exact hp'.grown hg (h.1.ne_blk hp'.1 (by decide)) (h.1.ne_blk hp'.2 (by decide))
/-- what stands beside a row that grows: rows and records of other types -/
theorem RowC.beside {α : Type} {w w' : World} {base base' e s : Nat} {f : α → List Value} {v u : Value} {Q : List TMK} {ls : List α} (h : RowC w base v Q) (h' : OwnG w base' e s f u ls) (hg : w.grownBy w' u.ownBlock) (h1 : e ≠ 75) (h2 : e ≠ 41) (h3 : e ≠ 82) : RowC w' base v Q :=
  ⟨h.1.grown hg (h.1.ne h' (Ne.symm h1)), fun q hq => (h.2 q hq).grown hg (h'.ne_blk (h.2 q hq).1 h2) (h'.ne_blk (h.2 q hq).2 h3)⟩
theorem RowsC.snoc {w w' : World} {base : Nat} {v v' : Value} {R : List (Value × List TMK)} {r : Value × List TMK} (h : RowsC w base v R) (hr : RowC w base r.1 r.2)
    (h' : OwnG w' base 74 1 rc1 v' (R ++ [r])) (hg : w.grownBy w' v.ownBlock) : RowsC w' base v' (R ++ [r]) := by
  refine ⟨h', fun q hq => ?_⟩
  have hq' : RowC w base q.1 q.2 := by
    rcases List.mem_append.1 hq with hq | hq
    · exact h.2 q hq
    · obtain rfl := List.mem_singleton.1 hq
      exact hr
  exact hq'.beside h.1 hg (by decide) (by decide) (by decide)
theorem RowsC.beside {α : Type} {w w' : World} {base base' e s : Nat} {f : α → List Value} {v u : Value} {R : List (Value × List TMK)} {ls : List α} (h : RowsC w base v R) (h' : OwnG w base' e s f u ls) (hg : w.grownBy w' u.ownBlock) (h0 : e ≠ 74) (h1 : e ≠ 75) (h2 : e ≠ 41) (h3 : e ≠ 82) : RowsC w' base v R :=
  ⟨h.1.grown hg (h.1.ne h' (Ne.symm h0)), fun r hr => (h.2 r hr).beside h' hg h1 h2 h3⟩
theorem inner_at (t : T) (M' : Nat) (w : World) (hat : AtV w M' t.ver ⟨#[]⟩) : Calls Tryd.prog 48 #[.agg #[.string (opText t.op.toNat), .pointer (some ⟨M', 0, none⟩), .bool t.dirty, .bool t.minor, .bool t.patch]] w fun e w' =>
    (∃ K, e = .returned (.pointer (some ⟨K, 0, none⟩)) ∧ RecAt w' (t, M', K)) ∧ Below w.heap.size w w' := by
  refine (inner_exact (opText t.op.toNat) (some ⟨M', 0, none⟩) t.dirty t.minor t.patch w).mono ?_
  rintro e w' ⟨rfl, rfl⟩
  have hb : Below w.heap.size w ((w.alloc (.cells #[.string (opText t.op.toNat), .pointer (some ⟨M', 0, none⟩), .bool t.dirty, .bool t.minor, .bool t.patch] 69)).alloc (.cells #[.pointer (some ⟨M', 0, none⟩), .string ⟨#[]⟩, .string (opText t.op.toNat), .bool t.minor, .bool t.dirty, .bool t.patch] 82)) := by (repeat (first | exact Below.refl _ _ | apply Below.drew | (apply below_alloc_on (Nat.le_refl _))))
  exact ⟨⟨_, rfl, hat.below hb, alloc_at _ _ _ (by simp)⟩, hb⟩
theorem blk_grown {w w' : World} {n : Nat} {o : Obj} {row : Option Nat} (h : w.heap[n]? = some o) (hg : w.grownBy w' row) (hne : some n ≠ row) : w'.heap[n]? = some o :=
  (hg.block n (Array.getElem?_eq_some_iff.1 h).1 hne).trans h
/-- the record of the constraints -/
def CsAt (w : World) (N : Nat) (v1 v2 : Value) (pre : Bool) : Prop := w.heap[N]? = some (.cells #[v1, v2, .bool pre] 55 (0, 0))
def CsPost (w : World) (LL : List (List T)) (pre : Bool) (e : Ending) (w' : World) : Prop :=
  ∃ v1 v2 R, e = .returned (.agg #[v1, v2, .bool pre]) ∧ R.map (fun r => r.2.map (·.1)) = LL ∧ RowsC w' w.heap.size v1 R ∧ Pres w' w.heap.size v2 (LL.map preOf) ∧ Below w.heap.size w w'
theorem preOf_snoc (L : List T) (t : T) : preOf (L ++ [t]) = (preOf L || !(M.bs t.p).isEmpty) := by unfold preOf; rw [List.any_append]; simp
theorem post_cs {fn : Func} {p : Tmp} (h : fn.results = #[.cell p 55]) {R : Ending → World → Prop} {a : Act} {w : World} (N : Nat) (v1 v2 : Value) (pre : Bool) (hd : a.defers = [])
    (hp : a.tmps.getD p undef = .pointer (some ⟨N, 0, none⟩)) (hat : CsAt w N v1 v2 pre) (hR : R (.returned (.agg #[v1, v2, .bool pre])) w) : bodyPost Tryd.prog fn R .ret a w :=
  bodyPost_ret (results_cell_row h _ _ N _ _ (0, 0) _ hp hat Tryd.underlying55 rfl (by kernel_rfl)) hd hR
theorem CsAt.below {w w' : World} {N : Nat} {v1 v2 : Value} {pre : Bool} (h : CsAt w N v1 v2 pre) (b : Below w.heap.size w w') : CsAt w' N v1 v2 pre := blk_below b h
theorem CsAt.cells {w : World} {N : Nat} {v1 v2 : Value} {pre : Bool} (h : CsAt w N v1 v2 pre) : w.cell? ⟨N, 0, none⟩ = some v1 ∧ w.cell? ⟨N, 1, none⟩ = some v2 ∧ w.cell? ⟨N, 2, none⟩ = some (.bool pre) := by
  refine ⟨?_, ?_, ?_⟩ <;> (rw [cell_of_row w _ _ _ _ _ h]; rfl)
theorem CsAt.loose {w : World} {N : Nat} {v1 v2 : Value} {pre : Bool} (h : CsAt w N v1 v2 pre) (j : Nat) : w.frozen? ⟨N, j, none⟩ = false := by
  unfold CsAt at h
  simp [World.frozen?, h]
theorem CsAt.set0 {w : World} {N : Nat} {v1 v2 u : Value} {pre : Bool} (h : CsAt w N v1 v2 pre) : CsAt (w.setCell ⟨N, 0, none⟩ u) N u v2 pre := by
  unfold CsAt at h ⊢
  simp [World.setCell, Array.getElem?_modify, h]
theorem CsAt.set1 {w : World} {N : Nat} {v1 v2 u : Value} {pre : Bool} (h : CsAt w N v1 v2 pre) : CsAt (w.setCell ⟨N, 1, none⟩ u) N v1 u pre := by
  unfold CsAt at h ⊢
  simp [World.setCell, Array.getElem?_modify, h]
theorem CsAt.grown {w w' : World} {N : Nat} {v1 v2 : Value} {pre : Bool} {row : Option Nat} (h : CsAt w N v1 v2 pre) (hg : w.grownBy w' row) (hne : some N ≠ row) : CsAt w' N v1 v2 pre :=
  (hg.block N (Array.getElem?_eq_some_iff.1 h).1 hne).trans h
/-- a store into one block, seen as growth of that block alone -/
theorem grown_set (w : World) (N j : Nat) (u : Value) : w.grownBy (w.setCell ⟨N, j, none⟩ u) (some N) :=
  ⟨rfl, rfl, rfl, by simp, fun k hk hne => by
    rw [heap_setCell_other]
    intro e
    exact hne (by rw [e])⟩
theorem OwnG.apart {α : Type} {w : World} {base e s : Nat} {f : α → List Value} {v : Value} {ls : List α} {N : Nat} {cs : Array Value} {e' : Nat} (h : OwnG w base e s f v ls) (hN : w.heap[N]? = some (.cells cs e' (0, 0))) (hne : e ≠ e') : v.ownBlock = none ∨ v.ownBlock ≠ some N := .inr (h.ne_blk hN hne).symm
theorem ne_of_type {w : World} {a b : Nat} {ca cb : Array Value} {ta tb : Nat} (ha : w.heap[a]? = some (.cells ca ta (0, 0))) (hb : w.heap[b]? = some (.cells cb tb (0, 0))) (hne : ta ≠ tb) : some a ≠ some b := by
  intro e
  injection e with e
  subst e
  rw [ha] at hb
  injection hb with hb
  injection hb with _ ht
  exact hne ht
theorem OwnG.slice_snoc {α : Type} {w : World} {base e s : Nat} {f : α → List Value} {v : Value} {ls : List α} {y : α} (h : OwnG w base e s f v (ls ++ [y])) : ∃ A c, v = .slice A (ls.length + 1) c := by
  obtain ⟨A, c, hv⟩ := h.slice
  exact ⟨A, c, by rw [hv, List.length_append]; rfl⟩
theorem CsAt.far {w : World} {N M : Nat} {v1 v2 : Value} {pre : Bool} (h : CsAt w N v1 v2 pre) (hne : N ≠ M) (j : Nat) (u : Value) : CsAt (w.setCell ⟨M, j, none⟩ u) N v1 v2 pre := by
  unfold CsAt at *
  rw [heap_setCell_other _ _ N _ hne]
  exact h
theorem CsAt.set2 {w : World} {N : Nat} {v1 v2 : Value} {pre q : Bool} (h : CsAt w N v1 v2 pre) : CsAt (w.setCell ⟨N, 2, none⟩ (.bool q)) N v1 v2 q := by
  unfold CsAt at h ⊢
  simp [World.setCell, Array.getElem?_modify, h]
theorem RecAt.set {w : World} {q : TMK} {N j : Nat} {u v1 v2 : Value} {pre : Bool} (h : RecAt w q) (hN : CsAt w N v1 v2 pre) : RecAt (w.setCell ⟨N, j, none⟩ u) q :=
  h.grown (grown_set w N j u) (ne_of_type h.1 hN (by decide)) (ne_of_type h.2 hN (by decide))
theorem RowC.set {w : World} {base : Nat} {v : Value} {Q : List TMK} {N j : Nat} {u v1 v2 : Value} {pre : Bool} (h : RowC w base v Q) (hN : CsAt w N v1 v2 pre) : RowC (w.setCell ⟨N, j, none⟩ u) base v Q :=
  ⟨h.1.grown (grown_set w N j u) (h.1.apart hN (by decide)), fun q hq => (h.2 q hq).set hN⟩
theorem RowsC.set {w : World} {base : Nat} {v : Value} {R : List (Value × List TMK)} {N j : Nat} {u v1 v2 : Value} {pre : Bool} (h : RowsC w base v R) (hN : CsAt w N v1 v2 pre) : RowsC (w.setCell ⟨N, j, none⟩ u) base v R :=
  ⟨h.1.grown (grown_set w N j u) (h.1.apart hN (by decide)), fun r hr => (h.2 r hr).set hN⟩
theorem Pres.set {w : World} {base : Nat} {v : Value} {B : List Bool} {N j : Nat} {u v1 v2 : Value} {pre : Bool} (h : Pres w base v B) (hN : CsAt w N v1 v2 pre) : Pres (w.setCell ⟨N, j, none⟩ u) base v B :=
  OwnG.grown h (grown_set w N j u) (OwnG.apart h hN (by decide))

set_option maxHeartbeats 8000000 in
theorem zzConstraints_any (v : Value) (base0 : Nat) (R0 : List (Value × List (T × Nat))) (pre : Bool) (w : World) (hr : RowsZ w base0 v R0) (hl : R0.length ≤ 1000) (hz : ∀ r ∈ R0, r.2.length ≤ 1000) :
    Calls Tryd.prog 30 #[v, .bool pre] w (CsPost w (R0.map fun r => r.2.map (·.1)) pre) := by
  obtain ⟨A, cap, rfl, hcell⟩ := hr.1.read r1_len
  have HC := Lib.hid hcell
  have HROW := Lib.hid hr.2
  have HZ := Lib.hid hz
  clear hcell hr hz
  go_enter Tryd.func30, Tryd.ntmps30
  go_wp2_with fail
  have hC1 : CsAt ((w.alloc (.cells #[.slice none 0 0, .slice none 0 0, .bool false] 55)).alloc (.cells #[.slice none 0 0, .slice none 0 0, .bool pre] 55)) (w.heap.size + 1) (.slice none 0 0) (.slice none 0 0) pre := alloc_at _ _ _ (by simp)
  have hC0 : CsAt ((w.alloc (.cells #[.slice none 0 0, .slice none 0 0, .bool false] 55)).alloc (.cells #[.slice none 0 0, .slice none 0 0, .bool pre] 55)) w.heap.size (.slice none 0 0) (.slice none 0 0) false := heap_alloc_some (alloc_at _ _ _ rfl)
  have hBW : Below w.heap.size w ((w.alloc (.cells #[.slice none 0 0, .slice none 0 0, .bool false] 55)).alloc (.cells #[.slice none 0 0, .slice none 0 0, .bool pre] 55)) := by (repeat (first | exact Below.refl _ _ | apply Below.drew | (apply below_alloc_on (Nat.le_refl _))))
  generalize ((w.alloc (.cells #[.slice none 0 0, .slice none 0 0, .bool false] 55)).alloc (.cells #[.slice none 0 0, .slice none 0 0, .bool pre] 55)) = W at *
  have HC1 := Lib.hid hC1
  have HC0 := Lib.hid hC0
  have HBW := Lib.hid hBW
  clear hC1 hC0 hBW
  go_loopw [16] (fun i wr => ∃ (k : Nat) (v1 v2 : Value) (R : List (Value × List TMK)) (B : List Bool), k ≤ R0.length ∧ i = .int .i64 k ∧ Hid (R.map (fun r => r.2.map (·.1)) = (R0.take k).map (fun r => r.2.map (·.1))) ∧ Hid (B = ((R0.take k).map (fun r => r.2.map (·.1))).map preOf) ∧ Hid (CsAt wr (w.heap.size + 1) v1 v2 pre) ∧ Hid (CsAt wr w.heap.size (.slice none 0 0) (.slice none 0 0) false) ∧ Hid (RowsC wr w.heap.size v1 R) ∧ Hid (Pres wr w.heap.size v2 B) ∧ Hid (Below w.heap.size w wr)) (fun i _ => R0.length - (intOf i).toNat)
  case atStart => exact ⟨0, _, _, [], [], Nat.zero_le _, rfl, Lib.hid rfl, Lib.hid rfl, HC1, HC0, Lib.hid ⟨OwnG.nil _ _ _ _ _, fun r hr => by cases hr⟩, Lib.hid (OwnG.nil _ _ _ _ _), HBW⟩
  case round =>
    obtain ⟨k, v1, v2, R, B, hk, rfl, HM, HMB, HCA, HCB, HR, HPR, HB⟩ := hrel
    obtain ⟨A1, c1, rfl⟩ := HR.out.1.slice
    obtain ⟨A3, c3, rfl⟩ := OwnG.slice HPR.out
    by_cases hlt : k < R0.length
    · obtain ⟨b, o, rfl, hbl, hc⟩ := HC.out k hlt
      have hrow := HROW.out R0[k] (List.getElem_mem hlt)
      have hread := (hrow.1.read zc_len).kept HB.out
      have hvers := hrow.2.below HB.out
      have hl2 := HZ.out R0[k] (List.getElem_mem hlt)
      have c0 : wr.cell? ⟨b, o + k, none⟩ = some R0[k].1 := by rw [HB.out.cell (p := ⟨b, o + k, none⟩) hbl]; simpa using hc 0 _ rfl
      have HTK := Lib.hid (show (R0.take (k + 1)).map (fun r => r.2.map (·.1)) = (R0.take k).map (fun r => r.2.map (·.1)) ++ [R0[k].2.map (·.1)] by rw [List.take_succ_eq_append_getElem hlt, List.map_append]; rfl)
      generalize R0[k].2 = P at *
      generalize R0[k].1 = rv at *
      obtain ⟨A2, cap2, rfl, hcell2⟩ := hread
      have HC2 := Lib.hid hcell2
      have HV := Lib.hid hvers
      clear hc hbl hcell2 hrow hvers
      obtain ⟨wo, rfl⟩ : ∃ wo : World, wo = wr := ⟨_, rfl⟩
      go_wp2
      go_loopw [8, 9, 22] (fun v8 v9 j wi => ∃ (m : Nat) (Q : List TMK) (fl : Bool), m ≤ P.length ∧ j = .int .i64 m ∧ v9 = .bool fl ∧ Hid (fl = preOf ((P.take m).map (·.1))) ∧ Hid (Q.map (·.1) = (P.take m).map (·.1)) ∧ Hid (RowC wi wo.heap.size v8 Q) ∧ Hid (Below wo.heap.size wo wi)) (fun _ _ j _ => P.length - (intOf j).toNat)
      case atStart => exact ⟨0, [], false, Nat.zero_le _, rfl, rfl, Lib.hid rfl, Lib.hid rfl, Lib.hid ⟨OwnG.nil _ _ _ _ _, fun p hp => by cases hp⟩, Lib.hid (Below.refl _ _)⟩
      case round =>
        obtain ⟨m, Q, fl, hm, rfl, rfl, HFL, HMQ, HQ, HBI⟩ := hrel
        by_cases hltm : m < P.length
        · obtain ⟨b2, o2, rfl, hbl2, hc2⟩ := HC2.out m hltm
          have hat := (HV.out P[m] (List.getElem_mem hltm)).below HBI.out
          have q0 : wr.cell? ⟨b2, o2 + m * 5, none⟩ = some (.string (opText P[m].1.op.toNat)) := by rw [HBI.out.cell (p := ⟨b2, o2 + m * 5, none⟩) hbl2]; exact hc2 0 _ rfl
          have q1 : wr.cell? ⟨b2, o2 + m * 5 + 1, none⟩ = some (.pointer (some ⟨P[m].2, 0, none⟩)) := by rw [HBI.out.cell (p := ⟨b2, o2 + m * 5 + 1, none⟩) hbl2]; exact hc2 1 _ rfl
          have q2 : wr.cell? ⟨b2, o2 + m * 5 + 2, none⟩ = some (.bool P[m].1.dirty) := by rw [HBI.out.cell (p := ⟨b2, o2 + m * 5 + 2, none⟩) hbl2]; exact hc2 2 _ rfl
          have q3 : wr.cell? ⟨b2, o2 + m * 5 + 3, none⟩ = some (.bool P[m].1.minor) := by rw [HBI.out.cell (p := ⟨b2, o2 + m * 5 + 3, none⟩) hbl2]; exact hc2 3 _ rfl
          have q4 : wr.cell? ⟨b2, o2 + m * 5 + 4, none⟩ = some (.bool P[m].1.patch) := by rw [HBI.out.cell (p := ⟨b2, o2 + m * 5 + 4, none⟩) hbl2]; exact hc2 4 _ rfl
          have HTM := Lib.hid (show (P.take (m + 1)).map (·.1) = (P.take m).map (·.1) ++ [P[m].1] by rw [List.take_succ_eq_append_getElem hltm, List.map_append]; rfl)
          have hql : Q.length = m := by have := congrArg List.length HMQ.out; rw [List.length_map, List.length_map, List.length_take] at this; omega
          have HQL := Lib.hid hql
          generalize P[m].1 = t at *
          generalize P[m].2 = M' at *
          have HAT := Lib.hid hat
          clear hc2 hbl2 hql hat
          go_wp2_with (first
            | (go_at_call 48; (with_reducible refine (inner_at t M' _ (HAT.out.below (below_alloc _ _))).mono ?_); rintro e w1 ⟨⟨K, rfl, hrec⟩, hb1⟩; have HRC := Lib.hid hrec; have HB1 := Lib.hid (Below.up (w := wr) (by (repeat (first | exact Below.refl _ _ | apply Below.drew | (apply below_alloc_on (Nat.le_refl _))))) hb1); have HB11 := Lib.hid hb1; clear hrec hb1)
            | (at_builtin; refine append_gen rfl _ _ 74 75 _ 1 8 rfl Tryd.underlying74 infoK rfl (by decide) wo.heap.size kc _ Q rfl ((HQ.out.1.kept HB1.out).kept (below_alloc _ _)) w1.heap.size 1 (t, M', K) rfl rfl ?c1 ?c2 ?c3 ?c4 ?c5 ?_; rotate_left 5; intro v3 w2 hown2 hg2; have ha11 : (w1.alloc (.cells #[.pointer (some ⟨K, 0, none⟩)] 75)).heap[wr.heap.size]? = some (.cells #[.string (opText t.op.toNat), .pointer (some ⟨M', 0, none⟩), .bool t.dirty, .bool t.minor, .bool t.patch] 69 (0, 0)) := heap_alloc_some (blk_below HB11.out (alloc_at _ _ _ rfl)); have h11 := blk_grown ha11 hg2 (OwnG.ne_blk ((HQ.out.1.kept HB1.out).kept (below_alloc _ _)) ha11 (by decide)); have hz1 : w2.cell? ⟨wr.heap.size, 1, none⟩ = some (.pointer (some ⟨M', 0, none⟩)) := (by rw [cell_of_row _ _ _ _ _ _ h11]; rfl); have hrw := HRC.out.below (below_alloc w1 (.cells #[.pointer (some ⟨K, 0, none⟩)] 75)); have hrz := RowC.snoc ((HQ.out.below HB1.out).below (below_alloc _ _)) hrw hown2 hg2; have hv3 : w2.cell? ⟨M', 3, none⟩ = some (.string t.p) := (hrz.2 (t, M', K) (by simp)).1.cells.2.2.2.1; have HW2 := Lib.hid (Below.trans (HBI.out.trans ((HB1.out.trans ((below_alloc w1 (.cells #[.pointer (some ⟨K, 0, none⟩)] 75)).mono HB1.out.size)).mono HBI.out.size)) (OwnG.below ((HQ.out.1.kept HB1.out).kept (below_alloc _ _)) (by have h1 := HBI.out.size; have h2 := HB1.out.size; simp; omega) hg2)); have HRZ := Lib.hid hrz; clear hown2 hg2 h11 hrw hrz ha11; rcases empty_cases t.p with ⟨hp, hq⟩ | ⟨hp, hq⟩ <;> (have HE := Lib.hid hq; clear hq)))
          all_goals try (go_roundw)
          all_goals first
            | exact ⟨m + 1, Q ++ [(t, M', K)], _, hltm, by go_num, rfl, Lib.hid (by rw [HTM.out, preOf_snoc, ← HFL.out, HE.out]; simp), Lib.hid (by rw [List.map_append, HMQ.out, HTM.out]; rfl), HRZ, HW2⟩
            | (simp [intOf]; omega)
            | (intro u hu; simp only [kc, List.mem_singleton] at hu; rw [hu]; rfl)
            | (intro j u hu; rw [cell_of_row _ _ _ _ _ _ (alloc_at _ _ _ rfl)]; simpa [kc] using hu)
            | (have := HQL.out; omega)
            | (have h1 := HBI.out.size; have h2 := HB1.out.size; simp; omega)
        · have hme : m = P.length := by omega
          have HMQ2 := Lib.hid (show Q.map (·.1) = P.map (·.1) by rw [HMQ.out, hme, List.take_length])
          have HFL2 := Lib.hid (show fl = preOf (P.map (·.1)) by rw [HFL.out, hme, List.take_length])
          have hrl : R.length = k := by have := congrArg List.length HM.out; rw [List.length_map, List.length_map, List.length_take] at this; omega
          have hbn : B.length = k := by have := congrArg List.length HMB.out; rw [List.length_map, List.length_map, List.length_take] at this; omega
          have HRL := Lib.hid hrl
          have HBN := Lib.hid hbn
          clear hme hrl hbn
          obtain ⟨A8, c8, rfl⟩ := HQ.out.1.slice
          have HR1 := Lib.hid (HR.out.below HBI.out)
          have HP1 : Hid (Pres wr w.heap.size _ B) := Lib.hid (OwnG.kept HPR.out HBI.out)
          have HQ1 := Lib.hid (HQ.out.lower HB.out.size)
          have HCA1 := Lib.hid (HCA.out.below HBI.out)
          have HCB1 := Lib.hid (HCB.out.below HBI.out)
          have HB1 := Lib.hid (HB.out.trans (HBI.out.mono HB.out.size))
          obtain ⟨f0, f1, f2⟩ := HCA1.out.cells
          have HR2 := Lib.hid (HR1.out.below (below_alloc wr (.cells #[.slice A8 Q.length c8] 74)))
          have HP2 : Hid (Pres (wr.alloc (.cells #[.slice A8 Q.length c8] 74)) w.heap.size _ B) := Lib.hid (OwnG.kept HP1.out (below_alloc wr (.cells #[.slice A8 Q.length c8] 74)))
          have HQ2 := Lib.hid (HQ1.out.below (below_alloc wr (.cells #[.slice A8 Q.length c8] 74)))
          have HCA2 := Lib.hid (HCA1.out.below (below_alloc wr (.cells #[.slice A8 Q.length c8] 74)))
          have HCB2 := Lib.hid (HCB1.out.below (below_alloc wr (.cells #[.slice A8 Q.length c8] 74)))
          have HB2 := Lib.hid (HB1.out.alloc HB1.out.size (.cells #[.slice A8 Q.length c8] 74))
          have N1 := Lib.hid (HR2.out.1.ne_blk (show (wr.alloc (.cells #[.slice A8 Q.length c8] 74)).heap[w.heap.size + 1]? = some (.cells _ 55 (0, 0)) from HCA2.out) (by decide))
          have N2 := Lib.hid (HR2.out.1.ne_blk (show (wr.alloc (.cells #[.slice A8 Q.length c8] 74)).heap[w.heap.size]? = some (.cells _ 55 (0, 0)) from HCB2.out) (by decide))
          have N3 := Lib.hid (OwnG.ne HP2.out HR2.out.1 (by decide))
          have HS2 := Lib.hid HB2.out.size
          go_wp2_with (first
            | (at_builtin; refine append_gen rfl _ _ 52 74 _ 1 24 rfl Tryd.underlying52 infoKr rfl (by decide) w.heap.size rc1 (.slice A1 R.length c1) R rfl HR2.out.1 wr.heap.size 1 (.slice A8 Q.length c8, Q) rfl rfl ?d1 ?d2 ?d3 ?d4 ?d5 ?_; rotate_left 5; intro v4 w4 hown4 hg4; have R4 := Lib.hid (RowsC.snoc HR2.out (r := (.slice A8 Q.length c8, Q)) HQ2.out hown4 hg4); have ca4 := HCA2.out.grown hg4 N1.out; have CB4 := Lib.hid (HCB2.out.grown hg4 N2.out); have P4 : Hid (Pres w4 w.heap.size _ B) := Lib.hid (OwnG.grown HP2.out hg4 N3.out); have BL4 := Lib.hid (Below.trans HB2.out (OwnG.below HR2.out.1 HS2.out hg4)); obtain ⟨A4, c4, rfl⟩ := OwnG.slice_snoc hown4; clear f0 f1 f2; obtain ⟨f0, f1, f2⟩ := ca4.cells; have l0 := ca4.loose 0; have l1 := ca4.loose 1; have CA4 := Lib.hid ca4; have R5 : Hid (RowsC ((w4.setCell ⟨w.heap.size + 1, 0, none⟩ (.slice A4 (R.length + 1) c4)).alloc (.cells #[.bool fl] 4)) w.heap.size _ _) := Lib.hid ((R4.out.set CA4.out).below (below_alloc _ _)); have CA5 : Hid (CsAt ((w4.setCell ⟨w.heap.size + 1, 0, none⟩ (.slice A4 (R.length + 1) c4)).alloc (.cells #[.bool fl] 4)) (w.heap.size + 1) _ _ pre) := Lib.hid (CA4.out.set0.below (below_alloc _ _)); have CB5 : Hid (CsAt ((w4.setCell ⟨w.heap.size + 1, 0, none⟩ (.slice A4 (R.length + 1) c4)).alloc (.cells #[.bool fl] 4)) w.heap.size _ _ false) := Lib.hid ((CB4.out.far (Nat.ne_of_lt (Nat.lt_succ_self _)) _ _).below (below_alloc _ _)); have P5 : Hid (Pres ((w4.setCell ⟨w.heap.size + 1, 0, none⟩ (.slice A4 (R.length + 1) c4)).alloc (.cells #[.bool fl] 4)) w.heap.size _ B) := Lib.hid (OwnG.kept (Pres.set P4.out CA4.out) (below_alloc _ _)); have BL5 : Hid (Below w.heap.size w ((w4.setCell ⟨w.heap.size + 1, 0, none⟩ (.slice A4 (R.length + 1) c4)).alloc (.cells #[.bool fl] 4))) := Lib.hid ((BL4.out.setCell (Nat.le_succ _) _).alloc (by have := BL4.out.size; simpa using this) _); have M1 := Lib.hid (OwnG.ne_blk P5.out (show (((w4.setCell ⟨w.heap.size + 1, 0, none⟩ (.slice A4 (R.length + 1) c4)).alloc (.cells #[.bool fl] 4))).heap[w.heap.size + 1]? = some (.cells _ 55 (0, 0)) from CA5.out) (by decide)); have M2 := Lib.hid (OwnG.ne_blk P5.out (show (((w4.setCell ⟨w.heap.size + 1, 0, none⟩ (.slice A4 (R.length + 1) c4)).alloc (.cells #[.bool fl] 4))).heap[w.heap.size]? = some (.cells _ 55 (0, 0)) from CB5.out) (by decide)); have HS5 := Lib.hid BL5.out.size; clear ca4 hown4 hg4 R4 CA4 CB4 P4 BL4)
            | (at_builtin; refine append_gen rfl _ _ 53 4 _ 1 1 rfl Tryd.underlying53 infoB rfl (by decide) w.heap.size bc _ B rfl P5.out _ 1 fl rfl rfl ?e1 ?e2 ?e3 ?e4 ?e5 ?_; rotate_left 5; intro v5 w5 hown5 hg5; have R6 := Lib.hid (R5.out.beside P5.out hg5 (by decide) (by decide) (by decide) (by decide)); have ca6 := CA5.out.grown hg5 M1.out; have CB6 := Lib.hid (CB5.out.grown hg5 M2.out); have BL6 := Lib.hid (Below.trans BL5.out (OwnG.below P5.out HS5.out hg5)); have P6 : Hid (Pres w5 w.heap.size _ (B ++ [fl])) := Lib.hid hown5; obtain ⟨A5, c5, rfl⟩ := OwnG.slice_snoc hown5; clear f0 f1 f2 l0 l1; obtain ⟨f0, f1, f2⟩ := ca6.cells; have l0 := ca6.loose 0; have l1 := ca6.loose 1; have CA6 := Lib.hid ca6; clear ca6 hown5 hg5))
          case d1 => intro u hu; simp only [rc1, List.mem_singleton] at hu; rw [hu]; rfl
          case d2 => intro j u hu; rw [cell_of_row _ _ _ _ _ _ (alloc_at _ _ _ rfl)]; simpa [rc1] using hu
          case d3 => have := HRL.out; omega
          case d4 => have := HRL.out; omega
          case d5 => exact HS2.out
          case e1 => intro u hu; simp only [bc, List.mem_singleton] at hu; rw [hu]; rfl
          case e2 => intro j u hu; rw [cell_of_row _ _ _ _ _ _ (alloc_at _ _ _ (by simp))]; simpa [bc] using hu
          case e3 => have := HBN.out; omega
          case e4 => have := HBN.out; omega
          case e5 => exact HS5.out
          go_roundw
          case rel => exact ⟨k + 1, .slice A4 (R.length + 1) c4, .slice A5 (B.length + 1) c5, R ++ [(.slice A8 Q.length c8, Q)], B ++ [fl], hlt, by go_num, Lib.hid (by rw [List.map_append, HM.out, HTK.out, ← HMQ2.out]; rfl), Lib.hid (by rw [HTK.out, List.map_append, ← HMB.out, HFL2.out]; rfl), Lib.hid CA6.out.set1, Lib.hid (CB6.out.far (Nat.ne_of_lt (Nat.lt_succ_self _)) _ _), Lib.hid (R6.out.set CA6.out), Lib.hid (Pres.set P6.out CA6.out), Lib.hid (BL6.out.setCell (Nat.le_succ _) _)⟩
          case measure => simp [intOf]; omega
    · have hke : k = R0.length := by omega
      have HKE := Lib.hid hke
      clear hke
      obtain ⟨f0, f1, f2⟩ := HCA.out.cells
      obtain ⟨g0, g1, g2⟩ := HCB.out.cells
      have l0 := HCB.out.loose 0
      have l1 := HCB.out.loose 1
      have l2 := HCB.out.loose 2
      go_wp2
      refine post_cs rfl w.heap.size (.slice A1 R.length c1) (.slice A3 B.length c3) pre rfl rfl HCB.out.set0.set1.set2 ?_
      have hR := ((HR.out.set (j := 0) (u := .slice A1 R.length c1) HCB.out).set (j := 1) (u := .slice A3 B.length c3) HCB.out.set0).set (j := 2) (u := .bool pre) HCB.out.set0.set1
      have hP := Pres.set (j := 2) (u := .bool pre) (Pres.set (j := 1) (u := .slice A3 B.length c3) (Pres.set (j := 0) (u := .slice A1 R.length c1) HPR.out HCB.out) HCB.out.set0) HCB.out.set0.set1
      refine ⟨_, _, R, rfl, by rw [HM.out, HKE.out, List.take_length], hR, ?_, ((HB.out.setCell (Nat.le_refl _) _).setCell (Nat.le_refl _) _).setCell (Nat.le_refl _) _⟩
      have := HMB.out
      rw [HKE.out, List.take_length] at this
      rw [← this]
      exact hP
end Go.Proofs.YtnkdpgcfaelpkaaDoor
