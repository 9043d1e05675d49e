/-
  package cron's getRange, for every text, within bounds up to 62.
-/
import Derived.Test.YtjipjhpehfbpkaaDoorCNames
import Derived.Test.YtjipjhpehfbpkaaDoorCKit
import Derived.Deep.CutBlock
import Derived.Deep.RegionHeld3
namespace Go.Proofs.YtjipjhpehfbpkaaDoor
open Go.RowKit
set_option maxRecDepth 100000
set_option linter.unusedVariables false

namespace M
theorem num_lt {l : Bs} {n : Nat} (h : num l = some n) : n < 9223372036854775808 := by
  unfold num at h
  split at h
  · rename_i v hv
    have := atoi_lt hv
    split at h
    · obtain rfl := Option.some.inj h
      omega
    · cases h
  · cases h
end M
/-- the bounds' box, and what stays -/
structure RSt (w wx : World) (b : M.Bd) (v : Value) : Prop where
  box : wx.heap[w.heap.size]? = some (.cells #[.int .u64 (b.mn : Int), .int .u64 (b.mx : Int), v] 62 (0, 0))
  nm : Nm wx v b.nm
  err : NumErrs wx
  bel : Below w.heap.size w wx
theorem RSt.below {w wx wy : World} {b : M.Bd} {v : Value} (h : RSt w wx b v) (k : Below wx.heap.size wx wy) : RSt w wy b v :=
  ⟨by rw [k.block _ (Array.getElem?_eq_some_iff.1 h.box).1]; exact h.box, h.nm.below k, h.err.below k, Below.up h.bel k⟩
theorem RSt.cells {w wx : World} {b : M.Bd} {v : Value} (h : RSt w wx b v) : wx.cell? ⟨w.heap.size, 0, none⟩ = some (.int .u64 (b.mn : Int)) ∧ wx.cell? ⟨w.heap.size, 1, none⟩ = some (.int .u64 (b.mx : Int)) ∧ wx.cell? ⟨w.heap.size, 2, none⟩ = some v := by
  exact ⟨row_cell h.box _ _ rfl, row_cell h.box _ _ rfl, row_cell h.box _ _ rfl⟩
/-- texts in block g -/
def SlAt (w : World) (g : Nat) (L : List ByteArray) : Prop := g < w.heap.size ∧ ∀ i (_ : i < L.length), w.cell? ⟨g, i, none⟩ = some (.string L[i])
theorem SlAt.below {w w' : World} {g : Nat} {L : List ByteArray} (h : SlAt w g L) (b : Below w.heap.size w w') : SlAt w' g L :=
  ⟨Nat.lt_of_lt_of_le h.1 b.size, fun i hi => by rw [b.cell (p := ⟨g, i, none⟩) h.1]; exact h.2 i hi⟩
theorem Parted.at {x : UInt8} {s : ByteArray} {w : World} {e : Ending} {w' : World} (h : Parted x s w e w') :
    ∃ g n c L, e = .returned (.slice (some ⟨g, 0, none⟩) n c) ∧ L.map M.bs = M.splitOn x (M.bs s) ∧ n = L.length ∧ SlAt w' g L ∧ Below w.heap.size w w' := by
  obtain ⟨v, L, he, hL, hown, hb⟩ := h
  obtain ⟨h1, h2 | ⟨g, cap, cur, rfl, hg, hbk, hn, hc, hs, ht⟩⟩ := hown
  · obtain ⟨rfl, hn⟩ := h2
    obtain rfl : L = [] := List.length_eq_zero_iff.1 hn
    exact absurd hL.symm (M.splitOn_ne _ _)
  · refine ⟨g, L.length, cap, L, he, hL, rfl, ⟨?_, fun i hi => ?_⟩, hb⟩
    · exact (Array.getElem?_eq_some_iff.1 hbk).1
    · have := World.ownsRow.cellAt (w := w') (base := w.heap.size) (e := 9) (size := 1) (g := g) (n := L.length) (cap := cap) (xs := L.map Value.string) ⟨h1, .inr ⟨g, cap, cur, rfl, hg, hbk, hn, hc, hs, ht⟩⟩ i (by omega)
      rw [this]
      simp [hi]
theorem split_at (s : ByteArray) (x : UInt8) (w : World) (hs : s.size ≤ 2147483647) :
    Calls Tryd.prog 46 #[.string s, .string ⟨#[x]⟩] w fun e w' => ∃ g n c L, e = .returned (.slice (some ⟨g, 0, none⟩) n c) ∧ Hid (L.map M.bs = M.splitOn x (M.bs s)) ∧ Hid (n = L.length) ∧ SlAt w' g L ∧ Below w.heap.size w w' :=
  (zzSplit_any s x w hs).mono fun e w' h => by
    obtain ⟨g, n, c, L, h1, h2, h3, h4, h5⟩ := h.at
    exact ⟨g, n, c, L, h1, Lib.hid h2, Lib.hid h3, h4, h5⟩
theorem piece_size {x : UInt8} {s : ByteArray} {L : List ByteArray} (h : L.map M.bs = M.splitOn x (M.bs s)) (i : Nat) (hi : i < L.length) : (L[i]).size ≤ s.size := by
  have h1 : M.bs L[i] ∈ M.splitOn x (M.bs s) := by rw [← h]; exact List.mem_map.2 ⟨_, List.getElem_mem hi, rfl⟩
  have := M.piece_le x _ _ h1
  rw [M.bs_length, M.bs_length] at this
  exact this
/-- what a field's or an item's reading hands back -/
def BitRes (o : Option Nat) (w : World) (e : Ending) (w' : World) : Prop :=
  (match o with
   | some n => e = .returned (.tuple #[.int .u64 (n : Int), .nilIface])
   | none => ∃ t v, e = .returned (.tuple #[.int .u64 0, .iface t v])) ∧ Below w.heap.size w w'
theorem parseName_some (s : ByteArray) (v : Value) (nm : Option (M.Bs → Option Nat)) (k : Nat) (w : World) (hs : s.size ≤ 2147483647) (hn : NumErrs w) (hv : Nm w v nm) (ho : Hid (M.ion nm (M.bs s) = some k)) :
    Calls Tryd.prog 47 #[.string s, v] w fun e w' => e = .returned (.tuple #[.int .u64 (k : Int), .nilIface]) ∧ Below w.heap.size w w' := parseName_any s v nm _ w hs hn hv ho
theorem parseName_none (s : ByteArray) (v : Value) (nm : Option (M.Bs → Option Nat)) (w : World) (hs : s.size ≤ 2147483647) (hn : NumErrs w) (hv : Nm w v nm) (ho : Hid (M.ion nm (M.bs s) = none)) :
    Calls Tryd.prog 47 #[.string s, v] w fun e w' => (∃ t u, e = .returned (.tuple #[.int .u64 0, .iface t u])) ∧ Below w.heap.size w w' := parseName_any s v nm _ w hs hn hv ho
def starV (z : Bool) : Nat := if z then 9223372036854775808 else 0
namespace M
theorem item_none {b : Bd} {l h : Bs} {t : List Bs} (e : splitOn 47 l = h :: t) (he : ends b (splitOn 45 h) = none) : item b l = none := by
  unfold item
  rw [e]
  simp only [he]
theorem item_no {b : Bd} {l h : Bs} (e : splitOn 47 l = [h]) {s en : Nat} {ex : Bool} (he : ends b (splitOn 45 h) = some (s, en, ex)) : item b l = fin b s en 1 ex := by
  unfold item
  rw [e]
  simp only [he]
theorem item_st {b : Bd} {l h k : Bs} (e : splitOn 47 l = [h, k]) {s en : Nat} {ex : Bool} (he : ends b (splitOn 45 h) = some (s, en, ex)) :
    item b l = match num k with | none => none | some sp => fin b s (if (splitOn 45 h).length = 1 then b.mx else en) sp (ex && decide (sp ≤ 1)) := by
  unfold item
  rw [e]
  simp only [he]
  rfl
theorem item_many {b : Bd} {l h x y : Bs} {r : List Bs} (e : splitOn 47 l = h :: x :: y :: r) {s en : Nat} {ex : Bool} (he : ends b (splitOn 45 h) = some (s, en, ex)) : item b l = none := by
  unfold item
  rw [e]
  simp only [he]
theorem ends_star {b : Bd} {a : Bs} {r : List Bs} (h : a = [42] ∨ a = [63]) : ends b (a :: r) = some (b.mn, b.mx, true) := by
  unfold ends
  simp only
  rw [if_pos h]
theorem ends_no {b : Bd} {a : Bs} {r : List Bs} (h : ¬ (a = [42] ∨ a = [63])) (hi : ion b.nm a = none) : ends b (a :: r) = none := by
  unfold ends
  simp only
  rw [if_neg h, hi]
theorem ends_1 {b : Bd} {a : Bs} {st : Nat} (h : ¬ (a = [42] ∨ a = [63])) (hi : ion b.nm a = some st) : ends b [a] = some (st, st, false) := by
  unfold ends
  simp only
  rw [if_neg h, hi]
theorem ends_2 {b : Bd} {a c : Bs} {st : Nat} (h : ¬ (a = [42] ∨ a = [63])) (hi : ion b.nm a = some st) : ends b [a, c] = match ion b.nm c with | none => none | some e => some (st, e, false) := by
  unfold ends
  simp only
  rw [if_neg h, hi]
  rfl
theorem ends_3 {b : Bd} {a c d : Bs} {r : List Bs} {st : Nat} (h : ¬ (a = [42] ∨ a = [63])) (hi : ion b.nm a = some st) : ends b (a :: c :: d :: r) = none := by
  unfold ends
  simp only
  rw [if_neg h, hi]
end M
theorem bitRes_none {w : World} {o : Option Nat} (ho : o = none) {e : Ending} {w' : World} (t : TypeId) (v : Value) (he : e = .returned (.tuple #[.int .u64 0, .iface t v])) (hb : Below w.heap.size w w') : BitRes o w e w' := by
  subst ho
  exact ⟨⟨t, v, he⟩, hb⟩
theorem bitRes_some {w : World} {o : Option Nat} {n : Nat} (ho : o = some n) {x : Int} (hx : x = (n : Int)) {e : Ending} {w' : World} (he : e = .returned (.tuple #[.int .u64 x, .nilIface])) (hb : Below w.heap.size w w') : BitRes o w e w' := by
  subst ho hx
  exact ⟨he, hb⟩
theorem lit_eq (s : ByteArray) (x : UInt8) : (s.toList == [x]) = decide (M.bs s = [x]) := by
  rw [toList_bs]
  by_cases h : M.bs s = [x]
  · simp [h]
  · rw [decide_eq_false h, beq_eq_false_iff_ne]; exact h
set_option maxHeartbeats 16000000 in
theorem getRange_any (s : ByteArray) (b : M.Bd) (v : Value) (o : Option Nat) (w : World) (hs : s.size ≤ 2147483647) (hm : b.mx ≤ 62) (hm2 : b.mn ≤ 62) (hn : NumErrs w) (hv : Nm w v b.nm) (ho : Hid (M.item b (M.bs s) = o)) :
    Calls Tryd.prog 34 #[.string s, .agg #[.int .u64 (b.mn : Int), .int .u64 (b.mx : Int), v]] w (BitRes o w) := by
  have hB0 : RSt w (w.alloc (.cells #[.int .u64 (b.mn : Int), .int .u64 (b.mx : Int), v] 62)) b v := ⟨alloc_at _ _ _ rfl, hv.below (below_alloc _ _), hn.below (below_alloc _ _), below_alloc _ _⟩
  have I := Lib.hid hB0
  clear hB0 hn hv
  go_enter Tryd.func34, Tryd.ntmps34
  go_upto_region 3 with (go_at_call 46; (with_reducible refine (split_at s 47 _ hs).mono ?_); rintro e w1 ⟨g1, n1, c1, L1, rfl, HL1, HN1, hsl, hb⟩; have hI := I.out.below hb; clear I; have I := Lib.hid hI; have HS1 := Lib.hid hsl; clear hsl hb hI)
  have hp1 : 0 < L1.length := by
    have h1 := HL1.out
    cases L1 with
    | nil => exact absurd h1.symm (M.splitOn_ne _ _)
    | cons _ _ => simp
  have hn1 : 0 < n1 := by rw [HN1.out]; exact hp1
  obtain ⟨h, hh⟩ : ∃ h, L1[0] = h := ⟨_, rfl⟩
  have hh1 : h.size ≤ 2147483647 := by
    have := piece_size HL1.out 0 hp1
    rw [hh] at this
    omega
  have HT : Hid (M.splitOn 47 (M.bs s) = M.bs h :: L1.tail.map M.bs) := Lib.hid (by
    rw [← HL1.out, ← hh]
    cases L1 with
    | nil => exact absurd hp1 (by simp)
    | cons _ _ => rfl)
  have hc0 := HS1.out.2 0 hp1
  rw [hh] at hc0
  clear hh hp1
  go_upto_region 7 with (go_at_call 46; (with_reducible refine (split_at h 45 _ hh1).mono ?_); rintro e w2 ⟨g2, n2, c2, L2, rfl, HL2, HN2, hsl, hb⟩; have hI := I.out.below hb; have hs1 := HS1.out.below hb; clear I HS1 hc0; have I := Lib.hid hI; have HS1 := Lib.hid hs1; have HS2 := Lib.hid hsl; clear hsl hb hI hs1)
  have hp2 : 0 < L2.length := by
    have h1 := HL2.out
    cases L2 with
    | nil => exact absurd h1.symm (M.splitOn_ne _ _)
    | cons _ _ => simp
  have hn2 : 0 < n2 := by rw [HN2.out]; exact hp2
  obtain ⟨a, ha⟩ : ∃ a, L2[0] = a := ⟨_, rfl⟩
  have ha1 : a.size ≤ 2147483647 := by
    have := piece_size HL2.out 0 hp2
    rw [ha] at this
    omega
  have HA : Hid (M.splitOn 45 (M.bs h) = M.bs a :: L2.tail.map M.bs) := Lib.hid (by
    rw [← HL2.out, ← ha]
    cases L2 with
    | nil => exact absurd hp2 (by simp)
    | cons _ _ => rfl)
  have hc0 := HS2.out.2 0 hp2
  rw [ha] at hc0
  clear ha hp2
  go_cut [32] (fun s32 wx => ∃ z : Bool, s32 = .bool z ∧ w2 = wx ∧ Hid (z = decide (M.bs a = [42] ∨ M.bs a = [63])))
  case first =>
    by_cases q1 : M.bs a = [42]
    · have e1 : (a.toList == [42]) = true := by rw [lit_eq]; simpa using q1
      have HQ := Lib.hid q1
      clear q1
      go_wp2
      go_meet
      exact ⟨_, rfl, rfl, Lib.hid (by rw [decide_eq_true (.inl HQ.out)])⟩
    · have e1 : (a.toList == [42]) = false := by rw [lit_eq]; simpa using q1
      by_cases q2 : M.bs a = [63]
      · have e2 : (a.toList == [63]) = true := by rw [lit_eq]; simpa using q2
        have HQ := Lib.hid q2
        clear q1 q2
        go_wp2
        go_meet
        exact ⟨_, rfl, rfl, Lib.hid (by rw [decide_eq_true (.inr HQ.out)])⟩
      · have e2 : (a.toList == [63]) = false := by rw [lit_eq]; simpa using q2
        have HQ := Lib.hid (And.intro q1 q2)
        clear q1 q2
        go_wp2
        go_meet
        exact ⟨_, rfl, rfl, Lib.hid (by rw [decide_eq_false (fun h => h.elim HQ.out.1 HQ.out.2)])⟩
  case rest =>
  obtain ⟨z, rfl, rfl, HZ⟩ := hcut
  go_upto_if 32 with fail
  generalize hq : ((n2 : Int) == 1) = q
  have HQ1 := Lib.hid hq
  clear hq
  go_cut [6, 7, 13] (fun s6 s7 s13 wx => ∃ (st en xv : Nat) (ex : Bool), s6 = .int .u64 (st : Int) ∧ s7 = .int .u64 (en : Int) ∧ s13 = .int .u64 (xv : Int) ∧ Hid (xv = starV ex ∧ M.ends b (M.splitOn 45 (M.bs h)) = some (st, en, ex)) ∧ Hid (RSt w wx b v) ∧ Hid (SlAt wx g1 L1))
  case first =>
    rcases z with _ | _
    · have hz : ¬ (M.bs a = [42] ∨ M.bs a = [63]) := by have := HZ.out; simpa using this
      obtain ⟨k0, k1, k2⟩ := I.out.cells
      cases hi : M.ion b.nm (M.bs a) with
      | none =>
        have HI := Lib.hid hi
        have HE := Lib.hid (show o = none by rw [← ho.out]; exact M.item_none HT.out (by rw [HA.out]; exact M.ends_no hz hi))
        clear hz hi HZ
        go_upto_region 11 with fail
        go_region_held3 (fun w' => w'.cell? ⟨g2, 0, none⟩ = some (.string a) ∧ w'.cell? ⟨w.heap.size, 2, none⟩ = some v) (first | (refine ⟨?_, ?_⟩ <;> (repeat (first | with_reducible assumption | with_reducible apply cell_alloc_some | with_reducible apply cell_drew_some | with_reducible refine cell_below (by with_reducible assumption) ?_ | with_reducible refine cell_set_other (by omega) ?_))) | fail) (first
          | (go_at_call 47; (with_reducible refine (parseName_none a v b.nm _ ha1 (I.out.err.below (Below.refl _ _).drew) (I.out.nm.below (Below.refl _ _).drew) HI).mono ?_); rintro e w3 ⟨⟨et, ev, rfl⟩, hb⟩)
          | fail)
        have HB := Lib.hid (Below.up I.out.bel (Below.up (Below.refl _ _).drew hb))
        clear hb
        go_wp2
        go_ret2
        exact bitRes_none HE.out _ _ rfl HB.out
      | some st =>
        have HI := Lib.hid hi
        have HZZ := Lib.hid hz
        clear hz hi HZ
        go_upto_region 11 with fail
        go_region_held3 (fun w' => w'.cell? ⟨g2, 0, none⟩ = some (.string a) ∧ w'.cell? ⟨w.heap.size, 2, none⟩ = some v) (first | (refine ⟨?_, ?_⟩ <;> (repeat (first | with_reducible assumption | with_reducible apply cell_alloc_some | with_reducible apply cell_drew_some | with_reducible refine cell_below (by with_reducible assumption) ?_ | with_reducible refine cell_set_other (by omega) ?_))) | fail) (first
          | (go_at_call 47; (with_reducible refine (parseName_some a v b.nm st _ ha1 (I.out.err.below (Below.refl _ _).drew) (I.out.nm.below (Below.refl _ _).drew) HI).mono ?_); rintro e w3 ⟨rfl, hb⟩)
          | fail)
        have hb3 : Below w2.heap.size w2 w3 := Below.up (Below.refl _ _).drew hb
        have hI3 := I.out.below hb3
        have hS1 := HS1.out.below hb3
        have hS2 := HS2.out.below hb3
        clear I HS1 HS2 k0 k1 k2 hc0 hb hb3
        have I := Lib.hid hI3
        have HS1 := Lib.hid hS1
        have HS2 := Lib.hid hS2
        obtain ⟨k0, k1, k2⟩ := hI3.cells
        clear hI3 hS1 hS2
        by_cases m1 : L2.length = 1
        · have t1 : L2.tail = [] := by
            cases L2 with
            | nil => cases m1
            | cons x r => simp at m1; rw [List.tail_cons]; exact m1
          have HE := Lib.hid (show M.ends b (M.splitOn 45 (M.bs h)) = some (st, st, false) by rw [HA.out, t1]; exact M.ends_1 HZZ.out HI.out)
          have x1 : ((n2 : Int) == 1) = true := by rw [beq_iff_eq, HN2.out, m1]; rfl
          clear m1 t1
          go_wp2
          go_meet
          exact ⟨st, st, 0, false, rfl, rfl, rfl, Lib.hid ⟨rfl, HE.out⟩, I, HS1⟩
        · have x1 : ((n2 : Int) == 1) = false := by rw [beq_eq_false_iff_ne, HN2.out]; omega
          by_cases m2 : L2.length = 2
          · have x2 : ((n2 : Int) == 2) = true := by rw [beq_iff_eq, HN2.out, m2]; rfl
            have x3 : (1 : Int) < (n2 : Int) := by rw [HN2.out, m2]; omega
            obtain ⟨c, hc⟩ : ∃ c, L2[1] = c := ⟨_, rfl⟩
            have hcs : c.size ≤ 2147483647 := by
              have := piece_size HL2.out 1 (by omega)
              rw [hc] at this
              omega
            have hc1 := HS2.out.2 1 (by omega)
            rw [hc] at hc1
            have t2 : L2.tail.map M.bs = [M.bs c] := by
              match L2, m2, hc with
              | [x, y], _, hc => simp at hc; rw [← hc]; rfl
            have HE := Lib.hid (show M.ends b (M.splitOn 45 (M.bs h)) = match M.ion b.nm (M.bs c) with | none => none | some e => some (st, e, false) by rw [HA.out, t2]; exact M.ends_2 HZZ.out HI.out)
            clear m1 m2 hc t2
            cases hj : M.ion b.nm (M.bs c) with
            | none =>
              have HJ := Lib.hid hj
              have HO := Lib.hid (show o = none by rw [← ho.out]; exact M.item_none HT.out (by rw [HE.out, hj]))
              clear hj HE
              go_upto_region 19 with fail
              go_region_held3 (fun w' => w'.cell? ⟨g2, 1, none⟩ = some (.string c) ∧ w'.cell? ⟨w.heap.size, 2, none⟩ = some v) (first | (refine ⟨?_, ?_⟩ <;> (repeat (first | with_reducible assumption | with_reducible apply cell_alloc_some | with_reducible apply cell_drew_some | with_reducible refine cell_below (by with_reducible assumption) ?_ | with_reducible refine cell_set_other (by omega) ?_))) | fail) (first
                | (go_at_call 47; (with_reducible refine (parseName_none c v b.nm _ hcs (I.out.err.below (Below.refl _ _).drew) (I.out.nm.below (Below.refl _ _).drew) HJ).mono ?_); rintro e w4 ⟨⟨et, ev, rfl⟩, hb⟩)
                | fail)
              have HB := Lib.hid (Below.up I.out.bel (Below.up (Below.refl _ _).drew hb))
              clear hb
              go_wp2
              go_ret2
              exact bitRes_none HO.out _ _ rfl HB.out
            | some en =>
              have HJ := Lib.hid hj
              have HE2 := Lib.hid (show M.ends b (M.splitOn 45 (M.bs h)) = some (st, en, false) by rw [HE.out, hj])
              clear hj HE
              go_upto_region 19 with fail
              go_region_held3 (fun w' => w'.cell? ⟨g2, 1, none⟩ = some (.string c) ∧ w'.cell? ⟨w.heap.size, 2, none⟩ = some v) (first | (refine ⟨?_, ?_⟩ <;> (repeat (first | with_reducible assumption | with_reducible apply cell_alloc_some | with_reducible apply cell_drew_some | with_reducible refine cell_below (by with_reducible assumption) ?_ | with_reducible refine cell_set_other (by omega) ?_))) | fail) (first
                | (go_at_call 47; (with_reducible refine (parseName_some c v b.nm en _ hcs (I.out.err.below (Below.refl _ _).drew) (I.out.nm.below (Below.refl _ _).drew) HJ).mono ?_); rintro e w4 ⟨rfl, hb⟩)
                | fail)
              have hb4 : Below w3.heap.size w3 w4 := Below.up (Below.refl _ _).drew hb
              have I4 := Lib.hid (I.out.below hb4)
              have HS4 := Lib.hid (HS1.out.below hb4)
              clear hb hb4
              go_wp2
              go_meet
              exact ⟨st, en, 0, false, rfl, rfl, rfl, Lib.hid ⟨rfl, HE2.out⟩, I4, HS4⟩
          · have x2 : ((n2 : Int) == 2) = false := by rw [beq_eq_false_iff_ne, HN2.out]; omega
            have HO := Lib.hid (show o = none by
              rw [← ho.out]
              refine M.item_none HT.out ?_
              have hp := hn2
              rw [HN2.out] at hp
              match L2, m1, m2, hp, HA.out with
              | [], _, _, hp, _ => exact absurd hp (by simp)
              | [_], m1, _, _, _ => exact absurd rfl m1
              | [_, _], _, m2, _, _ => exact absurd rfl m2
              | _ :: x :: y :: r, _, _, _, hA => rw [hA]; exact M.ends_3 HZZ.out HI.out)
            clear m1 m2
            go_wp2_with (go_at_call 48; (with_reducible refine (errNew_any _ _).mono ?_); rintro e w4 ⟨⟨et, ev, rfl⟩, hb⟩; have HB := Lib.hid (Below.up I.out.bel hb); clear hb)
            go_ret2
            exact bitRes_none HO.out _ _ rfl HB.out
    · have hz : M.bs a = [42] ∨ M.bs a = [63] := by have := HZ.out; simpa using this.symm
      have HE := Lib.hid (show starV true = starV true ∧ M.ends b (M.splitOn 45 (M.bs h)) = some (b.mn, b.mx, true) from ⟨rfl, by rw [HA.out]; exact M.ends_star hz⟩)
      obtain ⟨k0, k1, k2⟩ := I.out.cells
      clear hz HZ
      go_wp2
      go_meet
      exact ⟨b.mn, b.mx, starV true, true, rfl, rfl, rfl, Lib.hid ⟨rfl, HE.out.2⟩, I, HS1⟩
  case rest =>
  obtain ⟨st, en, xv, ex, rfl, rfl, rfl, HE, I2, HS9⟩ := hcut
  clear I HS1 HS2 hc0 HA HZ
  have I := I2
  have HS1 := HS9
  clear I2 HS9
  go_upto_block 1 with fail
  go_cut [7, 8, 13] (fun s7 s8 s13 wx => ∃ (e2 sp xv2 : Nat) (ex2 : Bool), s7 = .int .u64 (e2 : Int) ∧ s8 = .int .u64 (sp : Int) ∧ s13 = .int .u64 (xv2 : Int) ∧ Hid (xv2 = starV ex2 ∧ M.item b (M.bs s) = M.fin b st e2 sp ex2 ∧ sp < 9223372036854775808) ∧ Hid (RSt w wx b v))
  case first =>
    obtain ⟨k0, k1, k2⟩ := I.out.cells
    by_cases m1 : L1.length = 1
    · have x1 : ((n1 : Int) == 1) = true := by rw [beq_iff_eq, HN1.out, m1]; rfl
      have HO := Lib.hid (show M.item b (M.bs s) = M.fin b st en 1 ex by
        have t1 : L1.tail = [] := by
          cases L1 with
          | nil => cases m1
          | cons x r => simp at m1; rw [List.tail_cons]; exact m1
        have hT := HT.out
        rw [t1] at hT
        exact M.item_no hT HE.out.2)
      clear m1
      go_wp2
      go_meet
      exact ⟨en, 1, xv, ex, rfl, rfl, rfl, Lib.hid ⟨HE.out.1, HO.out, by omega⟩, I⟩
    · have x1 : ((n1 : Int) == 1) = false := by rw [beq_eq_false_iff_ne, HN1.out]; omega
      by_cases m2 : L1.length = 2
      · have x2 : ((n1 : Int) == 2) = true := by rw [beq_iff_eq, HN1.out, m2]; rfl
        have x3 : (1 : Int) < (n1 : Int) := by rw [HN1.out, m2]; omega
        obtain ⟨c, hc⟩ : ∃ c, L1[1] = c := ⟨_, rfl⟩
        have hcs : c.size ≤ 140737488351232 := by
          have := piece_size HL1.out 1 (by omega)
          rw [hc] at this
          omega
        have hc1 := HS1.out.2 1 (by omega)
        rw [hc] at hc1
        have HO := Lib.hid (show M.item b (M.bs s) = match M.num (M.bs c) with | none => none | some sp => M.fin b st (if (M.splitOn 45 (M.bs h)).length = 1 then b.mx else en) sp (ex && decide (sp ≤ 1)) by
          have t2 : L1.tail.map M.bs = [M.bs c] := by
            match L1, m2, hc with
            | [x, y], _, hc => simp at hc; rw [← hc]; rfl
          have hT := HT.out
          rw [t2] at hT
          exact M.item_st hT HE.out.2)
        have HLEN := Lib.hid (show ((M.splitOn 45 (M.bs h)).length = 1) = (q = true) by
          rw [← HQ1.out, ← HL2.out, List.length_map, beq_iff_eq, HN2.out]
          exact propext ⟨fun k => by omega, fun k => by omega⟩)
        clear m1 m2 hc
        cases hj : M.num (M.bs c) with
        | none =>
          have HJ := Lib.hid hj
          have HOO := Lib.hid (show o = none by rw [← ho.out, HO.out, hj])
          clear hj
          go_wp2_with (go_at_call 49; (with_reducible refine (mustParse_none c _ hcs I.out.err HJ).mono ?_); rintro e w4 ⟨⟨et, ev, rfl⟩, hb⟩; have HB := Lib.hid (Below.up I.out.bel hb); clear hb)
          go_ret2
          exact bitRes_none HOO.out _ _ rfl HB.out
        | some sp =>
          have HJ := Lib.hid hj
          have HSP := Lib.hid (M.num_lt hj)
          have HO2 := Lib.hid (show M.item b (M.bs s) = M.fin b st (if q = true then b.mx else en) sp (ex && decide (sp ≤ 1)) by
            rw [HO.out, hj]
            simp only [HLEN.out])
          clear hj HO HLEN
          by_cases hsp : 1 < sp
          · have HO3 := Lib.hid (show M.item b (M.bs s) = M.fin b st (if q = true then b.mx else en) sp false by
              rw [HO2.out, decide_eq_false (by omega), Bool.and_false])
            clear HO2
            rcases q with _ | _
            all_goals
              go_wp2_with (go_at_call 49; (with_reducible refine (mustParse_some c sp _ hcs I.out.err HJ).mono ?_); rintro e w4 ⟨rfl, hb⟩; have I4 := Lib.hid (I.out.below hb); clear hb k0 k1 k2; obtain ⟨k0, k1, k2⟩ := I4.out.cells)
              go_meet
              exact ⟨_, sp, 0, false, rfl, rfl, rfl, Lib.hid ⟨rfl, HO3.out, HSP.out⟩, I4⟩
          · have HO3 := Lib.hid (show M.item b (M.bs s) = M.fin b st (if q = true then b.mx else en) sp ex by
              rw [HO2.out, decide_eq_true (by omega), Bool.and_true])
            clear HO2
            rcases q with _ | _
            all_goals
              go_wp2_with (go_at_call 49; (with_reducible refine (mustParse_some c sp _ hcs I.out.err HJ).mono ?_); rintro e w4 ⟨rfl, hb⟩; have I4 := Lib.hid (I.out.below hb); clear hb k0 k1 k2; obtain ⟨k0, k1, k2⟩ := I4.out.cells)
              go_meet
              exact ⟨_, sp, xv, ex, rfl, rfl, rfl, Lib.hid ⟨HE.out.1, HO3.out, HSP.out⟩, I4⟩
      · have x2 : ((n1 : Int) == 2) = false := by rw [beq_eq_false_iff_ne, HN1.out]; omega
        have HO := Lib.hid (show o = none by
          rw [← ho.out]
          have hp := hn1
          rw [HN1.out] at hp
          match L1, m1, m2, hp, HT.out with
          | [], _, _, hp, _ => exact absurd hp (by simp)
          | [_], m1, _, _, _ => exact absurd rfl m1
          | [_, _], _, m2, _, _ => exact absurd rfl m2
          | _ :: x :: y :: r, _, _, _, hT => exact M.item_many hT HE.out.2)
        clear m1 m2
        go_wp2_with (go_at_call 48; (with_reducible refine (errNew_any _ _).mono ?_); rintro e w4 ⟨⟨et, ev, rfl⟩, hb⟩; have HB := Lib.hid (Below.up I.out.bel hb); clear hb)
        go_ret2
        exact bitRes_none HO.out _ _ rfl HB.out
  case rest =>
  obtain ⟨e2, sp, xv2, ex2, rfl, rfl, rfl, HF, I2⟩ := hcut
  clear I HS1 HE
  have I := I2
  clear I2
  obtain ⟨k0, k1, k2⟩ := I.out.cells
  by_cases p1 : st < b.mn
  · have HO := Lib.hid (show o = none by rw [← ho.out, HF.out.2.1]; unfold M.fin; rw [if_pos (by omega)])
    clear HF
    go_wp2_with (go_at_call 48; (with_reducible refine (errNew_any _ _).mono ?_); rintro e w4 ⟨⟨et, ev, rfl⟩, hb⟩; have HB := Lib.hid (Below.up I.out.bel hb); clear hb)
    go_ret2
    exact bitRes_none HO.out _ _ rfl HB.out
  by_cases p2 : b.mx < e2
  · have HO := Lib.hid (show o = none by rw [← ho.out, HF.out.2.1]; unfold M.fin; rw [if_pos (by omega)])
    clear HF
    go_wp2_with (go_at_call 48; (with_reducible refine (errNew_any _ _).mono ?_); rintro e w4 ⟨⟨et, ev, rfl⟩, hb⟩; have HB := Lib.hid (Below.up I.out.bel hb); clear hb)
    go_ret2
    exact bitRes_none HO.out _ _ rfl HB.out
  by_cases p3 : e2 < st
  · have HO := Lib.hid (show o = none by rw [← ho.out, HF.out.2.1]; unfold M.fin; rw [if_pos (by omega)])
    clear HF
    go_wp2_with (go_at_call 48; (with_reducible refine (errNew_any _ _).mono ?_); rintro e w4 ⟨⟨et, ev, rfl⟩, hb⟩; have HB := Lib.hid (Below.up I.out.bel hb); clear hb)
    go_ret2
    exact bitRes_none HO.out _ _ rfl HB.out
  by_cases p4 : sp = 0
  · have HO := Lib.hid (show o = none by rw [← ho.out, HF.out.2.1]; unfold M.fin; rw [if_pos (by omega)])
    have x4 : ((sp : Int) == 0) = true := by rw [beq_iff_eq]; omega
    clear HF p4
    go_wp2_with (go_at_call 48; (with_reducible refine (errNew_any _ _).mono ?_); rintro e w4 ⟨⟨et, ev, rfl⟩, hb⟩; have HB := Lib.hid (Below.up I.out.bel hb); clear hb)
    go_ret2
    exact bitRes_none HO.out _ _ rfl HB.out
  have x4 : ((sp : Int) == 0) = false := by rw [beq_eq_false_iff_ne]; omega
  have hse : st ≤ e2 := by omega
  have he2 : e2 ≤ 62 := by omega
  have hsp0 : 0 < sp := by omega
  have HSP := Lib.hid (show (sp : Int) < 9223372036854775808 by have := HF.out.2.2; omega)
  have HO := Lib.hid (show o = some (M.gbits st e2 sp ||| xv2) by
    rw [← ho.out, HF.out.2.1, HF.out.1]
    unfold M.fin starV
    rw [if_neg (by omega)])
  have HOR := Lib.hid (show bits .or .u64 ((M.gbits st e2 sp : Nat) : Int) (xv2 : Int) = ((M.gbits st e2 sp ||| xv2 : Nat) : Int) from M.or64 (M.gbits_lt64 _ _ _) (by rw [HF.out.1]; unfold starV; split <;> decide))
  clear HF p4
  go_wp2_with (go_at_call 50; (with_reducible refine (getBits_any st e2 sp _ hse he2 hsp0 HSP.out).mono ?_); rintro e w4 ⟨rfl, rfl⟩)
  go_ret2
  exact bitRes_some HO.out HOR.out rfl I.out.bel
end Go.Proofs.YtjipjhpehfbpkaaDoor
