/-
  (*Version).Equal over two versions in memory.
-/
import Derived.Test.YtnkdpgcfaelpkaaDoorCons
import Derived.LaidEqlPtr
namespace Go.Proofs.YtnkdpgcfaelpkaaDoor
open Go.RowKit
set_option maxRecDepth 100000
set_option linter.unusedVariables false

theorem CSt.self {w wx : World} {N K M' : Nat} {x y : V} {o o' s : ByteArray} {di mi pa : Bool} (h : CSt w wx N K M' x y o o' s di mi pa) : CSt wx wx N K M' x y o o' s di mi pa :=
  ⟨h.atx, h.aty, h.atk, h.num, Below.refl _ _⟩
theorem cmp_at_same {x y : V} {o o' : ByteArray} {N : Nat} {w : World} (hx : AtV w N x o) (hy : AtV w N y o') : x.cmp y = 0 := by
  have h := Option.some.inj (hx.symm.trans hy)
  simp only [V.cells, Obj.cells.injEq, Array.mk.injEq, List.cons.injEq, Value.int.injEq, Value.string.injEq, true_and, and_true] at h
  have e : x = y := by
    obtain ⟨a, b, c, p, m⟩ := x
    obtain ⟨a', b', c', p', m'⟩ := y
    simp_all
    omega
  rw [e]
  exact V.cmp_self _
theorem ver_info : ∃ j, Tryd.prog.info? 41 = some j ∧ j.size ≠ 0 := by
  have h : (Tryd.prog.info? 41).map (·.size) = some 6 := by kernel_rfl
  cases hi : Tryd.prog.info? 41 with
  | none => rw [hi] at h; cases h
  | some j => rw [hi] at h; exact ⟨j, rfl, by have := Option.some.inj h; simp only at this; omega⟩
set_option maxHeartbeats 1000000 in
theorem equalPtr_any (x y : V) (o o' : ByteArray) (N K : Nat) (w : World) (hx : AtV w N x o) (hy : AtV w K y o') (gx : x.pGood) (gy : y.pGood) (hn : NumErrs w) (zx : x.p.size ≤ 2147483647) (zy : y.p.size ≤ 2147483647) :
    Calls Tryd.prog 67 #[.pointer (some ⟨N, 0, none⟩), .pointer (some ⟨K, 0, none⟩)] w fun e w' => e = .returned (.bool (decide (x.cmp y = 0))) ∧ Below w.heap.size w w' := by
  obtain ⟨j, hj, hjs⟩ := ver_info
  by_cases h : N = K
  · subst h
    have hz := Lib.hid (cmp_at_same hx hy)
    have he := fun w : World => run_eql_ptr_same (P := Tryd.prog) w ⟨N, 0, none⟩ (tp := 42) Tryd.underlying42 hj
    go_enter Tryd.func67, Tryd.ntmps67
    go_wp2
    go_ret
    exact ⟨ret_b (by rw [hz.out]; rfl), Below.refl _ _⟩
  · have he := run_eql_ptr_other (P := Tryd.prog) w (a := ⟨N, 0, none⟩) (b := ⟨K, 0, none⟩) (tp := 42) Tryd.underlying42 hj hjs (by simpa only [ne_eq, Addr.mk.injEq, and_true] using h) hx hy
    have HH := Lib.hid h
    clear h
    go_enter Tryd.func67, Tryd.ntmps67
    go_wp2_with (go_at_call 69; refine (compare_any x y o o' N K _ hx hy gx gy hn zx zy).mono ?_; rintro e w1 ⟨rfl, hb⟩; have HB := Lib.hid hb; clear hb)
    go_ret
    exact ⟨ret_b (by rw [Bool.eq_iff_iff]; simp), HB.out⟩
theorem splitOn_nil_list {N : List ByteArray} (h : N.map M.bs = M.splitOn 46 (M.bs ⟨#[]⟩)) : N = [⟨#[]⟩] := by
  have e : M.splitOn 46 (M.bs ⟨#[]⟩) = [[]] := rfl
  rw [e] at h
  rcases N with _ | ⟨b, _ | ⟨c, N⟩⟩
  · cases h
  · simp only [List.map_cons, List.map_nil, List.cons.injEq, and_true] at h
    obtain ⟨⟨l⟩⟩ := b
    have : l = [] := h
    subst this
    rfl
  · simp at h
set_option maxHeartbeats 1000000 in
theorem compPre_nil (p q : ByteArray) (w : World) (gp : M.goodPre (M.bs p) = true) (hq : M.bs q = []) (hn : NumErrs w) (zx : p.size ≤ 2147483647) (zy : q.size ≤ 2147483647) :
    Calls Tryd.prog 68 #[.string p, .string q] w fun e w' => e = .returned (.int .i64 1) ∧ Below w.heap.size w w' := by
  have GP := Lib.hid gp
  obtain rfl : q = ⟨#[]⟩ := by
    obtain ⟨⟨l⟩⟩ := q
    have : l = [] := hq
    subst this
    rfl
  have HN := Lib.hid hn
  clear hn gp hq
  go_enter Tryd.func68, Tryd.ntmps68
  go_wp2_with fail
  refine (zzSplit_any p 46 _ zx).mono ?_
  rintro e w1 ⟨v, L, rfl, hL, hown, hb⟩
  have HB1 := Lib.hid hb
  have HR1 := Lib.hid hown.read
  have HL1 := Lib.hid hL
  clear hL hown hb
  go_wp2_with fail
  refine (zzSplit_any ⟨#[]⟩ 46 _ zy).mono ?_
  rintro e w2 ⟨v2, N, rfl, hL, hown, hb⟩
  obtain rfl := splitOn_nil_list hL
  obtain ⟨A, cap, rfl, hcell⟩ := HR1.out.kept hb
  obtain ⟨A2, cap2, rfl, hcell2⟩ := hown.read
  have hlen := pieces_len HL1.out
  have F1 := Lib.hid (fit_of GP.out HL1.out)
  have HB := Lib.hid (HB1.out.trans (hb.mono HB1.out.size))
  have Z1 := Lib.hid (piece_size HL1.out)
  have HLP : 0 < L.length := by
    have h := congrArg List.length HL1.out
    rw [List.length_map] at h
    have := List.length_pos_iff.2 (M.splitOn_ne 46 (M.bs p))
    omega
  obtain ⟨b, a, rfl, hbl, hc1⟩ := hcell 0 HLP
  obtain ⟨b2, a2, rfl, hbl2, hc2⟩ := hcell2 0 (by decide)
  have hsz := Z1.out 0 HLP
  have FK := Lib.hid (F1.out _ (List.getElem_mem HLP)).2
  have PK := part_left (F1.out _ (List.getElem_mem HLP)).1
  have HNE := Lib.hid (HN.out.below HB.out)
  have hc3 : w2.cell? ⟨b2, a2, none⟩ = some (.string ⟨#[]⟩) := hc2
  have hc4 : w2.cell? ⟨b, a, none⟩ = some (.string L[0]) := hc1
  generalize L[0] = l0 at *
  have HC3 := Lib.hid hc3
  have HC4 := Lib.hid hc4
  have hln : (L.length : Int) ≤ 2147483648 := by omega
  have hlp : (0 : Int) < L.length := by omega
  clear HR1 HL1 hL hown hb HB1 hcell hcell2 Z1 F1 hc1 hc2 hc3 hc4 hlen HLP
  generalize L.length = n at *
  go_wp2
  all_goals
    go_loopw [10] (fun i wr => i = .int .i64 0 ∧ Hid (Below w2.heap.size w2 wr)) (fun _ _ => 0)
    case atStart => exact ⟨rfl, Lib.hid (Below.refl _ _)⟩
    case round =>
      obtain ⟨rfl, HR⟩ := hrel
      have HBE := Lib.hid (HB.out.trans (HR.out.mono HB.out.size))
      have HNW := Lib.hid (HNE.out.below HR.out)
      have hc3 : wr.cell? ⟨b2, a2, none⟩ = some (.string ⟨#[]⟩) := by rw [HR.out.cell (p := ⟨b2, a2, none⟩) hbl2]; exact HC3.out
      have hc4 : wr.cell? ⟨b, a, none⟩ = some (.string l0) := by rw [HR.out.cell (p := ⟨b, a, none⟩) hbl]; exact HC4.out
      go_wp2_with ((go_at_call 76; (with_reducible refine (comparePart_is _ _ 1 _ (by omega) (by decide) HNW.out FK fits_nil PK).mono ?_); rintro e w3 ⟨rfl, hb3⟩; have HB3 := Lib.hid (HBE.out.trans (Below.mono hb3 HBE.out.size)); clear hb3))
      go_ret
      exact ⟨rfl, HB3.out⟩
end Go.Proofs.YtnkdpgcfaelpkaaDoor
