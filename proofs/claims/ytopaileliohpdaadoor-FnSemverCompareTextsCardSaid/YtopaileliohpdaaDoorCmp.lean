import Derived.Test.YtopaileliohpdaaDoorNum
import Derived.Test.YtopaileliohpdaaDoorVal
import Derived.Test.YtopaileliohpdaaDoorSplit
namespace Go.Proofs.YtopaileliohpdaaDoor
open Go.RowKit
set_option maxRecDepth 100000

namespace M
theorem cmpL_map {α β : Type} (f : β → β → Int) (g : α → β) : ∀ l r : List α, cmpL f (l.map g) (r.map g) = cmpL (fun a b => f (g a) (g b)) l r
  | [], [] => rfl
  | [], _ :: _ => rfl
  | _ :: _, [] => rfl
  | a :: l, b :: r => by
    have := cmpL_map f g l r
    simp only [List.map_cons, cmpL, this]
theorem cmpL_both {α : Type} (f : α → α → Int) {l r : List α} {k : Nat} (h1 : k < l.length) (h2 : k < r.length) :
    cmpL f (l.drop k) (r.drop k) = if f l[k] r[k] = 0 then cmpL f (l.drop (k + 1)) (r.drop (k + 1)) else f l[k] r[k] := by
  rw [List.drop_eq_getElem_cons h1, List.drop_eq_getElem_cons h2]; rfl
theorem cmpL_left {α : Type} (f : α → α → Int) {l r : List α} {k : Nat} (h1 : k < l.length) (h2 : r.length ≤ k) : cmpL f (l.drop k) (r.drop k) = 1 := by
  rw [List.drop_eq_getElem_cons h1, List.drop_eq_nil_of_le h2]; rfl
theorem cmpL_right {α : Type} (f : α → α → Int) {l r : List α} {k : Nat} (h1 : l.length ≤ k) (h2 : k < r.length) : cmpL f (l.drop k) (r.drop k) = -1 := by
  rw [List.drop_eq_getElem_cons h2, List.drop_eq_nil_of_le h1]; rfl
theorem cmpL_end {α : Type} (f : α → α → Int) {l r : List α} {k : Nat} (h1 : l.length ≤ k) (h2 : r.length ≤ k) : cmpL f (l.drop k) (r.drop k) = 0 := by
  rw [List.drop_eq_nil_of_le h2, List.drop_eq_nil_of_le h1]; rfl
/-- a prerelease whose pieces are fit and whose numbers are small -/
def goodPre (l : Bs) : Bool := validPre l && smallPre l
def F (a b : ByteArray) : Int := partSpec (bs a) (bs b)
end M

/-- the pieces of a good prerelease -/
def Fit (L : List ByteArray) : Prop := ∀ b ∈ L, M.okPiece (M.bs b) = true ∧ (M.digits (M.bs b) = true → M.fits (M.bs b) = true)
theorem fit_of {s : ByteArray} {L : List ByteArray} (hg : M.goodPre (M.bs s) = true) (h : L.map M.bs = M.splitOn 46 (M.bs s)) : Fit L := by
  intro b hb
  have hm : M.bs b ∈ M.splitOn 46 (M.bs s) := by rw [← h]; exact List.mem_map.2 ⟨b, hb, rfl⟩
  simp only [M.goodPre, M.validPre, M.smallPre, Bool.and_eq_true, List.all_eq_true] at hg
  have h1 := hg.1 _ hm
  have h2 := hg.2 _ hm
  refine ⟨by simp only [M.okPiece, Bool.and_eq_true]; exact h1, fun hd => M.fits_small hd ?_⟩
  rw [hd, Bool.true_and, Bool.not_eq_true', decide_eq_false_iff_not] at h2
  omega

theorem comparePart_is (s o : ByteArray) (r : Int) (w : World) (hs : s.size ≤ 140737488351232) (ho : o.size ≤ 140737488351232) (hn : NumErrs w)
    (fs : Hid (M.digits (M.bs s) = true → M.fits (M.bs s) = true)) (fo : Hid (M.digits (M.bs o) = true → M.fits (M.bs o) = true)) (hr : Hid (M.part (M.bs s) (M.bs o) = r)) :
    Calls Tryd.prog 95 #[.string s, .string o] w fun e w' => e = .returned (.int .i64 r) ∧ Below w.heap.size w w' := by
  have := comparePrePart_any s o w hs ho hn fs.out fo.out
  rw [hr.out] at this
  exact this
theorem fits_nil : Hid (M.digits (M.bs ⟨#[]⟩) = true → M.fits (M.bs ⟨#[]⟩) = true) := Lib.hid (fun h => by simp [M.digits, M.bs] at h)
theorem part_left {p : ByteArray} (h : M.okPiece (M.bs p) = true) : Hid (M.part (M.bs p) (M.bs ⟨#[]⟩) = 1) := by
  have := (M.okPiece_parts h).1
  have e : M.bs ⟨#[]⟩ = [] := rfl
  exact Lib.hid (by rw [e, M.part, if_neg this, if_neg this, if_pos rfl])
theorem part_right {p : ByteArray} (h : M.okPiece (M.bs p) = true) : Hid (M.part (M.bs ⟨#[]⟩) (M.bs p) = -1) := by
  have := (M.okPiece_parts h).1
  have e : M.bs ⟨#[]⟩ = [] := rfl
  exact Lib.hid (by rw [e, M.part, if_neg (fun h => this h.symm), if_pos rfl])

theorem ret_int {a b : Int} (h : a = b) : Ending.returned (.int .i64 a) = .returned (.int .i64 b) := by rw [h]

theorem comparePrerelease_any (s o : ByteArray) (w : World) (hs : s.size ≤ 2147483647) (ho : o.size ≤ 2147483647) (hn : NumErrs w)
    (gs : Hid (M.goodPre (M.bs s) = true)) (go : Hid (M.goodPre (M.bs o) = true)) :
    Calls Tryd.prog 77 #[.string s, .string o] w fun e w' => e = .returned (.int .i64 (M.cmpPre (M.bs s) (M.bs o))) ∧ Below w.heap.size w w' := by
  have HN := Lib.hid hn
  clear hn
  go_enter Tryd.func77, Tryd.ntmps77
  go_wp2_with fail
  refine (zzSplit_any s 46 _ hs).mono ?_
  rintro e w1 ⟨v, L, rfl, hL, hown, hb⟩
  have HB1 := Lib.hid hb
  have HR1 := Lib.hid hown.read
  have HL1 := Lib.hid hL
  clear hL hown hb
  go_wp2_with fail
  refine (zzSplit_any o 46 _ ho).mono ?_
  rintro e w2 ⟨v2, N, rfl, hL, hown, hb⟩
  obtain ⟨A, cap, rfl, hcell⟩ := HR1.out.kept hb
  obtain ⟨A2, cap2, rfl, hcell2⟩ := hown.read
  have hlen := pieces_len HL1.out
  have hlen2 := pieces_len hL
  have F1 := Lib.hid (fit_of gs.out HL1.out)
  have F2 := Lib.hid (fit_of go.out hL)
  have HP := Lib.hid (show M.cmpPre (M.bs s) (M.bs o) = M.cmpL M.F L N by rw [M.cmpPre, ← HL1.out, ← hL, M.cmpL_map]; rfl)
  have HB := Lib.hid (HB1.out.trans (hb.mono HB1.out.size))
  have Z1 := Lib.hid (piece_size HL1.out)
  have Z2 := Lib.hid (piece_size hL)
  have HC := Lib.hid hcell
  have HC2 := Lib.hid hcell2
  clear HR1 HL1 hL hown hb HB1 hcell hcell2
  go_wp2
  all_goals go_ways
  all_goals
    go_loopw [10] (fun i wr => ∃ k : Nat, (k ≤ L.length ∨ k ≤ N.length) ∧ i = .int .i64 k ∧ Hid (M.cmpPre (M.bs s) (M.bs o) = M.cmpL M.F (L.drop k) (N.drop k)) ∧ Hid (Below w2.heap.size w2 wr)) (fun i _ => (if L.length < N.length then N.length else L.length) - (intOf i).toNat)
    case atStart => exact ⟨0, .inl (Nat.zero_le _), rfl, Lib.hid (by rw [HP.out]; rfl), Lib.hid (Below.refl _ _)⟩
    case round =>
      obtain ⟨k, hk, rfl, HA, HR⟩ := hrel
      have HBE := Lib.hid (HB.out.trans (HR.out.mono HB.out.size))
      have HNE := Lib.hid (HN.out.below HBE.out)
      rcases Nat.lt_or_ge k L.length with hlt | hlt <;> rcases Nat.lt_or_ge k N.length with hlt2 | hlt2
      · obtain ⟨b, a, rfl, hbl, hcell⟩ := HC.out k hlt
        have hcell2 : wr.cell? ⟨b, a + k, none⟩ = some (.string L[k]) := by rw [HR.out.cell (p := ⟨b, a + k, none⟩) hbl]; exact hcell
        clear hcell hbl
        obtain ⟨b2, a2, rfl, hbl, hcell⟩ := HC2.out k hlt2
        have hcell3 : wr.cell? ⟨b2, a2 + k, none⟩ = some (.string N[k]) := by rw [HR.out.cell (p := ⟨b2, a2 + k, none⟩) hbl]; exact hcell
        clear hcell hbl
        have hsz := Z1.out k hlt
        have hsz2 := Z2.out k hlt2
        have FK := Lib.hid (F1.out _ (List.getElem_mem hlt)).2
        have FK2 := Lib.hid (F2.out _ (List.getElem_mem hlt2)).2
        have hps := M.part_spec (F1.out _ (List.getElem_mem hlt)).1 (F2.out _ (List.getElem_mem hlt2)).1
        rcases M.partSpec_cmp.range (M.bs L[k]) (M.bs N[k]) with hp | hp | hp
        · have HS := Lib.hid hp
          have PK := Lib.hid (hps.trans hp)
          clear hps hp
          go_wp2_with ((go_at_call 95; (with_reducible refine (comparePart_is _ _ (-1) _ (by omega) (by omega) HNE.out FK FK2 PK).mono ?_); rintro e w3 ⟨rfl, hb3⟩; have HB3 := Lib.hid (HBE.out.trans (hb3.mono HBE.out.size)); clear hb3))
          go_ret
          exact ⟨ret_int (by rw [HA.out, M.cmpL_both _ hlt hlt2, M.F, HS.out, if_neg (by decide)]), HB3.out⟩
        · have HS := Lib.hid hp
          have PK := Lib.hid (hps.trans hp)
          clear hps hp
          go_wp2_with ((go_at_call 95; (with_reducible refine (comparePart_is _ _ 0 _ (by omega) (by omega) HNE.out FK FK2 PK).mono ?_); rintro e w3 ⟨rfl, hb3⟩; have HB3 := Lib.hid (HR.out.trans (hb3.mono HR.out.size)); clear hb3))
          go_roundw
          case rel => exact ⟨k + 1, .inl hlt, by go_num, Lib.hid (by rw [HA.out, M.cmpL_both _ hlt hlt2, M.F, HS.out, if_pos rfl])⟩
          case measure => simp [intOf]; omega
        · have HS := Lib.hid hp
          have PK := Lib.hid (hps.trans hp)
          clear hps hp
          go_wp2_with ((go_at_call 95; (with_reducible refine (comparePart_is _ _ 1 _ (by omega) (by omega) HNE.out FK FK2 PK).mono ?_); rintro e w3 ⟨rfl, hb3⟩; have HB3 := Lib.hid (HBE.out.trans (hb3.mono HBE.out.size)); clear hb3))
          go_ret
          exact ⟨ret_int (by rw [HA.out, M.cmpL_both _ hlt hlt2, M.F, HS.out, if_neg (by decide)]), HB3.out⟩
      · first
        | omega
        | (obtain ⟨b, a, rfl, hbl, hcell⟩ := HC.out k hlt
           have hcell2 : wr.cell? ⟨b, a + k, none⟩ = some (.string L[k]) := by rw [HR.out.cell (p := ⟨b, a + k, none⟩) hbl]; exact hcell
           clear hcell hbl
           have hsz := Z1.out k hlt
           have FK := Lib.hid (F1.out _ (List.getElem_mem hlt)).2
           have PK := part_left (F1.out _ (List.getElem_mem hlt)).1
           go_wp2_with ((go_at_call 95; (with_reducible refine (comparePart_is _ _ 1 _ (by omega) (by decide) HNE.out FK fits_nil PK).mono ?_); rintro e w3 ⟨rfl, hb3⟩; have HB3 := Lib.hid (HBE.out.trans (hb3.mono HBE.out.size)); clear hb3))
           go_ret
           exact ⟨ret_int (by rw [HA.out, M.cmpL_left _ hlt hlt2]), HB3.out⟩)
      · first
        | omega
        | (obtain ⟨b, a, rfl, hbl, hcell⟩ := HC2.out k hlt2
           have hcell2 : wr.cell? ⟨b, a + k, none⟩ = some (.string N[k]) := by rw [HR.out.cell (p := ⟨b, a + k, none⟩) hbl]; exact hcell
           clear hcell hbl
           have hsz := Z2.out k hlt2
           have FK := Lib.hid (F2.out _ (List.getElem_mem hlt2)).2
           have PK := part_right (F2.out _ (List.getElem_mem hlt2)).1
           go_wp2_with ((go_at_call 95; (with_reducible refine (comparePart_is _ _ (-1) _ (by decide) (by omega) HNE.out fits_nil FK PK).mono ?_); rintro e w3 ⟨rfl, hb3⟩; have HB3 := Lib.hid (HBE.out.trans (hb3.mono HBE.out.size)); clear hb3))
           go_ret
           exact ⟨ret_int (by rw [HA.out, M.cmpL_right _ hlt hlt2]), HB3.out⟩)
      · go_wp2
        go_ret
        exact ⟨ret_int (by rw [HA.out, M.cmpL_end _ hlt hlt2]), HBE.out⟩
theorem eq_list (a b : ByteArray) : (a.toList == b.toList) = decide (M.bs a = M.bs b) := by
  rw [toList_bs, toList_bs]
  by_cases h : M.bs a = M.bs b
  · simp [h]
  · rw [decide_eq_false h]; simpa using h
theorem cmpPre_eq {a b : ByteArray} {x : Int} (h : M.cmpPre (M.bs a) (M.bs b) = x) : (a.toList == b.toList) = decide (x = 0) := by
  rw [eq_list]
  exact decide_eq_decide.2 ((M.cmpPre_cmp.iff _ _).symm.trans (by rw [h]))

def numG : List Nat := [7, 8]
theorem numErrs_of {w : World} {sa : Nat → Addr} (h : Sent.Errs numG w sa) : NumErrs w := ⟨⟨_, _, h.var 0 (by decide)⟩, ⟨_, _, h.var 1 (by decide)⟩⟩
/-- an entry that is an interface's value -/
def isE : String × DataW Unit → Bool
  | (_, .iface _ _) => true
  | _ => false

end Go.Proofs.YtopaileliohpdaaDoor
