/-
  strconv.ParseUint at base 10 and 64 bits (by the shelf's contract), and semver's comparison of two pieces of prereleases.
-/
import Derived.Test.YtopaileliohpdaaDoorPre
import Derived.Test.YtopaileliohpdaaDoorSplit
import Derived.Test.YtopaileliohpdaaDoorShelf
import Derived.Test.YtopaileliohpdaaDoorSent
import Derived.WalkLawsBesides
import Derived.Lib.AtoiErrMem
import Derived.Deep.RegionWith
namespace Go.Proofs.YtopaileliohpdaaDoor
open Go.RowKit
set_option maxRecDepth 100000

namespace M
theorem valFrom_mono (p : Bs) (n : Nat) : n ≤ valFrom n p := by
  rw [valFrom_eq]
  have : 1 ≤ 10 ^ p.length := Nat.pow_pos (by omega)
  have := Nat.mul_le_mul_left n this
  omega
theorem parseM_ok : ∀ (p : Bs) (n : Nat), p.all isDig = true → valFrom n p < 18446744073709551616 → Lib.parseUintM (2 ^ 64 - 1) n p = .ok (valFrom n p)
  | [], n, _, _ => rfl
  | c :: r, n, h, hv => by
    rw [List.all_cons, Bool.and_eq_true] at h
    have h1 := dig_le h.1
    rw [valFrom_cons] at hv ⊢
    have h2 := valFrom_mono r (n * 10 + (c.toNat - 48))
    rw [Lib.parseUintM, if_pos h1, if_neg (by omega), if_neg (by omega)]
    exact parseM_ok r _ h.2 hv
theorem parseM_digits : ∀ (p : Bs) (n u : Nat), Lib.parseUintM (2 ^ 64 - 1) n p = .ok u → p.all isDig = true ∧ u = valFrom n p ∧ (n < 18446744073709551616 → u < 18446744073709551616)
  | [], n, u, h => by
    rw [Lib.parseUintM] at h
    cases h
    exact ⟨rfl, rfl, fun h => h⟩
  | c :: r, n, u, h => by
    rw [Lib.parseUintM] at h
    split at h
    · rename_i hc
      split at h
      · cases h
      · split at h
        · cases h
        · rename_i h1 h2
          obtain ⟨a, b, d⟩ := parseM_digits r _ u h
          refine ⟨?_, by rw [valFrom_cons]; exact b, fun _ => d (by omega)⟩
          rw [List.all_cons, a, Bool.and_true]
          simp only [isDig, Bool.and_eq_true, decide_eq_true_eq, UInt8.le_iff_toNat_le]
          exact hc
    · cases h
/-- a number below 2^64 -/
def fits (p : Bs) : Bool := digits p && decide (val p < 18446744073709551616)
theorem parse_ok {p : Bs} (h : fits p = true) : Lib.parseUintB 64 p = .ok (val p) := by
  simp only [fits, digits, Bool.and_eq_true, Bool.not_eq_true', decide_eq_true_eq] at h
  unfold Lib.parseUintB
  rw [if_neg (by intro e; rw [e] at h; simp at h)]
  exact parseM_ok p 0 h.1.2 h.2
theorem parse_not {p : Bs} (h : fits p = false) (u : Nat) : Lib.parseUintB 64 p ≠ .ok u := by
  intro e
  unfold Lib.parseUintB at e
  split at e
  · cases e
  · rename_i hne
    obtain ⟨a, b, d⟩ := parseM_digits p 0 u e
    have : fits p = true := by
      simp only [fits, digits, Bool.and_eq_true, Bool.not_eq_true', decide_eq_true_eq]
      refine ⟨⟨by cases p with | nil => exact absurd rfl hne | cons _ _ => rfl, a⟩, ?_⟩
      have h1 := d (by omega)
      rw [b] at h1
      exact h1
    rw [this] at h
    cases h
theorem fits_small {p : Bs} (h : digits p = true) (hl : p.length ≤ 19) : fits p = true := by
  rw [fits, h, Bool.true_and, decide_eq_true_iff]
  simp only [digits, Bool.and_eq_true] at h
  have h1 := val_lt p h.2
  have h2 : 10 ^ p.length ≤ 10 ^ 19 := Nat.pow_le_pow_right (by omega) hl
  omega
theorem fits_digits {p : Bs} (h : digits p = false) : fits p = false := by rw [fits, h]; rfl
end M

/-- the two errors of strconv hold something -/
def NumErrs (w : World) : Prop := (∃ te pe, w.cell? ⟨7, 0, none⟩ = some (.iface te pe)) ∧ ∃ te pe, w.cell? ⟨8, 0, none⟩ = some (.iface te pe)
theorem NumErrs.below {w w' : World} (h : NumErrs w) (b : Below w.heap.size w w') : NumErrs w' := by
  obtain ⟨⟨t1, p1, h1⟩, t2, p2, h2⟩ := h
  exact ⟨⟨t1, p1, by rw [b.cell (p := ⟨7, 0, none⟩) (Sent.cell_lt h1)]; exact h1⟩, t2, p2, by rw [b.cell (p := ⟨8, 0, none⟩) (Sent.cell_lt h2)]; exact h2⟩

theorem parseUint_ok (s : ByteArray) (w : World) (hs : s.size ≤ 140737488351232) (h : Hid (M.fits (M.bs s) = true)) :
    Calls Tryd.prog 91 #[.string s, .int .i64 10, .int .i64 64] w fun e w' => e = .returned (.tuple #[.int .u64 (M.val (M.bs s)), .nilIface]) ∧ Below w.heap.size w w' := by
  refine (Tryd.strconv_ParseUint_10_at64_ok s (by omega) _ (M.parse_ok h.out) w).mono ?_
  rintro e w' ⟨rfl, rfl | rfl⟩
  · exact ⟨rfl, Below.refl _ _⟩
  · exact ⟨rfl, Lib.bytesWorld_below _ _ _⟩

def ParseErr (w : World) (e : Ending) (w' : World) : Prop := ∃ u N, e = .returned (.tuple #[.int .u64 u, .iface 119 (.pointer (some ⟨N, 0, none⟩))]) ∧ Below w.heap.size w w'
theorem parseUint_err (s : ByteArray) (w : World) (hs : s.size ≤ 140737488351232) (h : Hid (M.fits (M.bs s) = false)) (hn : NumErrs w) :
    Calls Tryd.prog 91 #[.string s, .int .i64 10, .int .i64 64] w (ParseErr w) := by
  obtain ⟨⟨t1, p1, h1⟩, t2, p2, h2⟩ := hn
  cases hp : Lib.parseUintB 64 (M.bs s) with
  | ok u => exact absurd hp (M.parse_not h.out u)
  | range =>
    refine (Any.strconv_ParseUint_10_at64_range Tryd.laysPu14 s (by omega) hp _ w h2 (.inr ⟨t2, p2, rfl⟩)).mono ?_
    rintro e w' ⟨N, rfl, _, _, hb⟩
    exact ⟨_, N, rfl, hb⟩
  | _ =>
    refine (Any.strconv_ParseUint_10_at64_syntax Tryd.laysPu14 s (by omega) hp _ w h1 (.inr ⟨t1, p1, rfl⟩)).mono ?_
    rintro e w' ⟨N, rfl, _, _, hb⟩
    exact ⟨_, N, rfl, hb⟩

theorem toList_bs (s : ByteArray) : s.toList = M.bs s := ByteArray.toList_eq s
theorem bs_inj {a b : ByteArray} (h : M.bs a = M.bs b) : a = b := Go.WideShapes.bytes_inj h

theorem ne_toList {a b : ByteArray} (h : M.bs a ≠ M.bs b) : (a.toList == b.toList) = false := by rw [toList_bs, toList_bs]; simpa using h
theorem nonempty_toList {a : ByteArray} (h : M.bs a ≠ []) : a.toList.isEmpty = false := by rw [toList_bs]; cases e : M.bs a with | nil => exact absurd e h | cons _ _ => rfl
theorem empty_toList {a : ByteArray} (h : M.bs a = []) : a.toList = [] := by rw [toList_bs]; exact h

theorem ret_part {s o : M.Bs} {k : Int} (h : M.part s o = k) : Ending.returned (.int .i64 k) = .returned (.int .i64 (M.part s o)) := by rw [h]

set_option maxHeartbeats 1600000 in
/-- two pieces; each is empty, or a number below 2^64 without a leading zero, or no number -/
theorem comparePrePart_any (s o : ByteArray) (w : World) (hs : s.size ≤ 140737488351232) (ho : o.size ≤ 140737488351232) (hn : NumErrs w)
    (fs : M.digits (M.bs s) = true → M.fits (M.bs s) = true) (fo : M.digits (M.bs o) = true → M.fits (M.bs o) = true) :
    Calls Tryd.prog 95 #[.string s, .string o] w fun e w' => e = .returned (.int .i64 (M.part (M.bs s) (M.bs o))) ∧ Below w.heap.size w w' := by
  have HN := Lib.hid hn
  clear hn
  by_cases e : M.bs s = M.bs o
  · have := bs_inj e
    subst this
    go_enter Tryd.func95, Tryd.ntmps95
    go_wp2
    go_ret
    exact ⟨ret_part (by simp [M.part]), Below.refl _ _⟩
  by_cases es : M.bs s = []
  · have h1 : s.toList = [] := empty_toList es
    have h2 : o.toList.isEmpty = false := nonempty_toList (fun h => e (es.trans h.symm))
    have HR := Lib.hid (show M.part (M.bs s) (M.bs o) = -1 by rw [M.part, if_neg e, if_pos es])
    clear e es fs fo
    go_enter Tryd.func95, Tryd.ntmps95
    go_wp2
    go_ret
    exact ⟨ret_part HR.out, Below.refl _ _⟩
  by_cases eo : M.bs o = []
  · have h1 : o.toList = [] := empty_toList eo
    have h2 : s.toList.isEmpty = false := nonempty_toList es
    have h3 := ne_toList e
    have HR := Lib.hid (show M.part (M.bs s) (M.bs o) = 1 by rw [M.part, if_neg e, if_neg es, if_pos eo])
    clear e es eo fs fo
    go_enter Tryd.func95, Tryd.ntmps95
    go_wp2
    go_ret
    exact ⟨ret_part HR.out, Below.refl _ _⟩
  have h1 : o.toList.isEmpty = false := nonempty_toList eo
  have h2 : s.toList.isEmpty = false := nonempty_toList es
  have h3 := ne_toList e
  have HP := Lib.hid (show M.part (M.bs s) (M.bs o) = (if M.digits (M.bs s) = true then (if M.digits (M.bs o) = true then (if M.val (M.bs o) < M.val (M.bs s) then 1 else -1) else -1)
    else if M.digits (M.bs o) = true then 1 else if M.less (M.bs s) (M.bs o) = true then -1 else 1) by rw [M.part, if_neg e, if_neg es, if_neg eo])
  clear e es eo
  cases ds : M.digits (M.bs s) with
  | true =>
    have Fs := Lib.hid (fs ds)
    have DS := Lib.hid ds
    clear fs ds
    cases dd : M.digits (M.bs o) with
    | true =>
      have Fo := Lib.hid (fo dd)
      have DO := Lib.hid dd
      clear fo dd
      go_enter Tryd.func95, Tryd.ntmps95
      go_wp2_with (first
        | (go_at_call_of 91 (Value.string o); (with_reducible refine (parseUint_ok _ _ ho Fo).mono ?_); rintro e w1 ⟨rfl, hbo⟩; have HBo := Lib.hid (hbo); clear hbo)
        | (go_at_call_of 91 (Value.string s); (with_reducible refine (parseUint_ok _ _ hs Fs).mono ?_); rintro e w2 ⟨rfl, hbs⟩; have HBs := Lib.hid (HBo.out.trans (hbs.mono HBo.out.size)); clear hbs))
      all_goals go_ways
      all_goals rename_i hlt
      · go_ret
        exact ⟨ret_part (by rw [HP.out, if_pos DS.out, if_pos DO.out, if_pos hlt]), HBs.out⟩
      · go_ret
        exact ⟨ret_part (by rw [HP.out, if_pos DS.out, if_pos DO.out, if_neg hlt]), HBs.out⟩
    | false =>
      have Fo := Lib.hid (M.fits_digits dd)
      have DO := Lib.hid dd
      clear fo dd
      go_enter Tryd.func95, Tryd.ntmps95
      go_wp2_with (first
        | (go_at_call_of 91 (Value.string o); (with_reducible refine (parseUint_err _ _ ho Fo (HN.out)).mono ?_); rintro e w1 ⟨uo, No, rfl, hbo⟩; have HBo := Lib.hid (hbo); clear hbo)
        | (go_at_call_of 91 (Value.string s); (with_reducible refine (parseUint_ok _ _ hs Fs).mono ?_); rintro e w2 ⟨rfl, hbs⟩; have HBs := Lib.hid (HBo.out.trans (hbs.mono HBo.out.size)); clear hbs))
      go_ret
      exact ⟨ret_part (by rw [HP.out, if_pos DS.out, if_neg (by rw [DO.out]; simp)]), HBs.out⟩
  | false =>
    have Fs := Lib.hid (M.fits_digits ds)
    have DS := Lib.hid ds
    clear fs ds
    cases dd : M.digits (M.bs o) with
    | true =>
      have Fo := Lib.hid (fo dd)
      have DO := Lib.hid dd
      clear fo dd
      go_enter Tryd.func95, Tryd.ntmps95
      go_wp2_with (first
        | (go_at_call_of 91 (Value.string o); (with_reducible refine (parseUint_ok _ _ ho Fo).mono ?_); rintro e w1 ⟨rfl, hbo⟩; have HBo := Lib.hid (hbo); clear hbo)
        | (go_at_call_of 91 (Value.string s); (with_reducible refine (parseUint_err _ _ hs Fs (HN.out.below HBo.out)).mono ?_); rintro e w2 ⟨us, Ns, rfl, hbs⟩; have HBs := Lib.hid (HBo.out.trans (hbs.mono HBo.out.size)); clear hbs))
      go_ret
      exact ⟨ret_part (by rw [HP.out, if_neg (by rw [DS.out]; simp), if_pos DO.out]), HBs.out⟩
    | false =>
      have Fo := Lib.hid (M.fits_digits dd)
      have DO := Lib.hid dd
      clear fo dd
      cases hl : M.less (M.bs s) (M.bs o) with
      | true =>
        have h4 : Op.bytesLess s.toList o.toList = true := by rw [toList_bs, toList_bs]; exact hl
        have HL := Lib.hid hl
        clear hl
        go_enter Tryd.func95, Tryd.ntmps95
        go_wp2_with (first
          | (go_at_call_of 91 (Value.string o); (with_reducible refine (parseUint_err _ _ ho Fo (HN.out)).mono ?_); rintro e w1 ⟨uo, No, rfl, hbo⟩; have HBo := Lib.hid (hbo); clear hbo)
          | (go_at_call_of 91 (Value.string s); (with_reducible refine (parseUint_err _ _ hs Fs (HN.out.below HBo.out)).mono ?_); rintro e w2 ⟨us, Ns, rfl, hbs⟩; have HBs := Lib.hid (HBo.out.trans (hbs.mono HBo.out.size)); clear hbs))
        go_ret
        exact ⟨ret_part (by rw [HP.out, if_neg (by rw [DS.out]; simp), if_neg (by rw [DO.out]; simp), if_pos HL.out]), HBs.out⟩
      | false =>
        have h4 : Op.bytesLess s.toList o.toList = false := by rw [toList_bs, toList_bs]; exact hl
        have HL := Lib.hid hl
        clear hl
        go_enter Tryd.func95, Tryd.ntmps95
        go_wp2_with (first
          | (go_at_call_of 91 (Value.string o); (with_reducible refine (parseUint_err _ _ ho Fo (HN.out)).mono ?_); rintro e w1 ⟨uo, No, rfl, hbo⟩; have HBo := Lib.hid (hbo); clear hbo)
          | (go_at_call_of 91 (Value.string s); (with_reducible refine (parseUint_err _ _ hs Fs (HN.out.below HBo.out)).mono ?_); rintro e w2 ⟨us, Ns, rfl, hbs⟩; have HBs := Lib.hid (HBo.out.trans (hbs.mono HBo.out.size)); clear hbs))
        go_ret
        exact ⟨ret_part (by rw [HP.out, if_neg (by rw [DS.out]; simp), if_neg (by rw [DO.out]; simp), if_neg (by rw [HL.out]; simp)]), HBs.out⟩
end Go.Proofs.YtopaileliohpdaaDoor
