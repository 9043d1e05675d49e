/-
  spec.CronNumberText.
-/
import Derived.Test.YtjipjhpehfbpkaaDoorCStyle
import Derived.Test.YtjipjhpehfbpkaaDoorCJoin
import Derived.Test.YtjipjhpehfbpkaaDoorCErr
import Derived.Lib.ItoaLen
namespace Go.Proofs.YtjipjhpehfbpkaaDoor
open Go.RowKit
set_option maxRecDepth 100000
set_option linter.unusedVariables false

/-- the table of powers stands below block S -/
def PowS (S : Nat) (w : World) : Prop := ∀ w', Below S w w' → Pow10 w'
theorem PowS.of {w0 w : World} {S : Nat} (h : Pow10 w0) (hS : w0.heap.size ≤ S) (hb : Below w0.heap.size w0 w) : PowS S w := fun w' k => h.below (hb.trans (k.mono hS))
theorem PowS.here {w : World} {S : Nat} (h : PowS S w) : Pow10 w := h w (Below.refl _ _)
theorem PowS.below {w w1 : World} {S : Nat} (h : PowS S w) (b : Below S w w1) : PowS S w1 := fun w' k => h w' (b.trans k)
theorem PowS.bar {w w1 : World} {S : Nat} (h : PowS S w) (hs : StyleAt w S) (b : Bar w.heap.size S w w1) : PowS S w1 :=
  h.below ((b.mono (Nat.le_of_lt hs.lt)).low (Nat.le_refl _))
/-- the text's length -/
def szOf : Value → Nat | .string s => s.size | _ => 0
/-- what spells a number: zeros and its digits -/
def NumText (n S : Nat) (w : World) (e : Ending) (w' : World) : Prop :=
  ∃ z : ByteArray, e = .returned (.string (z ++ dec n)) ∧ z.size ≤ 9 ∧ M.bs z = List.replicate z.size 48 ∧ StyleAt w' S ∧ Bar w.heap.size S w w'
def ZRel (S : Nat) (w : World) (z : ByteArray) (wr : World) : Prop := M.bs z = List.replicate z.size 48 ∧ StyleAt wr S ∧ Bar w.heap.size S w wr
theorem zrel_snoc {z : ByteArray} (h : M.bs z = List.replicate z.size 48) : M.bs (z ++ ⟨#[48]⟩) = List.replicate (z ++ ⟨#[48]⟩).size 48 := by
  rw [M.bs_append, h, ByteArray.size_append, show (⟨#[48]⟩ : ByteArray).size = 1 from rfl, List.replicate_succ']
  rfl
theorem dec_twenty (n : Nat) (h : n ≤ 2147483647) : (dec n).size ≤ 20 := by
  show (Lib.decDigits n).toArray.size ≤ 20
  rw [List.size_toArray, Lib.decDigits_length]
  exact Lib.nDigits_le20 n (by omega)
theorem numText_any (n S : Nat) (w : World) (h : StyleAt w S) (hp : PowS S w) (hn : n ≤ 2147483647) :
    Calls Tryd.prog 43 #[.int .i64 (n : Int), .pointer (some ⟨S, 0, none⟩)] w (NumText n S w) := by
  have H := Lib.hid h
  have HP := Lib.hid hp
  have hd := dec_twenty n hn
  clear h hp
  go_enter Tryd.func43, Tryd.ntmps43
  go_wp2
  go_loopw [5] (fun v wr => ∃ z : ByteArray, v = .string z ∧ z.size ≤ 9 ∧ Hid (ZRel S w z wr)) (fun v _ => 9 - szOf v)
  case atStart => exact ⟨⟨#[]⟩, rfl, by decide, Lib.hid ⟨rfl, H.out, Bar.refl _ _ _⟩⟩
  case round =>
    obtain ⟨z, rfl, hz, HR⟩ := hrel
    have HW := Lib.hid HR.out
    have pk : Calls Tryd.prog 30 #[.pointer (some ⟨S, 0, none⟩), .int .i64 8] wr (Picked S 8 wr) := pick_any S 8 wr HR.out.2.1 (by omega) (by omega)
    clear HR
    have hN : (n : Int) ≤ 9223372036854775807 := by omega
    have a2 := add_ok (a := z) (b := dec n) (by omega)
    by_cases h9 : z.size < 9
    · have h9i : (z.size : Int) < 9 := by omega
      have a1 := add_ok (a := z) (b := ⟨#[48]⟩) (by show _ + 1 ≤ _; omega)
      have HZ := Lib.hid (zrel_snoc HW.out.1)
      go_wp2_with (first
        | (go_at_call 30; (refine pk.mono ?_); rintro e w1 ⟨r, rfl, hr, hs1, hb1⟩; have H1 := Lib.hid hs1; have B1 := Lib.hid (HW.out.2.2.up hb1); have P1 := Lib.hid (HP.out.bar H.out B1.out).here; clear hs1 hb1)
        | (go_at_call 56; (with_reducible refine (itoa_any n _ hN P1.out).mono ?_); rintro e w2 ⟨rfl, hb⟩; have H2 := Lib.hid (H1.out.below hb); have B2 := Lib.hid (B1.out.up (Bar.of hb)); clear hb)
        | fail)
      · refine ⟨⟨_, rfl, ?_, Lib.hid ⟨HZ.out, H1.out, B1.out⟩⟩, ?_⟩
        · rw [ByteArray.size_append]; exact h9
        · show 9 - (z ++ ⟨#[48]⟩).size < 9 - z.size
          rw [ByteArray.size_append]
          show 9 - (z.size + 1) < _
          omega
      · go_ret
        exact ⟨z, rfl, hz, HW.out.1, H2.out, B2.out⟩
    · have h9i : ¬ (z.size : Int) < 9 := by omega
      go_wp2_with (first
        | (go_at_call 30; (refine pk.mono ?_); rintro e w1 ⟨r, rfl, hr, hs1, hb1⟩; have H1 := Lib.hid hs1; have B1 := Lib.hid (HW.out.2.2.up hb1); have P1 := Lib.hid (HP.out.bar H.out B1.out).here; clear hs1 hb1)
        | (go_at_call 56; (with_reducible refine (itoa_any n _ hN P1.out).mono ?_); rintro e w2 ⟨rfl, hb⟩; have H2 := Lib.hid (H1.out.below hb); have B2 := Lib.hid (B1.out.up (Bar.of hb)); clear hb)
        | fail)
      all_goals
        go_ret
        exact ⟨z, rfl, hz, HW.out.1, H2.out, B2.out⟩
end Go.Proofs.YtjipjhpehfbpkaaDoor
