/-
  spec.CronStarText.
-/
import Derived.Test.YtjipjhpehfbpkaaDoorCRun
namespace Go.Proofs.YtjipjhpehfbpkaaDoor
open Go.RowKit
set_option maxRecDepth 100000
set_option linter.unusedVariables false

/-- a spelling of a star -/
def StarT (k : Nat) (t : ByteArray) : Prop := t.size ≤ 31 ∧ ∃ c r, M.bs t = c :: r ∧ (c = 42 ∨ (c = 63 ∧ (k = 3 ∨ k = 5))) ∧ (r = [] ∨ ∃ d, r = 47 :: d ∧ M.digits d = true ∧ M.num d = some 1)
theorem starT_one (k : Nat) (c : UInt8) (hc : c = 42 ∨ (c = 63 ∧ (k = 3 ∨ k = 5))) : StarT k ⟨#[c]⟩ := ⟨by show 1 ≤ 31; omega, c, [], rfl, hc, .inl rfl⟩
theorem starT_by (k : Nat) (c : UInt8) (hc : c = 42 ∨ (c = 63 ∧ (k = 3 ∨ k = 5))) {z : ByteArray} (hz : z.size ≤ 9) (h : M.bs z = List.replicate z.size 48) : StarT k (⟨#[c]⟩ ++ (⟨#[47]⟩ ++ (z ++ dec 1))) := by
  obtain ⟨h1, h2⟩ := num_rep z.size 1 (by omega)
  refine ⟨?_, c, 47 :: (List.replicate z.size 48 ++ Lib.decDigits 1), ?_, hc, .inr ⟨_, rfl, h2, h1⟩⟩
  · have := dec_twenty 1 (by omega)
    simp only [ByteArray.size_append]
    show 1 + (1 + (z.size + (dec 1).size)) ≤ 31
    omega
  · rw [M.bs_append, M.bs_append, M.bs_append, h, dec_bs]
    rfl
def StarText (k S : Nat) (w : World) (e : Ending) (w' : World) : Prop :=
  ∃ t : ByteArray, e = .returned (.string t) ∧ StarT k t ∧ StyleAt w' S ∧ Bar w.heap.size S w w'
set_option maxHeartbeats 8000000 in
theorem starText_any (k S : Nat) (hk : k ≤ 5) (w : World) (h : StyleAt w S) (hp : PowS S w) :
    Calls Tryd.prog 29 #[.int .i64 (k : Int), .pointer (some ⟨S, 0, none⟩)] w (StarText k S w) := by
  have X1 := Lib.hid h
  have HP := Lib.hid hp
  have Y1 := Lib.hid (Bar.refl w.heap.size S w)
  have HS := Lib.hid h
  have a1 : ∀ z : ByteArray, z.size ≤ 9 → ∀ W : World, (Op.stringOp .add ⟨#[47]⟩ (z ++ dec 1)).run Tryd.prog W = .ok (.string (⟨#[47]⟩ ++ (z ++ dec 1))) W := fun z hz => add_ok (by
    have := dec_twenty 1 (by omega)
    rw [ByteArray.size_append]
    show 1 + _ ≤ _
    omega)
  have a2 : ∀ (c : UInt8) (z : ByteArray), z.size ≤ 9 → ∀ W : World, (Op.stringOp .add ⟨#[c]⟩ (⟨#[47]⟩ ++ (z ++ dec 1))).run Tryd.prog W = .ok (.string (⟨#[c]⟩ ++ (⟨#[47]⟩ ++ (z ++ dec 1)))) W := fun c z hz => add_ok (by
    have := dec_twenty 1 (by omega)
    rw [ByteArray.size_append, ByteArray.size_append]
    show 1 + (1 + _) ≤ _
    omega)
  have pk2 : Calls Tryd.prog 30 #[.pointer (some ⟨S, 0, none⟩), .int .i64 2] w (Picked S 2 w) := pick_any S 2 w h (by omega) (by omega)
  have pk8 : ∀ W, StyleAt W S → Calls Tryd.prog 30 #[.pointer (some ⟨S, 0, none⟩), .int .i64 8] W (Picked S 8 W) := fun W hW => pick_any S 8 W hW (by omega) (by omega)
  have nt : ∀ W, StyleAt W S → PowS S W → Calls Tryd.prog 43 #[.int .i64 1, .pointer (some ⟨S, 0, none⟩)] W (NumText 1 S W) := fun W hW hQ => numText_any 1 S W hW hQ (by omega)
  clear h hp
  obtain rfl | rfl | rfl | rfl | rfl | rfl : k = 0 ∨ k = 1 ∨ k = 2 ∨ k = 3 ∨ k = 4 ∨ k = 5 := by omega
  all_goals
    go_enter Tryd.func29, Tryd.ntmps29
    go_wp2_with (first
      | (go_at_call 30; (with_reducible refine pk2.mono ?_); rintro e w1 ⟨r, rfl, hr, hs1, hb1⟩; replace X1 := Lib.hid hs1; replace Y1 := Lib.hid hb1; clear hs1 hb1)
      | (go_at_call 30; (with_reducible refine (pk8 _ X1.out).mono ?_); rintro e w2 ⟨q, rfl, hq, hs1, hb1⟩; have X2 := Lib.hid hs1; have Y2 := Lib.hid (Y1.out.up hb1); have P2 := Lib.hid (HP.out.bar HS.out Y2.out); clear hs1 hb1)
      | (go_at_call 43; (with_reducible refine (nt _ X2.out P2.out).mono ?_); rintro e w3 ⟨z, rfl, hz, hz2, hs1, hb1⟩; have b1 := a1 z hz; have b2 := fun c => a2 c z hz; have HZ := Lib.hid (And.intro hz hz2); have X3 := Lib.hid hs1; have Y3 := Lib.hid (Y2.out.up hb1); clear hs1 hb1 hz hz2)
      | fail)
    all_goals
      go_ret
      first
        | exact ⟨_, rfl, starT_by _ 42 (.inl rfl) HZ.out.1 HZ.out.2, X3.out, Y3.out⟩
        | exact ⟨_, rfl, starT_by _ 63 (.inr ⟨rfl, by omega⟩) HZ.out.1 HZ.out.2, X3.out, Y3.out⟩
        | exact ⟨_, rfl, starT_one _ 42 (.inl rfl), X2.out, Y2.out⟩
        | exact ⟨_, rfl, starT_one _ 63 (.inr ⟨rfl, by omega⟩), X2.out, Y2.out⟩
end Go.Proofs.YtjipjhpehfbpkaaDoor
