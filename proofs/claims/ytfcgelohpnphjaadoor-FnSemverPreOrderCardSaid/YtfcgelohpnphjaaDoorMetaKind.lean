/-
  laws.FnSemverMetaKind and laws.FnSemverKindsChecks return true for every text (of a text longer than 65536 bytes they say nothing). Condition: the nine sentinels that impl.versionKind asks for lie as the program lays them.
-/
import Derived.Test.YtfcgelohpnphjaaDoorKinds
import Derived.Deep.RegionWith
namespace Go.Proofs.YtfcgelohpnphjaaDoor
open Go.RowKit
set_option maxRecDepth 100000

theorem ReadS.one (w : World) (t : TypeId) (a : ByteArray) : ReadS (w.alloc (.cells #[.string a] t)) (.slice (some ⟨w.heap.size, 0, none⟩) 1 1) [a] := by
  refine ⟨some ⟨w.heap.size, 0, none⟩, 1, rfl, fun i hi => ⟨w.heap.size, 0, rfl, by simp, ?_⟩⟩
  obtain rfl : i = 0 := by simpa using hi
  go_simp

theorem svShort_one (w : World) (t : TypeId) (a : ByteArray) (hz : a.size ≤ 140737488351232) :
    Calls Tryd.prog 19 #[.slice (some ⟨w.heap.size, 0, none⟩) 1 1] (w.alloc (.cells #[.string a] t)) fun e w' => e = .returned (.bool (decide (a.size ≤ 65536))) ∧ w' = w.alloc (.cells #[.string a] t) := by
  have := svShort_any _ [a] _ (ReadS.one w t a) (by simp) (by simpa using hz)
  simpa using this

theorem metaKind_law (a : ByteArray) {sa : Nat → Addr} (w : World) (h : Sent.Errs semG w sa) (hsz : a.size ≤ 140737488351232) :
    Calls Tryd.prog 3 #[.string a] w fun e w' => e = .returned (.bool true) ∧ Below w.heap.size w w' := by
  by_cases hbig : 2147483647 < a.size
  · go_enter Tryd.func3, Tryd.ntmps3
    go_wp2
    go_ret
    exact ⟨rfl, Below.refl _ _⟩
  · have hs : a.size ≤ 2147483647 := by omega
    have HH := Lib.hid h
    clear h hbig
    go_enter Tryd.func3, Tryd.ntmps3
    go_wp2_with (first
      | (go_at_call 19; (with_reducible refine (svShort_one _ _ _ hsz).mono ?_); rintro e w1 ⟨rfl, hw1⟩; have HB0 := Lib.hid (show Below w.heap.size w w1 from hw1 ▸ (Below.refl _ _).alloc (Nat.le_refl _) _); clear hw1)
      | (go_at_call 20; (with_reducible refine (metaKind_any _ sa _ hs (HH.out.below HB0.out)).mono ?_); rintro e w2 ⟨rfl, hb⟩; have HB := Lib.hid (HB0.out.trans (hb.mono HB0.out.size)); clear hb)
      | (go_at_call 21; (with_reducible refine (specMetaKind_any _ _ hs).mono ?_); rintro e w3 ⟨rfl, hb⟩; have HB1 := Lib.hid (HB.out.trans (hb.mono HB.out.size)); clear hb))
    · go_ret
      exact ⟨rfl, HB1.out⟩
    · go_ret
      exact ⟨rfl, HB0.out⟩

/-- the kinds of one text, as numbers that the walk does not look into -/
theorem preKind_cases (s : ByteArray) (sa : Nat → Addr) (hs : s.size ≤ 2147483647) : ∃ (k : Int) (b : Bool), (k == 0) = b ∧
    Hid (∀ w, Sent.Errs semG w sa → Calls Tryd.prog 23 #[.string s] w fun e w' => e = .returned (.int .i64 k) ∧ Below w.heap.size w w') ∧
    Hid (∀ w, Sent.Errs semG w sa → Calls Tryd.prog 22 #[.string s] w fun e w' => e = .returned (.bool b) ∧ Below w.heap.size w w') := by
  refine ⟨_, _, ?_, Lib.hid fun w h => preKind_any s sa w hs h, Lib.hid fun w h => implValidPre_any s sa w hs h⟩
  rcases M.preRes_le (M.splitOn 46 (M.bs s)) with hv | hv | hv <;> rw [hv] <;> rfl
theorem metaKind_cases (s : ByteArray) (sa : Nat → Addr) (hs : s.size ≤ 2147483647) : ∃ (k : Int) (b : Bool), (k == 0) = b ∧
    Hid (∀ w, Sent.Errs semG w sa → Calls Tryd.prog 20 #[.string s] w fun e w' => e = .returned (.int .i64 k) ∧ Below w.heap.size w w') ∧
    Hid (∀ w, Sent.Errs semG w sa → Calls Tryd.prog 24 #[.string s] w fun e w' => e = .returned (.bool b) ∧ Below w.heap.size w w') := by
  refine ⟨_, _, ?_, Lib.hid fun w h => metaKind_any s sa w hs h, Lib.hid fun w h => implValidMeta_any s sa w hs h⟩
  cases M.validMeta (M.bs s) <;> rfl
theorem metaKind_plus (sa : Nat → Addr) (w : World) (h : Sent.Errs semG w sa) :
    Calls Tryd.prog 20 #[.string ⟨#[43]⟩] w fun e w' => e = .returned (.int .i64 6) ∧ Below w.heap.size w w' :=
  metaKind_any ⟨#[43]⟩ sa w (by decide) h

set_option maxHeartbeats 1000000 in
theorem kindsChecks_law (a : ByteArray) {sa : Nat → Addr} (w : World) (h : Sent.Errs semG w sa) (hsz : a.size ≤ 140737488351232) :
    Calls Tryd.prog 4 #[.string a] w fun e w' => e = .returned (.bool true) ∧ Below w.heap.size w w' := by
  by_cases hbig : 2147483647 < a.size
  · go_enter Tryd.func4, Tryd.ntmps4
    go_wp2
    go_ret
    exact ⟨rfl, Below.refl _ _⟩
  · have hs : a.size ≤ 2147483647 := by omega
    have HH := Lib.hid h
    clear h hbig
    obtain ⟨k1, b1, hk1, cP, cV⟩ := preKind_cases a sa hs
    obtain ⟨k2, b2, hk2, cM, cW⟩ := metaKind_cases a sa hs
    go_enter Tryd.func4, Tryd.ntmps4
    go_wp2_with (first
      | (go_at_call 19; (with_reducible refine (svShort_one _ _ _ hsz).mono ?_); rintro e w1 ⟨rfl, hw1⟩; have HB0 := Lib.hid (show Below w.heap.size w w1 from hw1 ▸ (Below.refl _ _).alloc (Nat.le_refl _) _); clear hw1)
      | (go_at_call 22; (with_reducible refine (cV.out _ (HH.out.below HB0.out)).mono ?_); rintro e w2 ⟨rfl, hb⟩; have HB1 := Lib.hid (HB0.out.trans (hb.mono HB0.out.size)); clear hb)
      | (go_at_call 23; (with_reducible refine (cP.out _ (HH.out.below HB1.out)).mono ?_); rintro e w3 ⟨rfl, hb⟩; have HB2 := Lib.hid (HB1.out.trans (hb.mono HB1.out.size)); clear hb)
      | (go_at_call 24; (with_reducible refine (cW.out _ (HH.out.below HB2.out)).mono ?_); rintro e w4 ⟨rfl, hb⟩; have HB3 := Lib.hid (HB2.out.trans (hb.mono HB2.out.size)); clear hb)
      | (go_at_call_of 20 (Value.string a); (with_reducible refine (cM.out _ (HH.out.below HB3.out)).mono ?_); rintro e w5 ⟨rfl, hb⟩; have HB4 := Lib.hid (HB3.out.trans (hb.mono HB3.out.size)); clear hb)
      | (go_at_call 20; (with_reducible refine (metaKind_plus _ _ (HH.out.below HB4.out)).mono ?_); rintro e w6 ⟨rfl, hb⟩; have HB5 := Lib.hid (HB4.out.trans (hb.mono HB4.out.size)); clear hb))
    · go_ret
      exact ⟨rfl, Below.refl _ _⟩
    · go_ret
      exact ⟨rfl, HB0.out⟩
    · go_ret
      exact ⟨rfl, HB5.out⟩
end Go.Proofs.YtfcgelohpnphjaaDoor
