/-
  Contracts with fixed answers of the package's checks; laws.svShort.
-/
import Derived.Test.YtopaileliohpdaaDoorCheck
import Derived.Deep.RegionWith
namespace Go.Proofs.YtopaileliohpdaaDoor
open Go.RowKit
set_option maxRecDepth 100000

theorem validateMetadata_ok (s : ByteArray) (ev : Value) (w : World) (hs : s.size ≤ 2147483647) (hg : w.cell? ⟨5, 0, none⟩ = some ev) (hv : Hid (M.validMeta (M.bs s) = true)) :
    Calls Tryd.prog 68 #[.string s] w fun e w' => e = .returned .nilIface ∧ Below w.heap.size w w' := by
  have := validateMetadata_any s ev w hs hg
  rw [hv.out] at this
  exact this
theorem validateMetadata_bad (s : ByteArray) (ev : Value) (w : World) (hs : s.size ≤ 2147483647) (hg : w.cell? ⟨5, 0, none⟩ = some ev) (hv : Hid (M.validMeta (M.bs s) = false)) :
    Calls Tryd.prog 68 #[.string s] w fun e w' => e = .returned ev ∧ Below w.heap.size w w' := by
  have := validateMetadata_any s ev w hs hg
  rw [hv.out] at this
  exact this
theorem validatePre_0 (s : ByteArray) (e1 e2 : Value) (w : World) (hs : s.size ≤ 2147483647) (hg : w.cell? ⟨6, 0, none⟩ = some e1) (hh : w.cell? ⟨4, 0, none⟩ = some e2) (hv : Hid (M.preRes (M.splitOn 46 (M.bs s)) = 0)) :
    Calls Tryd.prog 89 #[.string s] w fun e w' => e = .returned .nilIface ∧ Below w.heap.size w w' := by
  have := validatePrerelease_any s e1 e2 w hs hg hh
  rw [hv.out] at this
  exact this

theorem validatePre_1 (s : ByteArray) (e1 e2 : Value) (w : World) (hs : s.size ≤ 2147483647) (hg : w.cell? ⟨6, 0, none⟩ = some e1) (hh : w.cell? ⟨4, 0, none⟩ = some e2) (hv : Hid (M.preRes (M.splitOn 46 (M.bs s)) = 1)) :
    Calls Tryd.prog 89 #[.string s] w fun e w' => e = .returned e1 ∧ Below w.heap.size w w' := by
  have := validatePrerelease_any s e1 e2 w hs hg hh
  rw [hv.out] at this
  exact this

theorem validatePre_2 (s : ByteArray) (e1 e2 : Value) (w : World) (hs : s.size ≤ 2147483647) (hg : w.cell? ⟨6, 0, none⟩ = some e1) (hh : w.cell? ⟨4, 0, none⟩ = some e2) (hv : Hid (M.preRes (M.splitOn 46 (M.bs s)) = 2)) :
    Calls Tryd.prog 89 #[.string s] w fun e w' => e = .returned e2 ∧ Below w.heap.size w w' := by
  have := validatePrerelease_any s e1 e2 w hs hg hh
  rw [hv.out] at this
  exact this

set_option maxRecDepth 100000 in
theorem svShort_any (v : Value) (L : List ByteArray) (w : World) (hr : ReadS w v L) (hl : L.length ≤ 1099511627776) (hz : ∀ b ∈ L, b.size ≤ 140737488351232) :
    Calls Tryd.prog 13 #[v] w fun e w' => e = .returned (.bool (L.all fun b => decide (b.size ≤ 65536))) ∧ w' = w := by
  obtain ⟨A, cap, rfl, hcell⟩ := hr
  have HC := Lib.hid hcell
  have HZ := Lib.hid hz
  clear hcell hz
  go_enter Tryd.func13, Tryd.ntmps13
  go_wp2
  go_loop [7] (fun i => ∃ k : Nat, k ≤ L.length ∧ i = .int .i64 k ∧ Hid ((L.take k).all (fun b => decide (b.size ≤ 65536)) = true)) (fun i => L.length - (intOf i).toNat)
  case atStart => exact ⟨0, Nat.zero_le _, rfl, Lib.hid (by simp)⟩
  case round =>
    obtain ⟨k, hk, rfl, ha⟩ := hrel
    by_cases hlt : k < L.length
    · obtain ⟨b, o, rfl, _, hcell⟩ := HC.out k hlt
      have hsz := HZ.out L[k] (List.getElem_mem hlt)
      go_wp2
      · have h3 : 65536 < (L[k].size : Int) := by assumption
        go_ret
        refine ⟨ret_bool ?_, rfl⟩
        rw [listAll_false _ L k hlt (by rw [decide_eq_false]; omega)]
      · have h3 : (L[k].size : Int) ≤ 65536 := by assumption
        go_round
        case rel => exact ⟨k + 1, hlt, by go_num, Lib.hid (listAll_take _ L k hlt ha.out (by rw [decide_eq_true]; omega))⟩
        case measure => simp [intOf]; omega
    · have HK := Lib.hid (show k = L.length by omega)
      go_wp2
      go_ret
      refine ⟨ret_bool ?_, rfl⟩
      have h1 := ha.out
      rw [HK.out, List.take_length] at h1
      exact h1.symm
theorem ReadS.one (w : World) (t : TypeId) (a : ByteArray) : ReadS (w.alloc (.cells #[.string a] t)) (.slice (some ⟨w.heap.size, 0, none⟩) 1 1) [a] := by
  refine ⟨some ⟨w.heap.size, 0, none⟩, 1, rfl, fun i hi => ⟨w.heap.size, 0, rfl, by simp, ?_⟩⟩
  obtain rfl : i = 0 := by simpa using hi
  go_simp

theorem svShort_one (w : World) (t : TypeId) (a : ByteArray) (hz : a.size ≤ 140737488351232) :
    Calls Tryd.prog 13 #[.slice (some ⟨w.heap.size, 0, none⟩) 1 1] (w.alloc (.cells #[.string a] t)) fun e w' => e = .returned (.bool (decide (a.size ≤ 65536))) ∧ w' = w.alloc (.cells #[.string a] t) := by
  have := svShort_any _ [a] _ (ReadS.one w t a) (by simp) (by simpa using hz)
  simpa using this

end Go.Proofs.YtopaileliohpdaaDoor
