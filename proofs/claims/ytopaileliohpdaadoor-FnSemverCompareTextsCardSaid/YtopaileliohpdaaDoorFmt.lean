/-
  strconv.FormatUint at base 10: the decimal numeral, for every uint64.
-/
import Derived.Test.YtopaileliohpdaaDoorShelf
import Derived.WalkLawsBesides
import Derived.Lib.ItoaMem
import Derived.Lib.AppendIntMem
import Derived.Lib.Hide
namespace Go.Proofs.YtopaileliohpdaaDoor
open Go.RowKit Go.Sort
set_option maxRecDepth 100000

def Pow10 (w : World) : Prop := Lib.TabIs Tryd.prog w "internal/strconv.uint64pow10" .u64 Lib.pow10Tab
theorem Pow10.below {w w' : World} (h : Pow10 w) (b : Below w.heap.size w w') : Pow10 w' := (Lib.tabBelow_of_tabIs h).on b |>.here

theorem fmtInner (u : Nat) (w : World) (hu : u < 18446744073709551616) (htab : Pow10 w) :
    Calls Tryd.prog 104 #[.int .u64 u, .int .i64 10] w fun e w' => e = .returned (.string ⟨(Lib.decDigits u).toArray⟩) ∧ Below w.heap.size w w' := by
  by_cases hs : u < 100
  · go_enter Tryd.func104, Tryd.ntmps104
    go_wp2_with (go_at_call 113; refine (Tryd.internal_strconv_small u hs _).mono ?_; rintro e w' ⟨rfl, rfl⟩)
    go_ret
    exact ⟨rfl, Below.refl _ _⟩
  · have hu1 : 1 ≤ u := by omega
    have hnd20 : Lib.nDigits u ≤ 20 := by have := Lib.numDigits_eq u hu1 hu; split at this <;> omega
    have hal : Tryd.prog.arrayLen 122 = 24 := by kernel_rfl
    have hH0 := Lib.holds_zero0 w 122 (Lib.nDigits u) (by omega)
    have hfmt := Tryd.internal_strconv_formatBase10 w.heap.size 0 24 u (Array.replicate (Lib.nDigits u) 0) (w.alloc (.cells Lib.zeros24 122)) hH0 (by rw [Array.size_replicate]; exact Lib.lt_pow_nDigits u) hu (by rw [Array.size_replicate]; omega)
    rw [Array.size_replicate] at hfmt
    have hsl0 : ∀ W, (Instr.sliceAt 122 (.pointer (some ⟨w.heap.size, 0, none⟩)) none (some (.int .i64 (Lib.nDigits u : Int))) none).run Tryd.prog W = .ok (.slice (some ⟨w.heap.size, 0, none⟩) (Lib.nDigits u) 24) W := fun W => by
      rw [run_sliceAt_array_h W 122 ⟨w.heap.size, 0, none⟩ (by kernel_rfl) .i64 (Lib.nDigits u : Int) (by omega) (by rw [hal]; omega)]
      go_simp
    have HH0 := Lib.hid hH0
    have HU := Lib.hid hu
    have HT := Lib.hid htab
    clear hH0 hal htab
    go_enter Tryd.func104, Tryd.ntmps104
    go_wp2_with (first
      | (go_at_call 114; refine (Tryd.internal_strconv_numDigits u hu1 HU.out _ (Lib.tabIs_alloc HT.out _)).mono ?_; rintro e w' ⟨rfl, rfl⟩))
    go_at_call 115
    refine hfmt.mono ?_
    rintro e w' ⟨rfl, k, v', dk, rfl, hF⟩
    have hcv : (convert 118 9 (.slice (some ⟨w.heap.size, 0, none⟩) (Lib.nDigits u) 24)).run Tryd.prog ((putRow (fun (b : UInt8) => Value.int .u8 (b.toNat : Int)) (w.alloc (.cells Lib.zeros24 122)) w.heap.size 0 dk).drewN k) = .ok (.string ⟨(Lib.decDigits u).toArray⟩) ((putRow (fun (b : UInt8) => Value.int .u8 (b.toNat : Int)) (w.alloc (.cells Lib.zeros24 122)) w.heap.size 0 dk).drewN k) := by
      have h := run_convert_bytes_back (P := Tryd.prog) ((putRow (fun (b : UInt8) => Value.int .u8 (b.toNat : Int)) (w.alloc (.cells Lib.zeros24 122)) w.heap.size 0 dk).drewN k) 118 9 5 ⟨w.heap.size, 0, none⟩ 24 (Lib.decDigits u) (by kernel_rfl) (by kernel_rfl) (by kernel_rfl) (fun j hj => by
        rw [Lib.row_is_numeral hF j hj, Lib.add_plain, World.cell?_drewN]
        exact cell?_putRow (fun (b : UInt8) => Value.int .u8 (b.toNat : Int)) _ w.heap.size 0 _ dk HH0.out (by rw [hF.size, Array.size_replicate]) j (by rw [hF.size]; rw [Lib.decDigits_length] at hj; exact hj))
      rw [Lib.decDigits_length] at h
      exact h
    go_wp2
    go_ret
    obtain ⟨os, eo⟩ := Lib.fin_at w (.cells Lib.zeros24 122) dk k 0
    rw [eo]
    exact ⟨rfl, Lib.below_grow _ w (Nat.le_refl _) k os⟩

theorem formatUint_any (u : Nat) (w : World) (hu : u < 18446744073709551616) (htab : Pow10 w) :
    Calls Tryd.prog 94 #[.int .u64 u, .int .i64 10] w fun e w' => e = .returned (.string ⟨(Lib.decDigits u).toArray⟩) ∧ Below w.heap.size w w' := by
  go_enter Tryd.func94, Tryd.ntmps94
  go_wp2_with fail
  refine (fmtInner u _ hu htab).mono ?_
  rintro e w1 ⟨rfl, hb⟩
  go_wp2
  go_ret
  exact ⟨rfl, hb⟩
end Go.Proofs.YtopaileliohpdaaDoor
