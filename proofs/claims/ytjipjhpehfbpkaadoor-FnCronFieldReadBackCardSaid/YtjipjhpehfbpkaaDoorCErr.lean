/-
  What the cron laws take of the listed variables: strconv's two errors, the table of powers of ten; strconv.Itoa.
-/
import Derived.Test.YtjipjhpehfbpkaaDoorCNum
import Derived.Test.YtjipjhpehfbpkaaDoorCItem
import Derived.Test.YtjipjhpehfbpkaaDoorSent
import Derived.LaidSub
import Derived.Lib.AppendIntMem
namespace Go.Proofs.YtjipjhpehfbpkaaDoor
open Go.RowKit Go.ChangeShapes

def numG : List Nat := [0, 1]
theorem numErrs_of {w : World} {sa : Nat → Addr} (h : Sent.Errs numG w sa) : NumErrs w := ⟨⟨_, _, h.var 0 (by decide)⟩, ⟨_, _, h.var 1 (by decide)⟩⟩
/-- an entry that is an interface's value -/
def isE : String × DataW Unit → Bool
  | (_, .iface _ _) => true
  | _ => false
def Pow10 (w : World) : Prop := Lib.TabIs Tryd.prog w "internal/strconv.uint64pow10" .u64 Lib.pow10Tab
theorem Pow10.below {w w' : World} (h : Pow10 w) (b : Below w.heap.size w w') : Pow10 w' := (Lib.tabBelow_of_tabIs h).on b |>.here
/-- an entry that is the table of powers of ten -/
def isPow : String × DataW Unit → Bool
  | (n, _) => n == "internal/strconv.uint64pow10"
theorem pow10_of {W : World} {laid : List (String × DataW Unit)} (h : laidMet Tryd.prog laid W) (hl : laid.filter isPow = [("internal/strconv.uint64pow10", Lib.tabData .u64 Lib.pow10Tab)]) : Pow10 W := by
  have h1 := h.filter isPow
  rw [hl] at h1
  exact Lib.tabIs_of_head (g := 2) (by kernel_rfl) (by kernel_rfl) Tryd.underlying117 Tryd.underlying22 (by kernel_rfl) (by kernel_rfl) h1
def dec (n : Nat) : ByteArray := ⟨(Lib.decDigits n).toArray⟩
theorem dec_bs (n : Nat) : M.bs (dec n) = Lib.decDigits n := by simp [M.bs, dec]
theorem itoa_any (n : Nat) (w : World) (h : (n : Int) ≤ 9223372036854775807) (ht : Pow10 w) :
    Calls Tryd.prog 56 #[.int .i64 (n : Int)] w fun e w' => e = .returned (.string (dec n)) ∧ Below w.heap.size w w' := by
  refine (Tryd.strconv_Itoa (n : Int) (by omega) h w ht).mono ?_
  rintro e w' ⟨rfl, k, os, rfl⟩
  rw [Lib.itoa_nonneg]
  exact ⟨rfl, Lib.below_grow _ _ (Nat.le_refl _) _ _⟩
end Go.Proofs.YtjipjhpehfbpkaaDoor
