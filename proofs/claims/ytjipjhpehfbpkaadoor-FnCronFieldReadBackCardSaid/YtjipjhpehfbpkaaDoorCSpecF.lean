/-
  spec's reading of a field: cronPieces, worse.
-/
import Derived.Test.YtjipjhpehfbpkaaDoorCNamed
import Derived.Test.YtjipjhpehfbpkaaDoorIds
namespace Go.Proofs.YtjipjhpehfbpkaaDoor
open Go.RowKit
set_option maxRecDepth 100000
set_option linter.unusedVariables false

def PcRel (x : UInt8) (s : ByteArray) (w : World) (v f i : Value) (wr : World) : Prop :=
  ∃ (L : List ByteArray) (a k : Nat), f = .int .i64 a ∧ i = .int .i64 k ∧ Cut x s L a k ∧ OwnS wr w.heap.size v L ∧ Below w.heap.size w wr

set_option maxRecDepth 100000 in
set_option maxHeartbeats 800000 in
theorem cronPieces_any (x : UInt8) (n : Int) (hn : (x.toNat : Int) = n) (s : ByteArray) (w : World) (hs : s.size ≤ 2147483647) :
    Calls Tryd.prog 17 #[.string s, .int .u8 n] w (Parted x s w) := by
  have HNN := Lib.hid hn
  clear hn
  go_enter Tryd.func17, Tryd.ntmps17
  go_wp2
  go_loopw [5, 6, 10] (fun v f i wr => PcRel x s w v f i wr) (fun _ _ i _ => s.size - (intOf i).toNat)
  case atStart => exact ⟨[], 0, 0, rfl, rfl, Cut.start _ _, OwnS.nil _ _, Below.refl _ _⟩
  case round =>
    obtain ⟨L, a, k, rfl, rfl, hc, hown, hb⟩ := hrel
    have h1 := hc.fk
    have h2 := hc.ks
    have h3 := hc.len
    have HB := Lib.hid hb
    have HO := Lib.hid hown
    have HC := Lib.hid hc
    clear hb hown hc
    by_cases hlt : k < s.size
    · go_wp2_with ((at_builtin; refine append_str rfl _ _ rfl w.heap.size _ L rfl (HO.out.kept ((Below.refl _ _).alloc (Nat.le_refl _) _)) wr.heap.size 1 (s.extract a k) rfl ?c1 ?c2 ?c3 ?_; rotate_left 3; intro v' w1 hown1 hb1 hz1; have HO1 := Lib.hid hown1; have HB1 := Lib.hid hb1; clear hown1 hb1))
      case c1 => go_simp
      case c2 => omega
      case c3 => have := HB.out.size; simp; omega
      · have hx : ((s[k].toNat : Int) == n) = true := by assumption
        have HX := Lib.hid (byte_eq x HNN.out hx)
        clear hx
        go_roundw
        case rel => exact ⟨_, k + 1, k + 1, by go_num, by go_num, HC.out.at hlt HX.out, HO1.out, (HB.out.alloc HB.out.size _).trans HB1.out⟩
        case measure => simp [intOf]; omega
      · have hx : ((s[k].toNat : Int) == n) = false := by assumption
        have HX := Lib.hid (byte_ne x HNN.out hx)
        clear hx
        go_roundw
        case rel => exact ⟨L, a, k + 1, rfl, by go_num, HC.out.on hlt HX.out, HO.out, HB.out⟩
        case measure => simp [intOf]; omega
    · have hk : k = s.size := by omega
      subst hk
      go_wp2_with ((at_builtin; refine append_str rfl _ _ rfl w.heap.size _ L rfl (HO.out.kept ((Below.refl _ _).alloc (Nat.le_refl _) _)) wr.heap.size 1 (s.extract a s.size) rfl ?d1 ?d2 ?d3 ?_; rotate_left 3; intro v' w1 hown1 hb1 hz1; have HO1 := Lib.hid hown1; have HB1 := Lib.hid hb1; clear hown1 hb1))
      case d1 => go_simp
      case d2 => omega
      case d3 => have := HB.out.size; simp; omega
      go_ret
      exact ⟨_, _, rfl, HC.out.stop, HO1.out, (HB.out.alloc HB.out.size _).trans HB1.out⟩
/-- the worse of two verdicts: 0 wrong, 1 fine, 2 open -/
def worseN (a b : Nat) : Nat := if a = 0 ∨ b = 0 then 0 else max a b
theorem worse_any (a b : Nat) (ha : a ≤ 2) (hb : b ≤ 2) (w : World) : Calls Tryd.prog 18 #[.int .i64 (a : Int), .int .i64 (b : Int)] w fun e w' => e = .returned (.int .i64 ((worseN a b : Nat) : Int)) ∧ w = w' := by
  obtain rfl | rfl | rfl : a = 0 ∨ a = 1 ∨ a = 2 := by omega
  all_goals obtain rfl | rfl | rfl : b = 0 ∨ b = 1 ∨ b = 2 := by omega
  all_goals
    go_enter Tryd.func18, Tryd.ntmps18
    go_wp2
    go_ret
    exact ⟨rfl, rfl⟩
end Go.Proofs.YtjipjhpehfbpkaaDoor
