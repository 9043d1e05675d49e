/-
  impl.CronNumber and spec.CronNumber: what a text means as a number.
-/
import Derived.Test.YtjipjhpehfbpkaaDoorCMath
import Derived.Test.YtjipjhpehfbpkaaDoorCSplit
import Derived.Test.YtjipjhpehfbpkaaDoorShelf
import Derived.WalkLawsBesides
import Derived.WalkSpells
namespace Go.Proofs.YtjipjhpehfbpkaaDoor
open Go.RowKit
set_option maxRecDepth 100000
set_option linter.unusedVariables false

theorem below_alloc_on {b : Nat} {w w' : World} {o : Obj} (hb : b ≤ w'.heap.size) (h : Below b w w') : Below b w (w'.alloc o) := h.alloc hb _
theorem below_alloc (w : World) (o : Obj) : Below w.heap.size w (w.alloc o) := (Below.refl _ _).alloc (Nat.le_refl _) _
theorem errNew_any (s : ByteArray) (w : World) :
    Calls Tryd.prog 48 #[.string s] w fun e w' => (∃ t v, e = .returned (.iface t v)) ∧ Below w.heap.size w w' := by
  go_enter Tryd.func48, Tryd.ntmps48
  go_wp2
  go_ret
  exact ⟨⟨_, _, rfl⟩, below_alloc _ _⟩
theorem cellLt {w : World} {a : Addr} {v : Value} (h : w.cell? a = some v) : a.block < w.heap.size := World.block_lt_of_cell? w a h
/-- the two errors of strconv hold something -/
def NumErrs (w : World) : Prop := (∃ te pe, w.cell? ⟨0, 0, none⟩ = some (.iface te pe)) ∧ ∃ te pe, w.cell? ⟨1, 0, none⟩ = some (.iface te pe)
theorem NumErrs.below {w w' : World} (h : NumErrs w) (b : Below w.heap.size w w') : NumErrs w' := by
  obtain ⟨⟨t1, p1, h1⟩, t2, p2, h2⟩ := h
  exact ⟨⟨t1, p1, by rw [b.cell (p := ⟨0, 0, none⟩) (cellLt h1)]; exact h1⟩, t2, p2, by rw [b.cell (p := ⟨1, 0, none⟩) (cellLt h2)]; exact h2⟩
theorem toList_bs (s : ByteArray) : s.toList = M.bs s := ByteArray.toList_eq s
theorem Below.up {w X w2 : World} (h1 : Below w.heap.size w X) (h2 : Below X.heap.size X w2) : Below w.heap.size w w2 := h1.trans (h2.mono h1.size)

theorem atoi_ok (s : ByteArray) (v : Int) (w : World) (hs : s.size ≤ 140737488351232) (h : Hid (Lib.atoiAll (M.bs s) = .ok v)) :
    Calls Tryd.prog 59 #[.string s] w fun e w' => e = .returned (.tuple #[.int .i64 v, .nilIface]) ∧ Below w.heap.size w w' := by
  refine (Tryd.strconv_Atoi_ok s (by omega) v h.out w).mono ?_
  rintro e w' ⟨rfl, rfl | ⟨t, rfl⟩⟩
  · exact ⟨rfl, Below.refl _ _⟩
  · exact ⟨rfl, Lib.bytesWorld_below _ _ _⟩
theorem atoi_err (s : ByteArray) (w : World) (hs : s.size ≤ 140737488351232) (h : Hid (∀ v, Lib.atoiAll (M.bs s) ≠ .ok v)) (hn : NumErrs w) :
    Calls Tryd.prog 59 #[.string s] w fun e w' => (∃ u N, e = .returned (.tuple #[.int .i64 u, .iface 105 (.pointer (some ⟨N, 0, none⟩))])) ∧ Below w.heap.size w w' := by
  obtain ⟨⟨t1, p1, h1⟩, t2, p2, h2⟩ := hn
  cases hp : Lib.atoiAll (M.bs s) with
  | ok u => exact absurd hp (h.out u)
  | range =>
    refine (Any.strconv_Atoi_range Tryd.laysC172 s (by omega) hp _ w h2 (.inr ⟨t2, p2, rfl⟩)).mono ?_
    rintro e w' ⟨N, rfl, _, _, hb⟩
    exact ⟨⟨_, N, rfl⟩, hb⟩
  | _ =>
    refine (Any.strconv_Atoi_syntax Tryd.laysC172 s (by omega) hp _ w h1 (.inr ⟨t1, p1, rfl⟩)).mono ?_
    rintro e w' ⟨N, rfl, _, _, hb⟩
    exact ⟨⟨_, N, rfl⟩, hb⟩
theorem wrapU {n : Int} (h0 : 0 ≤ n) (h1 : n < 18446744073709551616) : IntKind.u64.wrap n = n := by
  simp only [IntKind.wrap, IntKind.bits, IntKind.signed]
  simp
  omega
theorem atoi_lt {l : M.Bs} {v : Int} (h : Lib.atoiAll l = .ok v) : v < 9223372036854775808 := by
  unfold Lib.atoiAll at h
  split at h
  · cases h
  · simp only at h
    split at h
    · cases h
    · cases h
    · split at h
      · cases h
      · split at h
        · cases h
        · injection h with h
          rw [← h]
          split <;> omega
def NumRes (o : Option Nat) (w : World) (e : Ending) (w' : World) : Prop :=
  (match o with
   | some n => e = .returned (.tuple #[.int .u64 n, .nilIface])
   | none => ∃ t v, e = .returned (.tuple #[.int .u64 0, .iface t v])) ∧ Below w.heap.size w w'
set_option maxHeartbeats 1000000 in
theorem mustParse_any (s : ByteArray) (o : Option Nat) (w : World) (hs : s.size ≤ 140737488351232) (hn : NumErrs w) (ho : Hid (M.num (M.bs s) = o)) :
    Calls Tryd.prog 49 #[.string s] w (NumRes o w) := by
  cases hp : Lib.atoiAll (M.bs s) with
  | ok v =>
    have HP := Lib.hid hp
    have hv := atoi_lt hp
    by_cases h0 : 0 ≤ v
    · have hw := wrapU h0 (by omega)
      have HO := Lib.hid (show o = some v.toNat by rw [← ho.out]; unfold M.num; rw [hp]; simp only; rw [if_pos h0])
      clear hp ho
      go_enter Tryd.func49, Tryd.ntmps49
      go_wp2_with (go_at_call 59; (with_reducible refine (atoi_ok s v _ hs HP).mono ?_); rintro e w1 ⟨rfl, hb⟩; have HB := Lib.hid hb; clear hb)
      go_ret2
      unfold NumRes
      rw [HO.out]
      exact ⟨by simp; omega, HB.out⟩
    · have HO := Lib.hid (show o = none by rw [← ho.out]; unfold M.num; rw [hp]; simp only; rw [if_neg h0])
      clear hp ho
      go_enter Tryd.func49, Tryd.ntmps49
      go_wp2_with (first
        | (go_at_call 59; (with_reducible refine (atoi_ok s v _ hs HP).mono ?_); rintro e w1 ⟨rfl, hb⟩; have HB := Lib.hid hb; clear hb)
        | (go_at_call 48; (with_reducible refine (errNew_any _ _).mono ?_); rintro e w2 ⟨⟨et, ev, rfl⟩, hb⟩; have HB2 := Lib.hid (Below.up HB.out hb); clear hb))
      go_ret2
      unfold NumRes
      rw [HO.out]
      exact ⟨⟨_, _, rfl⟩, HB2.out⟩
  | _ =>
    have HP : Hid (∀ v, Lib.atoiAll (M.bs s) ≠ .ok v) := Lib.hid (by rw [hp]; intro v h; cases h)
    have HO := Lib.hid (show o = none by rw [← ho.out]; unfold M.num; rw [hp])
    have HN := Lib.hid hn
    clear hp ho hn
    go_enter Tryd.func49, Tryd.ntmps49
    go_wp2_with (first
      | (go_at_call 59; (with_reducible refine (atoi_err s _ hs HP HN.out).mono ?_); rintro e w1 ⟨⟨u, N, rfl⟩, hb⟩; have HB := Lib.hid hb; clear hb)
      | (go_at_call 48; (with_reducible refine (errNew_any _ _).mono ?_); rintro e w2 ⟨⟨et, ev, rfl⟩, hb⟩; have HB2 := Lib.hid (Below.up HB.out hb); clear hb))
    go_ret2
    unfold NumRes
    rw [HO.out]
    exact ⟨⟨_, _, rfl⟩, HB2.out⟩

/-- mustParseInt and kin, with the answer told apart ahead -/
theorem mustParse_some (s : ByteArray) (n : Nat) (w : World) (hs : s.size ≤ 140737488351232) (hn : NumErrs w) (ho : Hid (M.num (M.bs s) = some n)) :
    Calls Tryd.prog 49 #[.string s] w fun e w' => e = .returned (.tuple #[.int .u64 n, .nilIface]) ∧ Below w.heap.size w w' := mustParse_any s _ w hs hn ho
theorem mustParse_none (s : ByteArray) (w : World) (hs : s.size ≤ 140737488351232) (hn : NumErrs w) (ho : Hid (M.num (M.bs s) = none)) :
    Calls Tryd.prog 49 #[.string s] w fun e w' => (∃ t v, e = .returned (.tuple #[.int .u64 0, .iface t v])) ∧ Below w.heap.size w w' := mustParse_any s _ w hs hn ho
end Go.Proofs.YtjipjhpehfbpkaaDoor
