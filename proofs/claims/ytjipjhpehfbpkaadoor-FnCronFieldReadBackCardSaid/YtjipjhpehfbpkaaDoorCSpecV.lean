/-
  spec.CronValue: what it reads as fine is a value of the field.
-/
import Derived.Test.YtjipjhpehfbpkaaDoorCSpecF
namespace Go.Proofs.YtjipjhpehfbpkaaDoor
open Go.RowKit
set_option maxRecDepth 100000
set_option linter.unusedVariables false

/-- a small letter's capital -/
def up1 (c : UInt8) : UInt8 := if 97 ≤ c.toNat ∧ c.toNat ≤ 122 then UInt8.ofNat (c.toNat - 32) else c
theorem low_up (c : UInt8) : M.low1 (up1 c) = M.low1 c := by
  unfold up1
  split
  · rename_i h
    have e := M.ofNat_toNat (n := c.toNat - 32) (by omega)
    unfold M.low1
    rw [if_pos (by rw [e]; omega), if_neg (by omega), e]
    apply UInt8.toNat_inj.1
    rw [M.ofNat_toNat (by omega)]
    omega
  · rfl
theorem up_low {c d : UInt8} (h : up1 c = up1 d) : M.low1 c = M.low1 d := by rw [← low_up c, ← low_up d, h]
theorem cronUpper_any (c : UInt8) (w : World) : Calls Tryd.prog 60 #[.int .u8 (c.toNat : Int)] w fun e w' => e = .returned (.int .u8 ((up1 c).toNat : Int)) ∧ w = w' := by
  have HC : Hid ((97 ≤ c.toNat ∧ c.toNat ≤ 122) → ((up1 c).toNat : Int) = (c.toNat : Int) - 32) := Lib.hid (fun h => by
    unfold up1
    rw [if_pos h, M.ofNat_toNat (by omega)]
    omega)
  by_cases h1 : 97 ≤ c.toNat
  · have q1 : (97 : Int) ≤ (c.toNat : Int) := by omega
    by_cases h2 : c.toNat ≤ 122
    · have q2 : (c.toNat : Int) ≤ 122 := by omega
      have HX := Lib.hid (HC.out ⟨h1, h2⟩)
      clear HC h1 h2
      go_enter Tryd.func60, Tryd.ntmps60
      go_wp2
      go_ret
      refine ⟨?_, rfl⟩
      rw [HX.out]
      show Ending.returned (Value.int .u8 _) = Ending.returned (Value.int .u8 _)
      have : (c.toNat : Int) - 97 + 65 = (c.toNat : Int) - 32 := by omega
      first | rw [this] | (congr 2; omega) | (congr 2)
    · have q2 : ¬ (c.toNat : Int) ≤ 122 := by omega
      have HX := Lib.hid (show up1 c = c by unfold up1; rw [if_neg (by omega)])
      clear HC h1 h2
      go_enter Tryd.func60, Tryd.ntmps60
      go_wp2
      go_ret
      exact ⟨by rw [HX.out]; rfl, rfl⟩
  · have q1 : ¬ (97 : Int) ≤ (c.toNat : Int) := by omega
    have HX := Lib.hid (show up1 c = c by unfold up1; rw [if_neg (by omega)])
    clear HC h1
    go_enter Tryd.func60, Tryd.ntmps60
    go_wp2
    go_ret
    exact ⟨by rw [HX.out]; rfl, rfl⟩
theorem cronForeign_any (s : ByteArray) (w : World) (hs : s.size ≤ 2147483647) : Calls Tryd.prog 53 #[.string s] w fun e w' => (∃ r, e = .returned (.bool r)) ∧ w = w' := by
  go_enter Tryd.func53, Tryd.ntmps53
  go_wp2
  go_loopw [6] (fun i wr => ∃ k : Nat, k ≤ s.size ∧ i = .int .i64 (k : Int) ∧ wr = w) (fun i _ => s.size - (intOf i).toNat)
  case atStart => exact ⟨0, Nat.zero_le _, rfl, rfl⟩
  case round =>
    obtain ⟨k, hk, rfl, rfl⟩ := hrel
    by_cases hlt : k < s.size
    · by_cases hf : (128 : Int) ≤ (s[k].toNat : Int)
      · go_wp2
        go_ret
        exact ⟨⟨_, rfl⟩, rfl⟩
      · go_wp2
        go_roundw
        case rel => exact ⟨k + 1, hlt, by go_num, trivial⟩
        case measure => simp [intOf]; omega
    · go_wp2
      go_ret
      exact ⟨⟨_, rfl⟩, rfl⟩
theorem same_map {a b : ByteArray} (hz : a.size = b.size) (h : ∀ j (h1 : j < a.size) (h2 : j < b.size), M.low1 a[j] = M.low1 b[j]) : (M.bs a).map M.low1 = (M.bs b).map M.low1 := by
  apply List.ext_getElem
  · simp [M.bs]; exact hz
  · intro i h1 h2
    have g1 : i < a.size := by simpa [M.bs] using h1
    have g2 : i < b.size := by omega
    rw [List.getElem_map, List.getElem_map]
    exact h i g1 g2
set_option maxHeartbeats 4000000 in
theorem cronSame_any (a b : ByteArray) (w : World) (ha : a.size ≤ 2147483647) (hb : b.size ≤ 2147483647) : Calls Tryd.prog 51 #[.string a, .string b] w fun e w' => (∃ r, e = .returned (.bool r) ∧ (r = true → (M.bs a).map M.low1 = (M.bs b).map M.low1)) ∧ Below w.heap.size w w' := by
  by_cases hz : a.size = b.size
  · have hzz : ((a.size : Int) != (b.size : Int)) = false := by rw [bne_eq_false_iff_eq, hz]
    have HZ := Lib.hid hz
    clear hz
    go_enter Tryd.func51, Tryd.ntmps51
    go_wp2
    go_loopw [13] (fun i wr => ∃ k : Nat, k ≤ a.size ∧ i = .int .i64 (k : Int) ∧ Hid (∀ j (h1 : j < a.size) (h2 : j < b.size), j < k → M.low1 a[j] = M.low1 b[j]) ∧ Hid (Below w.heap.size w wr)) (fun i _ => a.size - (intOf i).toNat)
    case atStart => exact ⟨0, Nat.zero_le _, rfl, Lib.hid (fun j _ _ h => absurd h (Nat.not_lt_zero _)), Lib.hid (Below.refl _ _)⟩
    case round =>
      obtain ⟨k, hk, rfl, HI, HW⟩ := hrel
      by_cases hlt : k < a.size
      · have hlt2 : k < b.size := by have := HZ.out; omega
        cases he : (((up1 a[k]).toNat : Int) == ((up1 b[k]).toNat : Int)) with
        | true =>
          have HE := Lib.hid (show M.low1 a[k] = M.low1 b[k] from up_low (by rw [beq_iff_eq] at he; exact UInt8.toNat_inj.1 (by omega)))
          have HNX : Hid (∀ j (h1 : j < a.size) (h2 : j < b.size), j < k + 1 → M.low1 a[j] = M.low1 b[j]) := Lib.hid (fun j h1 h2 h3 => by
            by_cases e : j = k
            · subst e; exact HE.out
            · exact HI.out j h1 h2 (by omega))
          go_wp2
          go_region_held3 (fun w' => Below w.heap.size w w') (first | assumption | exact HW.out.drew | exact HW.out | fail) (first
            | (go_at_call 60; (with_reducible refine (cronUpper_any a[k] _).mono ?_); rintro e w1 ⟨rfl, rfl⟩)
            | (go_at_call 60; (with_reducible refine (cronUpper_any b[k] _).mono ?_); rintro e w1 ⟨rfl, rfl⟩)
            | fail)
          all_goals
            go_wp2
            go_roundw
            case rel => first | exact ⟨k + 1, hlt, by go_num, HNX, Lib.hid HW.out.drew⟩ | ((repeat apply Exists.intro); exact ⟨⟨k + 1, hlt, by go_num, HNX, Lib.hid HW.out.drew⟩, by first | rfl | ((repeat' apply And.intro) <;> rfl)⟩)
            case measure => simp [intOf]; omega
        | false =>
          go_wp2
          go_region_held3 (fun w' => Below w.heap.size w w') (first | assumption | exact HW.out.drew | exact HW.out | fail) (first
            | (go_at_call 60; (with_reducible refine (cronUpper_any a[k] _).mono ?_); rintro e w1 ⟨rfl, rfl⟩)
            | (go_at_call 60; (with_reducible refine (cronUpper_any b[k] _).mono ?_); rintro e w1 ⟨rfl, rfl⟩)
            | fail)
          all_goals
            go_wp2
            go_ret
            exact ⟨⟨_, rfl, fun h => by cases h⟩, HW.out.drew⟩
      · go_wp2
        go_ret
        exact ⟨⟨_, rfl, fun _ => same_map HZ.out (fun j h1 h2 => HI.out j h1 h2 (by omega))⟩, HW.out⟩
  · have hzz : ((a.size : Int) == (b.size : Int)) = false := by rw [beq_eq_false_iff_ne]; omega
    clear hz
    go_enter Tryd.func51, Tryd.ntmps51
    go_wp2
    go_ret
    exact ⟨⟨_, rfl, fun h => by cases h⟩, Below.refl _ _⟩
end Go.Proofs.YtjipjhpehfbpkaaDoor
