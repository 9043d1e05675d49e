/-
  spec.cronZeros and spec.CronNumber.
-/
import Derived.Test.YtjipjhpehfbpkaaDoorCNum
import Derived.Deep.DeepCutAuto
import Derived.Deep.Light
namespace Go.Proofs.YtjipjhpehfbpkaaDoor
open Go.RowKit
set_option maxRecDepth 100000
set_option linter.unusedVariables false

theorem beq48 (c : UInt8) : (c == 48) = decide ((c.toNat : Int) = 48) := by
  rw [Bool.eq_iff_iff, beq_iff_eq, decide_eq_true_eq]
  constructor
  · rintro rfl; rfl
  · intro h; exact UInt8.toNat_inj.1 (by have : (48 : UInt8).toNat = 48 := rfl; omega)
theorem zeros_any (s : ByteArray) (w : World) (hs : s.size ≤ 9223372036854775807) :
    Calls Tryd.prog 54 #[.string s] w fun e w' => e = .returned (.bool (M.zeros (M.bs s))) ∧ w' = w := by
  go_enter Tryd.func54, Tryd.ntmps54
  go_wp2
  go_loop [6] (fun i => ∃ k : Nat, k ≤ s.size ∧ i = .int .i64 k ∧ Hid (((M.bs s).take k).all (· == 48) = true)) (fun i => s.size - (intOf i).toNat)
  case atStart => exact ⟨0, Nat.zero_le _, rfl, Lib.hid (by simp)⟩
  case round =>
    obtain ⟨k, hk, rfl, ha⟩ := hrel
    by_cases hlt : k < s.size
    · cases hd : (s[k] == 48) with
      | false =>
        have HD := Lib.hid hd
        rw [beq48] at hd
        have hne : ((s[k].toNat : Int) != 48) = true := by simpa using hd
        clear hd
        go_wp2
        go_ret
        refine ⟨ret_bool ?_, rfl⟩
        rw [M.zeros, all_false (· == 48) s k hlt HD.out]
      | true =>
        have HD := Lib.hid hd
        rw [beq48] at hd
        have hne : ((s[k].toNat : Int) != 48) = false := by simpa using hd
        clear hd
        go_wp2
        go_round
        case rel => exact ⟨k + 1, by omega, by go_num, Lib.hid (all_take (· == 48) s k hlt ha.out HD.out)⟩
        case measure => simp [intOf]; omega
    · have HK := Lib.hid (show k = s.size by omega)
      go_wp2
      go_ret
      refine ⟨ret_bool ?_, rfl⟩
      have h1 := ha.out
      rw [HK.out, List.take_of_length_le (by simp [M.bs])] at h1
      exact h1.symm
theorem zeros_is (s : ByteArray) (r : Bool) (w : World) (hs : s.size ≤ 9223372036854775807) (hr : Hid (M.zeros (M.bs s) = r)) :
    Calls Tryd.prog 54 #[.string s] w fun e w' => e = .returned (.bool r) ∧ w = w' := by
  have := zeros_any s w hs
  rw [hr.out] at this
  exact this.mono fun e w' h => ⟨h.1, h.2.symm⟩
theorem isDigit_is (c : UInt8) (r : Bool) (w : World) (hr : Hid (M.isDig c = r)) :
    Calls Tryd.prog 55 #[.int .u8 c.toNat] w fun e w' => e = .returned (.bool r) ∧ w = w' := by
  have := isDigit_any c w
  rw [hr.out] at this
  exact this.mono fun e w' h => ⟨h.1, h.2.symm⟩
namespace M
/-- the number of the first k bytes, as far as it is told apart -/
def sat (l : Bs) (k : Nat) : Nat := min (val (l.take k)) huge
theorem sat_succ (s : ByteArray) (k : Nat) (h : k < s.size) : sat (bs s) (k + 1) = min (10 * sat (bs s) k + (s[k].toNat - 48)) huge := by
  unfold sat
  rw [digits_loop s k h]
  have : val ((bs s).take k ++ [s[k]]) = val ((bs s).take k) * 10 + (s[k].toNat - 48) := by
    unfold val valFrom
    rw [List.foldl_append]
    rfl
  rw [this]
  unfold huge
  omega
theorem sat_le (l : Bs) (k : Nat) : sat l k ≤ 1099511627776 := by unfold sat huge; omega
end M
namespace M
/-- what is read behind the sign -/
def behind (t : Bs) (v : Nat) : Nat × Nat := if digits t then (min (val t) huge, v) else (0, 0)
theorem snum_behind (l : Bs) : snum l = behind (if opens l then l.tail else l) (if opens l then 2 else 1) := rfl
theorem behind_bad {t : Bs} (h : digits t = false) (v : Nat) : behind t v = (0, 0) := by unfold behind; rw [h]; rfl
theorem behind_ok {t : Bs} (h : digits t = true) (v : Nat) : behind t v = (min (val t) huge, v) := by unfold behind; rw [h]; rfl
end M
def NumIs (r : Nat × Nat) (w : World) (e : Ending) (w' : World) : Prop := e = .returned (.tuple #[.int .i64 (r.1 : Int), .int .i64 (r.2 : Int)]) ∧ w' = w
theorem digits_nz {t : ByteArray} (h : 0 < t.size) : M.digits (M.bs t) = (M.bs t).all M.isDig := by
  unfold M.digits
  have : (M.bs t).isEmpty = false := by
    cases e : M.bs t with
    | nil => have := M.bs_length t; rw [e] at this; simp at this; omega
    | cons _ _ => rfl
  rw [this]; rfl
theorem bs_cons (s : ByteArray) (h : 0 < s.size) : M.bs s = s[0] :: M.bs (s.extract 1 s.size) := by
  rw [bs_extract]
  have h1 : 0 < (M.bs s).length := by rw [M.bs_length]; exact h
  have e : (M.bs s).drop 0 = (M.bs s)[0] :: (M.bs s).drop (0 + 1) := List.drop_eq_getElem_cons h1
  rw [List.drop_zero] at e
  rw [List.take_of_length_le (by rw [List.length_drop, M.bs_length]; exact Nat.le_refl _)]
  exact e
theorem opens_no {s : ByteArray} (h : ¬ 0 < s.size) : M.snum (M.bs s) = M.behind (M.bs s) 1 := by
  have : M.bs s = [] := List.eq_nil_of_length_eq_zero (by rw [M.bs_length]; omega)
  rw [this]; rfl
theorem opens_plus {s : ByteArray} (h : 0 < s.size) (hc : ((s[0].toNat : Int) == 43) = true) : M.snum (M.bs s) = M.behind (M.bs (s.extract 1 s.size)) 2 := by
  have : s[0] = 43 := byte_eq 43 rfl hc
  rw [M.snum_behind, bs_cons s h, this]; rfl
theorem opens_minus {s : ByteArray} (h : 0 < s.size) (hc : ((s[0].toNat : Int) == 45) = true) (z : Bool) (hz : M.zeros (M.bs (s.extract 1 s.size)) = z) : M.snum (M.bs s) = if z then M.behind (M.bs (s.extract 1 s.size)) 2 else M.behind (M.bs s) 1 := by
  have : s[0] = 45 := byte_eq 45 rfl hc
  have ho : M.opens (M.bs s) = z := by
    rw [bs_cons s h, this]
    show ((45 : UInt8) == 43 || ((45 : UInt8) == 45 && M.zeros (M.bs (s.extract 1 s.size)))) = z
    rw [hz]; cases z <;> rfl
  rw [M.snum_behind, ho]
  cases z
  · rfl
  · rw [bs_cons s h]; rfl
theorem opens_else {s : ByteArray} (h : 0 < s.size) (hc : ((s[0].toNat : Int) == 43) = false) (hd : ((s[0].toNat : Int) == 45) = false) : M.snum (M.bs s) = M.behind (M.bs s) 1 := by
  have h1 := byte_ne 43 rfl hc
  have h2 := byte_ne 45 rfl hd
  have ho : M.opens (M.bs s) = false := by
    rw [bs_cons s h]
    show (s[0] == 43 || (s[0] == 45 && M.zeros (M.bs (s.extract 1 s.size)))) = false
    rw [beq_eq_false_iff_ne.2 h1, beq_eq_false_iff_ne.2 h2]; rfl
  rw [M.snum_behind, ho]; rfl
theorem sat_next {a b c : Nat} (h : b = min (10 * a + (c - 48)) M.huge) (g : (48 : Int) ≤ (c : Int)) : Value.int IntKind.i64 (min (10 * (a : Int) + ((c : Int) - 48)) 1099511627776) = Value.int IntKind.i64 (b : Int) := by
  have : min (10 * (a : Int) + ((c : Int) - 48)) 1099511627776 = (b : Int) := by rw [h]; unfold M.huge; omega
  rw [this]
set_option maxHeartbeats 4000000 in
theorem specNumber_any (s : ByteArray) (w : World) (hs : s.size ≤ 140737488351232) :
    Calls Tryd.prog 42 #[.string s] w (NumIs (M.snum (M.bs s)) w) := by
  have hs1 : s.size ≤ 9223372036854775807 := by omega
  go_enter Tryd.func42, Tryd.ntmps42
  go_upto_region 2 with fail
  go_cut [24] (fun s24 wx => ∃ b : Bool, s24 = .bool b ∧ w = wx ∧ Hid ((b = true → 1 ≤ s.size ∧ M.snum (M.bs s) = M.behind (M.bs (s.extract 1 s.size)) 2) ∧ (b = false → M.snum (M.bs s) = M.behind (M.bs s) 1)))
  case first =>
    by_cases h0 : 0 < s.size
    · cases hc : ((s[0].toNat : Int) == 43) with
      | true =>
        have HO := Lib.hid (opens_plus h0 hc)
        go_wp2
        go_meet
        exact ⟨true, rfl, rfl, Lib.hid ⟨fun _ => ⟨h0, HO.out⟩, fun h => by cases h⟩⟩
      | false =>
        cases hd : ((s[0].toNat : Int) == 45) with
        | true =>
          have hb : 1 ≤ s.size := h0
          have hz1 : (s.extract 1 s.size).size ≤ 9223372036854775807 := by rw [ByteArray.size_extract]; omega
          rcases hz : M.zeros (M.bs (s.extract 1 s.size)) with _ | _
          · have HO := Lib.hid (opens_minus h0 hd false hz)
            have HZ := Lib.hid hz
            clear hz
            go_wp2_with (go_at_call 54; (with_reducible refine (zeros_is _ false _ hz1 HZ).mono ?_); rintro e w' ⟨rfl, rfl⟩)
            go_meet
            exact ⟨false, rfl, rfl, Lib.hid ⟨fun h => by (first | (cases h; done) | (have := h; simp at this)), fun _ => HO.out⟩⟩
          · have HO := Lib.hid (opens_minus h0 hd true hz)
            have HZ := Lib.hid hz
            clear hz
            go_wp2_with (go_at_call 54; (with_reducible refine (zeros_is _ true _ hz1 HZ).mono ?_); rintro e w' ⟨rfl, rfl⟩)
            go_meet
            exact ⟨true, rfl, rfl, Lib.hid ⟨fun _ => ⟨h0, HO.out⟩, fun h => by cases h⟩⟩
        | false =>
          have HO := Lib.hid (opens_else h0 hc hd)
          go_wp2
          go_meet
          exact ⟨false, rfl, rfl, Lib.hid ⟨fun h => by (first | (cases h; done) | (have := h; simp at this)), fun _ => HO.out⟩⟩
    · have HO := Lib.hid (opens_no h0)
      go_wp2
      go_meet
      exact ⟨false, rfl, rfl, Lib.hid ⟨fun h => by (first | (cases h; done) | (have := h; simp at this)), fun _ => HO.out⟩⟩
  case rest =>
  obtain ⟨b, rfl, rfl, HB⟩ := hcut
  go_upto_if 24 with fail
  go_cut [0, 4] (fun s0 s4 wx => ∃ (t : ByteArray) (v : Nat), s0 = .string t ∧ s4 = .int .i64 (v : Int) ∧ w = wx ∧ t.size ≤ 9223372036854775807 ∧ Hid (M.snum (M.bs s) = M.behind (M.bs t) v))
  case first =>
    rcases b with _ | _
    · have H9 := Lib.hid (HB.out.2 rfl)
      clear HB
      go_wp2
      go_meet
      exact ⟨_, 1, rfl, rfl, rfl, hs1, H9⟩
    · have h1 := (HB.out.1 rfl).1
      have H9 := Lib.hid (HB.out.1 rfl).2
      clear HB
      have h2 : (s.extract 1 s.size).size ≤ 9223372036854775807 := by rw [ByteArray.size_extract]; omega
      go_wp2
      go_meet
      exact ⟨_, 2, rfl, rfl, rfl, h2, H9⟩
  case rest =>
    obtain ⟨t, v, rfl, rfl, rfl, ht, HT⟩ := hcut
    clear hs hs1
    by_cases h0 : 0 < t.size
    · have he1 : t.toList.isEmpty = false := by
        rw [← empty_bs]
        cases e : M.bs t with
        | nil => have := M.bs_length t; rw [e] at this; simp at this; omega
        | cons _ _ => rfl
      have HE := Lib.hid (digits_nz h0)
      go_wp2
      go_loop [5, 31] (fun n i => ∃ k : Nat, k ≤ t.size ∧ i = .int .i64 (k : Int) ∧ n = .int .i64 (M.sat (M.bs t) k : Int) ∧ Hid (((M.bs t).take k).all M.isDig = true)) (fun _ i => t.size - (intOf i).toNat)
      case atStart => exact ⟨0, Nat.zero_le _, rfl, rfl, Lib.hid (by simp)⟩
      case round =>
        obtain ⟨k, hk, rfl, rfl, ha⟩ := hrel
        have hsat := M.sat_le (M.bs t) k
        by_cases hlt : k < t.size
        · rcases hd : M.isDig t[k] with _ | _
          · have HD := Lib.hid hd
            clear hd
            go_wp2_with (go_at_call 55; (with_reducible refine (isDigit_is _ false _ HD).mono ?_); rintro e w' ⟨rfl, rfl⟩)
            go_ret2
            unfold NumIs
            rw [HT.out, M.behind_bad (by rw [HE.out]; exact all_false M.isDig t k hlt HD.out)]
            exact ⟨rfl, rfl⟩
          · have HD := Lib.hid hd
            have hdd := M.dig_iff.1 hd
            have g1 : (48 : Int) ≤ (t[k].toNat : Int) := by omega
            have g2 : (t[k].toNat : Int) ≤ 57 := by omega
            have HS := Lib.hid (M.sat_succ t k hlt)
            clear hd hdd
            go_wp2_with (go_at_call 55; (with_reducible refine (isDigit_is _ true _ HD).mono ?_); rintro e w' ⟨rfl, rfl⟩)
            go_round
            case rel => exact ⟨k + 1, by omega, by go_num, sat_next HS.out g1, Lib.hid (all_take M.isDig t k hlt ha.out HD.out)⟩
            case measure => simp [intOf]; omega
        · have HK := Lib.hid (show k = t.size by omega)
          go_wp2
          go_ret2
          have ht1 : (M.bs t).take k = M.bs t := by rw [HK.out]; exact List.take_of_length_le (by rw [M.bs_length]; exact Nat.le_refl _)
          have ha1 := ha.out
          rw [ht1] at ha1
          unfold NumIs
          rw [HT.out, M.behind_ok (by rw [HE.out]; exact ha1)]
          have hs9 : M.sat (M.bs t) k = min (M.val (M.bs t)) M.huge := by unfold M.sat; rw [ht1]
          exact ⟨by rw [← hs9]; rfl, rfl⟩
    · have he1 : t.toList.isEmpty = true := by
        rw [← empty_bs]
        have : M.bs t = [] := List.eq_nil_of_length_eq_zero (by rw [M.bs_length]; omega)
        rw [this]; rfl
      have HE := Lib.hid (show M.digits (M.bs t) = false by
        have : M.bs t = [] := List.eq_nil_of_length_eq_zero (by rw [M.bs_length]; omega)
        rw [this]; rfl)
      go_wp2
      go_ret2
      unfold NumIs
      rw [HT.out, M.behind_bad HE.out]
      exact ⟨rfl, rfl⟩
end Go.Proofs.YtjipjhpehfbpkaaDoor
