/-
  The reference's checks of prereleases and metadata (spec.ValidMeta, ValidPre, SmallPre).
-/
import Derived.Test.YtopaileliohpdaaDoorIds
namespace Go.Proofs.YtopaileliohpdaaDoor
open Go.RowKit

theorem listAll_take {α : Type} (p : α → Bool) (L : List α) (k : Nat) (h : k < L.length) (hk : (L.take k).all p = true) (hp : p L[k] = true) : (L.take (k + 1)).all p = true := by
  rw [List.take_succ_eq_append_getElem h, List.all_append, hk]
  simp [hp]
theorem listAll_false {α : Type} (p : α → Bool) (L : List α) (k : Nat) (h : k < L.length) (hp : p L[k] = false) : L.all p = false := by
  rw [List.all_eq_false]
  exact ⟨L[k], List.getElem_mem h, by simp [hp]⟩
theorem all_bs (p : M.Bs → Bool) {L : List ByteArray} {l : List M.Bs} (h : L.map M.bs = l) : l.all p = L.all fun b => p (M.bs b) := by
  rw [← h, List.all_map]; rfl
theorem pieces_len {x : UInt8} {s : ByteArray} {L : List ByteArray} (h : L.map M.bs = M.splitOn x (M.bs s)) : L.length ≤ s.size + 1 := by
  have h1 := M.splitOn_length x (M.bs s)
  rw [← h, List.length_map, M.bs_length] at h1
  exact h1
theorem piece_size {x : UInt8} {s : ByteArray} {L : List ByteArray} (h : L.map M.bs = M.splitOn x (M.bs s)) (k : Nat) (hk : k < L.length) : L[k].size ≤ s.size := by
  have hm : M.bs L[k] ∈ M.splitOn x (M.bs s) := by rw [← h]; exact List.mem_map.2 ⟨L[k], List.getElem_mem hk, rfl⟩
  have := M.piece_le x (M.bs s) _ hm
  simpa [M.bs_length] using this

set_option maxRecDepth 100000 in
theorem validMeta_any (s : ByteArray) (w : World) (hs : s.size ≤ 2147483647) :
    Calls Tryd.prog 15 #[.string s] w fun e w' => e = .returned (.bool (M.validMeta (M.bs s))) ∧ Below w.heap.size w w' := by
  go_enter Tryd.func15, Tryd.ntmps15
  go_wp2_with fail
  refine (identifiers_any s _ hs).mono ?_
  rintro e w1 ⟨v, L, rfl, hL, hown, hb⟩
  obtain ⟨A, cap, rfl, hcell⟩ := hown.read
  have hlen := pieces_len hL
  have HA := Lib.hid (all_bs M.validId hL)
  have HL := Lib.hid hL
  have HC := Lib.hid hcell
  have HB := Lib.hid hb
  clear hL hown hcell hb
  go_wp2
  go_loop [8] (fun i => ∃ k : Nat, k ≤ L.length ∧ i = .int .i64 k ∧ Hid ((L.take k).all (fun b => M.validId (M.bs b)) = true)) (fun i => L.length - (intOf i).toNat)
  case atStart => exact ⟨0, Nat.zero_le _, rfl, Lib.hid (by simp)⟩
  case round =>
    obtain ⟨k, hk, rfl, ha⟩ := hrel
    by_cases hlt : k < L.length
    · obtain ⟨b, o, rfl, _, hcell⟩ := HC.out k hlt
      have hsz := piece_size HL.out k hlt
      go_wp2_with ((go_at_call 45; (with_reducible refine (validIdent_any _ _ (by omega)).mono ?_); rintro e w' ⟨rfl, rfl⟩))
      · have hv : (!M.validId (M.bs L[k])) = true := by assumption
        go_ret
        refine ⟨ret_bool ?_, HB.out⟩
        unfold M.validMeta
        rw [HA.out, listAll_false _ L k hlt (by simpa using hv)]
      · have hv : (!M.validId (M.bs L[k])) = false := by assumption
        have HV := Lib.hid (show M.validId (M.bs L[k]) = true by simpa using hv)
        clear hv
        go_round
        case rel => exact ⟨k + 1, hlt, by go_num, Lib.hid (listAll_take _ L k hlt ha.out HV.out)⟩
        case measure => simp [intOf]; omega
    · have HK := Lib.hid (show k = L.length by omega)
      go_wp2
      go_ret
      refine ⟨ret_bool ?_, HB.out⟩
      have h1 := ha.out
      rw [HK.out, List.take_length] at h1
      unfold M.validMeta
      rw [HA.out, h1]

theorem zeroNum_eq (t : ByteArray) (h : 0 < t.size) : M.zeroNum (M.bs t) = (M.digits (M.bs t) && decide (1 < (t.size : Int)) && ((t[0].toNat : Int) == 48)) := by
  unfold M.zeroNum
  rw [M.bs_length, List.head?_eq_getElem?, M.bs_get t 0 h]
  congr 1
  · congr 1
    rw [Bool.eq_iff_iff, decide_eq_true_iff, decide_eq_true_iff]
    omega
  · rw [Bool.eq_iff_iff, beq_iff_eq, beq_iff_eq, Option.some.injEq, ← UInt8.toNat_inj]
    constructor
    · intro h1; rw [h1]; rfl
    · intro h1
      have : t[0].toNat = 48 := by omega
      exact this
theorem zeroNum_short (t : ByteArray) (h : ¬ 1 < (t.size : Int)) : M.zeroNum (M.bs t) = false := by
  unfold M.zeroNum
  rw [M.bs_length, show decide (1 < t.size) = false from by simp; omega]
  simp

set_option maxRecDepth 100000 in
theorem validPre_any (s : ByteArray) (w : World) (hs : s.size ≤ 2147483647) :
    Calls Tryd.prog 46 #[.string s] w fun e w' => e = .returned (.bool (M.validPre (M.bs s))) ∧ Below w.heap.size w w' := by
  go_enter Tryd.func46, Tryd.ntmps46
  go_wp2_with fail
  refine (identifiers_any s _ hs).mono ?_
  rintro e w1 ⟨v, L, rfl, hL, hown, hb⟩
  obtain ⟨A, cap, rfl, hcell⟩ := hown.read
  have hlen := pieces_len hL
  have HA := Lib.hid (all_bs (fun p => M.validId p && !M.zeroNum p) hL)
  have HL := Lib.hid hL
  have HC := Lib.hid hcell
  have HB := Lib.hid hb
  clear hL hown hcell hb
  go_wp2
  go_loop [8] (fun i => ∃ k : Nat, k ≤ L.length ∧ i = .int .i64 k ∧ Hid ((L.take k).all (fun b => M.validId (M.bs b) && !M.zeroNum (M.bs b)) = true)) (fun i => L.length - (intOf i).toNat)
  case atStart => exact ⟨0, Nat.zero_le _, rfl, Lib.hid (by simp)⟩
  case round =>
    obtain ⟨k, hk, rfl, ha⟩ := hrel
    by_cases hlt : k < L.length
    · obtain ⟨b, o, rfl, _, hcell⟩ := HC.out k hlt
      have hsz := piece_size HL.out k hlt
      go_wp2_with (first
        | (go_at_call 45; (with_reducible refine (validIdent_any _ _ (by omega)).mono ?_); rintro e w' ⟨rfl, rfl⟩)
        | (go_at_call 49; (with_reducible refine (digits_any _ _ (by omega)).mono ?_); rintro e w' ⟨rfl, rfl⟩))
      · have h1 : M.validId (M.bs L[k]) = true := by assumption
        have h2 : M.digits (M.bs L[k]) = true := by assumption
        have h3 : 1 < (L[k].size : Int) := by assumption
        have h4 : 0 < L[k].size := by assumption
        have h5 : ((L[k][0].toNat : Int) == 48) = true := by assumption
        go_ret
        refine ⟨ret_bool ?_, HB.out⟩
        unfold M.validPre
        rw [HA.out, listAll_false _ L k hlt (by rw [zeroNum_eq _ h4, h2, h5, decide_eq_true h3]; simp)]
      · have h1 : M.validId (M.bs L[k]) = true := by assumption
        have h4 : 0 < L[k].size := by assumption
        have h5 : ((L[k][0].toNat : Int) == 48) = false := by assumption
        have HV := Lib.hid (show (M.validId (M.bs L[k]) && !M.zeroNum (M.bs L[k])) = true by rw [zeroNum_eq _ h4, h1, h5]; simp)
        clear h1 h5
        go_round
        case rel => exact ⟨k + 1, hlt, by go_num, Lib.hid (listAll_take _ L k hlt ha.out HV.out)⟩
        case measure => simp [intOf]; omega
      · have h1 : M.validId (M.bs L[k]) = true := by assumption
        have h3 : ¬ 1 < (L[k].size : Int) := by assumption
        have HV := Lib.hid (show (M.validId (M.bs L[k]) && !M.zeroNum (M.bs L[k])) = true by rw [zeroNum_short _ h3, h1]; rfl)
        clear h1
        go_round
        case rel => exact ⟨k + 1, hlt, by go_num, Lib.hid (listAll_take _ L k hlt ha.out HV.out)⟩
        case measure => simp [intOf]; omega
      · have h1 : M.validId (M.bs L[k]) = true := by assumption
        have h2 : ¬ M.digits (M.bs L[k]) = true := by assumption
        have HV := Lib.hid (show (M.validId (M.bs L[k]) && !M.zeroNum (M.bs L[k])) = true by simp [M.zeroNum, h1, h2])
        clear h1 h2
        go_round
        case rel => exact ⟨k + 1, hlt, by go_num, Lib.hid (listAll_take _ L k hlt ha.out HV.out)⟩
        case measure => simp [intOf]; omega
      · have h1 : ¬ M.validId (M.bs L[k]) = true := by assumption
        go_ret
        refine ⟨ret_bool ?_, HB.out⟩
        unfold M.validPre
        rw [HA.out, listAll_false _ L k hlt (by simp [h1])]
    · have HK := Lib.hid (show k = L.length by omega)
      go_wp2
      go_ret
      refine ⟨ret_bool ?_, HB.out⟩
      have h1 := ha.out
      rw [HK.out, List.take_length] at h1
      unfold M.validPre
      rw [HA.out, h1]

set_option maxRecDepth 100000 in
theorem smallPre_any (s : ByteArray) (w : World) (hs : s.size ≤ 2147483647) :
    Calls Tryd.prog 47 #[.string s] w fun e w' => e = .returned (.bool (M.smallPre (M.bs s))) ∧ Below w.heap.size w w' := by
  go_enter Tryd.func47, Tryd.ntmps47
  go_wp2_with fail
  refine (identifiers_any s _ hs).mono ?_
  rintro e w1 ⟨v, L, rfl, hL, hown, hb⟩
  obtain ⟨A, cap, rfl, hcell⟩ := hown.read
  have hlen := pieces_len hL
  have HA := Lib.hid (all_bs (fun p => !(M.digits p && decide (19 < p.length))) hL)
  have HL := Lib.hid hL
  have HC := Lib.hid hcell
  have HB := Lib.hid hb
  clear hL hown hcell hb
  go_wp2
  go_loop [8] (fun i => ∃ k : Nat, k ≤ L.length ∧ i = .int .i64 k ∧ Hid ((L.take k).all (fun b => !(M.digits (M.bs b) && decide (19 < (M.bs b).length))) = true)) (fun i => L.length - (intOf i).toNat)
  case atStart => exact ⟨0, Nat.zero_le _, rfl, Lib.hid (by simp)⟩
  case round =>
    obtain ⟨k, hk, rfl, ha⟩ := hrel
    by_cases hlt : k < L.length
    · obtain ⟨b, o, rfl, _, hcell⟩ := HC.out k hlt
      have hsz := piece_size HL.out k hlt
      have HN := Lib.hid (M.bs_length L[k])
      go_wp2_with ((go_at_call 49; (with_reducible refine (digits_any _ _ (by omega)).mono ?_); rintro e w' ⟨rfl, rfl⟩))
      · have h2 : M.digits (M.bs L[k]) = true := by assumption
        have h3 : 19 < (L[k].size : Int) := by assumption
        go_ret
        refine ⟨ret_bool ?_, HB.out⟩
        unfold M.smallPre
        rw [HA.out, listAll_false _ L k hlt (by rw [HN.out, h2, decide_eq_true (by omega)]; rfl)]
      · have h3 : (L[k].size : Int) ≤ 19 := by assumption
        have HV := Lib.hid (show (!(M.digits (M.bs L[k]) && decide (19 < (M.bs L[k]).length))) = true by rw [HN.out, decide_eq_false (by omega), Bool.and_false]; rfl)
        go_round
        case rel => exact ⟨k + 1, hlt, by go_num, Lib.hid (listAll_take _ L k hlt ha.out HV.out)⟩
        case measure => simp [intOf]; omega
      · have h2 : ¬ M.digits (M.bs L[k]) = true := by assumption
        have HV := Lib.hid (show (!(M.digits (M.bs L[k]) && decide (19 < (M.bs L[k]).length))) = true by simp [h2])
        clear h2
        go_round
        case rel => exact ⟨k + 1, hlt, by go_num, Lib.hid (listAll_take _ L k hlt ha.out HV.out)⟩
        case measure => simp [intOf]; omega
    · have HK := Lib.hid (show k = L.length by omega)
      go_wp2
      go_ret
      refine ⟨ret_bool ?_, HB.out⟩
      have h1 := ha.out
      rw [HK.out, List.take_length] at h1
      unfold M.smallPre
      rw [HA.out, h1]
end Go.Proofs.YtopaileliohpdaaDoor
