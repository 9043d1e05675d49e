/-
  semver's own checks of metadata and prereleases: which error they hand back.
-/
import Derived.Test.YtopaileliohpdaaDoorOnly
import Derived.Test.YtopaileliohpdaaDoorVal
import Derived.Test.YtopaileliohpdaaDoorSent
namespace Go.Proofs.YtopaileliohpdaaDoor
open Go.RowKit

def alphaB : ByteArray := ⟨#[97, 98, 99, 100, 101, 102, 103, 104, 105, 106, 107, 108, 109, 110, 111, 112, 113, 114, 115, 116, 117, 118, 119, 120, 121, 122, 65, 66, 67, 68, 69, 70, 71, 72, 73, 74, 75, 76, 77, 78, 79, 80, 81, 82, 83, 84, 85, 86, 87, 88, 89, 90, 45, 48, 49, 50, 51, 52, 53, 54, 55, 56, 57]⟩
def numB : ByteArray := ⟨#[48, 49, 50, 51, 52, 53, 54, 55, 56, 57]⟩
theorem alpha_all : ((List.range 256).all fun n => ((M.bs alphaB).any fun d => d.toNat == n) == M.isIdc (UInt8.ofNat n)) = true := by decide +kernel
theorem num_all : ((List.range 256).all fun n => ((M.bs numB).any fun d => d.toNat == n) == M.isDig (UInt8.ofNat n)) = true := by decide +kernel
theorem only_alpha (l : M.Bs) : M.only (M.bs alphaB) l = l.all M.isIdc := by
  unfold M.only
  congr 1
  funext c
  have := List.all_eq_true.1 alpha_all c.toNat (List.mem_range.2 c.toNat_lt)
  simpa using this
theorem only_num (l : M.Bs) : M.only (M.bs numB) l = l.all M.isDig := by
  unfold M.only
  congr 1
  funext c
  have := List.all_eq_true.1 num_all c.toNat (List.mem_range.2 c.toNat_lt)
  simpa using this
theorem ascii_alpha : Ascii (M.bs alphaB) := by
  have : (M.bs alphaB).all (fun c => decide (c.toNat < 128)) = true := by decide +kernel
  intro c hc
  simpa using List.all_eq_true.1 this c hc
theorem ascii_num : Ascii (M.bs numB) := by
  have : (M.bs numB).all (fun c => decide (c.toNat < 128)) = true := by decide +kernel
  intro c hc
  simpa using List.all_eq_true.1 this c hc

theorem only_alpha_any (s : ByteArray) (w : World) :
    Calls Tryd.prog 90 #[.string s, .string ⟨#[97, 98, 99, 100, 101, 102, 103, 104, 105, 106, 107, 108, 109, 110, 111, 112, 113, 114, 115, 116, 117, 118, 119, 120, 121, 122, 65, 66, 67, 68, 69, 70, 71, 72, 73, 74, 75, 76, 77, 78, 79, 80, 81, 82, 83, 84, 85, 86, 87, 88, 89, 90, 45, 48, 49, 50, 51, 52, 53, 54, 55, 56, 57]⟩] w fun e w' => e = .returned (.bool ((M.bs s).all M.isIdc)) ∧ Below w.heap.size w w' := by
  rw [← only_alpha]
  exact containsOnly_any s alphaB w (by decide) ascii_alpha
theorem only_num_any (s : ByteArray) (w : World) :
    Calls Tryd.prog 90 #[.string s, .string ⟨#[48, 49, 50, 51, 52, 53, 54, 55, 56, 57]⟩] w fun e w' => e = .returned (.bool ((M.bs s).all M.isDig)) ∧ Below w.heap.size w w' := by
  rw [← only_num]
  exact containsOnly_any s numB w (by decide) ascii_num

/-- nil for what is valid -/
def metaVal (ev : Value) (b : Bool) : Value := if b then .nilIface else ev

theorem ret_val {a b : Value} (h : a = b) : Ending.returned a = .returned b := by rw [h]

set_option maxHeartbeats 800000 in
set_option maxRecDepth 100000 in
theorem validateMetadata_any (s : ByteArray) (ev : Value) (w : World) (hs : s.size ≤ 2147483647) (hg : w.cell? ⟨5, 0, none⟩ = some ev) :
    Calls Tryd.prog 68 #[.string s] w fun e w' => e = .returned (metaVal ev (M.validMeta (M.bs s))) ∧ Below w.heap.size w w' := by
  have hgl := Sent.cell_lt hg
  go_enter Tryd.func68, Tryd.ntmps68
  go_wp2_with fail
  refine (zzSplit_any s 46 _ hs).mono ?_
  rintro e w1 ⟨v, L, rfl, hL, hown, hb⟩
  obtain ⟨A, cap, rfl, hcell⟩ := hown.read
  have hlen := pieces_len hL
  have HA := Lib.hid (all_bs M.validId hL)
  have HL := Lib.hid hL
  have HC := Lib.hid hcell
  have HB := Lib.hid hb
  have HG := Lib.hid hg
  clear hL hown hcell hb hg
  go_wp2
  go_loopw [10] (fun i wr => ∃ k : Nat, k ≤ L.length ∧ i = .int .i64 k ∧ Hid ((L.take k).all (fun b => M.validId (M.bs b)) = true) ∧ Hid (Below w1.heap.size w1 wr)) (fun i _ => L.length - (intOf i).toNat)
  case atStart => exact ⟨0, Nat.zero_le _, rfl, Lib.hid (by simp), Lib.hid (Below.refl _ _)⟩
  case round =>
    obtain ⟨k, hk, rfl, ha, HR⟩ := hrel
    have hbe := HB.out.trans (HR.out.mono HB.out.size)
    have HBE := Lib.hid hbe
    have hg : wr.cell? ⟨5, 0, none⟩ = some ev := by rw [hbe.cell (p := ⟨5, 0, none⟩) hgl]; exact HG.out
    clear hbe
    by_cases hlt : k < L.length
    · obtain ⟨b, o, rfl, hbl, hcell⟩ := HC.out k hlt
      have hcell2 : wr.cell? ⟨b, o + k, none⟩ = some (.string L[k]) := by rw [HR.out.cell (p := ⟨b, o + k, none⟩) hbl]; exact hcell
      clear hcell hbl
      have hsz := piece_size HL.out k hlt
      go_wp2_with ((go_at_call 90; (with_reducible refine (only_alpha_any _ _).mono ?_); rintro e w2 ⟨rfl, hb2⟩; have HB2 := Lib.hid hb2; have hg2 : w2.cell? ⟨5, 0, none⟩ = some ev := (by rw [hb2.cell (p := ⟨5, 0, none⟩) (Sent.cell_lt hg)]; exact hg); clear hb2))
      · have h1 : L[k].toList.isEmpty = true := by assumption
        rw [← empty_bs] at h1
        go_ret
        refine ⟨ret_val ?_, HBE.out⟩
        unfold metaVal M.validMeta
        rw [HA.out, listAll_false _ L k hlt (by unfold M.validId; rw [h1]; rfl)]
        rfl
      · have h1 : (!List.all (M.bs L[k]) M.isIdc) = true := by assumption
        rw [Bool.not_eq_true'] at h1
        go_ret
        refine ⟨ret_val ?_, HBE.out.trans (HB2.out.mono HBE.out.size)⟩
        unfold metaVal M.validMeta
        rw [HA.out, listAll_false _ L k hlt (by unfold M.validId; rw [h1, Bool.and_false])]
        rfl
      · have h1 : (!List.all (M.bs L[k]) M.isIdc) = false := by assumption
        have h2 : L[k].toList.isEmpty = false := by assumption
        rw [Bool.not_eq_false'] at h1
        rw [← empty_bs] at h2
        have HV := Lib.hid (show M.validId (M.bs L[k]) = true by unfold M.validId; rw [h1, h2]; rfl)
        clear h1 h2
        go_roundw
        case rel => exact ⟨k + 1, hlt, by go_num, Lib.hid (listAll_take _ L k hlt ha.out HV.out), Lib.hid (HR.out.trans (HB2.out.mono HR.out.size))⟩
        case measure => simp [intOf]; omega
    · have HK := Lib.hid (show k = L.length by omega)
      go_wp2
      go_ret
      refine ⟨ret_val ?_, HBE.out⟩
      have h1 := ha.out
      rw [HK.out, List.take_length] at h1
      unfold metaVal M.validMeta
      rw [HA.out, h1]
      rfl

namespace M
/-- what the check of a prerelease finds first: 0 nothing, 1 a piece that is none, 2 a leading zero -/
def preRes : List Bs → Nat
  | [] => 0
  | p :: r => if p.isEmpty then 1 else if p.all isDig then (if 1 < p.length ∧ p.head? = some 48 then 2 else preRes r) else if p.all isIdc then preRes r else 1
theorem preRes_cons (p : Bs) (r : List Bs) : preRes (p :: r) = if p.isEmpty then 1 else if p.all isDig then (if 1 < p.length ∧ p.head? = some 48 then 2 else preRes r) else if p.all isIdc then preRes r else 1 := rfl
theorem preRes_ok (p : Bs) (r : List Bs) (h : (validId p && !zeroNum p) = true) : preRes (p :: r) = preRes r := by
  unfold validId zeroNum digits at h
  rw [preRes_cons]
  simp only [Bool.and_eq_true, Bool.not_eq_true', Bool.and_eq_false_iff, beq_eq_false_iff_ne, decide_eq_false_iff_not] at h
  obtain ⟨⟨h1, h2⟩, h3⟩ := h
  rw [h1, if_neg (by simp)]
  by_cases hd : p.all isDig = true
  · rw [if_pos hd, if_neg]
    rintro ⟨a, b⟩
    rcases h3 with (h3 | h3) | h3
    · rcases h3 with h3 | h3
      · rw [h1] at h3; simp at h3
      · rw [hd] at h3; cases h3
    · exact h3 a
    · exact h3 b
  · rw [if_neg hd, if_pos h2]
theorem preRes_bad (p : Bs) (r : List Bs) (h : (validId p && !zeroNum p) = false) : preRes (p :: r) ≠ 0 := by
  unfold validId zeroNum digits at h
  rw [preRes_cons]
  split
  · simp
  · rename_i h1
    split
    · rename_i h2
      split
      · simp
      · rename_i h3
        have hi : p.all isIdc = true := by
          rw [List.all_eq_true] at h2 ⊢
          exact fun c hc => isDig_idc (h2 c hc)
        exfalso
        apply h3
        simp [h1, h2, hi] at h
        exact h
    · rename_i h2
      split
      · rename_i h3
        simp [h1, h2, h3] at h
      · simp
theorem preRes_zero : ∀ l : List Bs, (preRes l = 0) ↔ l.all (fun p => validId p && !zeroNum p) = true
  | [] => by simp [preRes]
  | p :: r => by
    cases h : (validId p && !zeroNum p) with
    | true => rw [preRes_ok p r h, preRes_zero r, List.all_cons, h, Bool.true_and]
    | false =>
      rw [List.all_cons, h, Bool.false_and]
      simp [preRes_bad p r h]
end M
/-- the error that the check of a prerelease hands back -/
def preVal (e1 e2 : Value) (n : Nat) : Value := if n = 0 then .nilIface else if n = 1 then e1 else e2


theorem preVal_nil (e1 e2 : Value) (n : Nat) (h : n = 0) : preVal e1 e2 n = .nilIface := by rw [h]; rfl

theorem head_eq (t : ByteArray) (h : 0 < t.size) : (M.bs t).head? = some t[0] := by rw [List.head?_eq_getElem?, M.bs_get t 0 h]

/-- the pieces from k on -/
theorem drop_map (L : List ByteArray) (k : Nat) (h : k < L.length) : (L.drop k).map M.bs = M.bs L[k] :: (L.drop (k + 1)).map M.bs := by
  rw [List.drop_eq_getElem_cons h]; rfl

set_option maxHeartbeats 1600000 in
set_option maxRecDepth 100000 in
theorem validatePrerelease_any (s : ByteArray) (e1 e2 : Value) (w : World) (hs : s.size ≤ 2147483647) (hg : w.cell? ⟨6, 0, none⟩ = some e1) (hh : w.cell? ⟨4, 0, none⟩ = some e2) :
    Calls Tryd.prog 89 #[.string s] w fun e w' => e = .returned (preVal e1 e2 (M.preRes (M.splitOn 46 (M.bs s)))) ∧ Below w.heap.size w w' := by
  have hgl := Sent.cell_lt hg
  have hhl := Sent.cell_lt hh
  go_enter Tryd.func89, Tryd.ntmps89
  go_wp2_with fail
  refine (zzSplit_any s 46 _ hs).mono ?_
  rintro e w1 ⟨v, L, rfl, hL, hown, hb⟩
  obtain ⟨A, cap, rfl, hcell⟩ := hown.read
  have hlen := pieces_len hL
  have HL := Lib.hid hL
  have HC := Lib.hid hcell
  have HB := Lib.hid hb
  have HG := Lib.hid hg
  have HH := Lib.hid hh
  clear hL hown hcell hb hg hh
  go_wp2
  go_loopw [10] (fun i wr => ∃ k : Nat, k ≤ L.length ∧ i = .int .i64 k ∧ Hid (M.preRes (L.map M.bs) = M.preRes ((L.drop k).map M.bs)) ∧ Hid (Below w1.heap.size w1 wr)) (fun i _ => L.length - (intOf i).toNat)
  case atStart => exact ⟨0, Nat.zero_le _, rfl, Lib.hid (by simp), Lib.hid (Below.refl _ _)⟩
  case round =>
    obtain ⟨k, hk, rfl, ha, HR⟩ := hrel
    have hbe := HB.out.trans (HR.out.mono HB.out.size)
    have HBE := Lib.hid hbe
    have hg : wr.cell? ⟨6, 0, none⟩ = some e1 := by rw [hbe.cell (p := ⟨6, 0, none⟩) hgl]; exact HG.out
    have hh : wr.cell? ⟨4, 0, none⟩ = some e2 := by rw [hbe.cell (p := ⟨4, 0, none⟩) hhl]; exact HH.out
    clear hbe
    by_cases hlt : k < L.length
    · obtain ⟨b, o, rfl, hbl, hcell⟩ := HC.out k hlt
      have hcell2 : wr.cell? ⟨b, o + k, none⟩ = some (.string L[k]) := by rw [HR.out.cell (p := ⟨b, o + k, none⟩) hbl]; exact hcell
      clear hcell hbl
      have hsz := piece_size HL.out k hlt
      have HD := Lib.hid (drop_map L k hlt)
      have HE := Lib.hid (empty_bs L[k])
      have HN := Lib.hid (M.bs_length L[k])
      go_wp2_with (first
        | (go_at_call_of 90 (Value.string { data := #[48, 49, 50, 51, 52, 53, 54, 55, 56, 57] }); (with_reducible refine (only_num_any _ _).mono ?_); rintro e w2 ⟨rfl, hb2⟩; have HB2 := Lib.hid hb2; have hg2 : w2.cell? ⟨6, 0, none⟩ = some e1 := (by rw [hb2.cell (p := ⟨6, 0, none⟩) (Sent.cell_lt hg)]; exact hg); have hh2 : w2.cell? ⟨4, 0, none⟩ = some e2 := (by rw [hb2.cell (p := ⟨4, 0, none⟩) (Sent.cell_lt hh)]; exact hh); clear hb2)
        | (go_at_call 90; (with_reducible refine (only_alpha_any _ _).mono ?_); rintro e w3 ⟨rfl, hb3⟩; have HB3 := Lib.hid hb3; have hg3 : w3.cell? ⟨6, 0, none⟩ = some e1 := (by rw [hb3.cell (p := ⟨6, 0, none⟩) (Sent.cell_lt hg2)]; exact hg2); clear hb3))
      · have h1 : L[k].toList.isEmpty = true := by assumption
        rw [← HE.out] at h1
        go_ret
        refine ⟨ret_val ?_, HBE.out⟩
        have hx := ha.out
        rw [HD.out, M.preRes_cons, if_pos h1] at hx
        rw [← HL.out, hx]
        rfl
      · have h1 : L[k].toList.isEmpty = false := by assumption
        rw [← HE.out] at h1
        have h2 : List.all (M.bs L[k]) M.isDig = true := by assumption
        have h3 : 1 < (L[k].size : Int) := by assumption
        have h4 : 0 < L[k].size := by assumption
        have h5 : ((L[k][0].toNat : Int) == 48) = true := by assumption
        have h6 := byte_eq 48 rfl h5
        go_ret
        refine ⟨ret_val ?_, HBE.out.trans (HB2.out.mono HBE.out.size)⟩
        have hx := ha.out
        rw [HD.out, M.preRes_cons, if_neg (by rw [h1]; simp), if_pos h2, if_pos ⟨by rw [HN.out]; omega, by rw [head_eq _ h4, h6]⟩] at hx
        rw [← HL.out, hx]
        rfl
      · have h1 : L[k].toList.isEmpty = false := by assumption
        rw [← HE.out] at h1
        have h2 : List.all (M.bs L[k]) M.isDig = true := by assumption
        have h4 : 0 < L[k].size := by assumption
        have h5 : ((L[k][0].toNat : Int) == 48) = false := by assumption
        have h6 := byte_ne 48 rfl h5
        have hx := ha.out
        rw [HD.out, M.preRes_cons, if_neg (by rw [h1]; simp), if_pos h2, if_neg (fun hz => h6 (by have := hz.2; rw [head_eq _ h4] at this; exact Option.some.inj this))] at hx
        have HX := Lib.hid hx
        clear hx
        go_roundw
        case rel => exact ⟨k + 1, hlt, by go_num, HX, Lib.hid (HR.out.trans (HB2.out.mono HR.out.size))⟩
        case measure => simp [intOf]; omega
      · have h1 : L[k].toList.isEmpty = false := by assumption
        rw [← HE.out] at h1
        have h2 : List.all (M.bs L[k]) M.isDig = true := by assumption
        have h3 : ¬ 1 < (L[k].size : Int) := by assumption
        have hx := ha.out
        rw [HD.out, M.preRes_cons, if_neg (by rw [h1]; simp), if_pos h2, if_neg (fun hz => h3 (by have := hz.1; rw [HN.out] at this; omega))] at hx
        have HX := Lib.hid hx
        clear hx
        go_roundw
        case rel => exact ⟨k + 1, hlt, by go_num, HX, Lib.hid (HR.out.trans (HB2.out.mono HR.out.size))⟩
        case measure => simp [intOf]; omega
      · have h1 : L[k].toList.isEmpty = false := by assumption
        rw [← HE.out] at h1
        have h2 : List.all (M.bs L[k]) M.isDig = false := by assumption
        have h3 : (!List.all (M.bs L[k]) M.isIdc) = true := by assumption
        rw [Bool.not_eq_true'] at h3
        go_ret
        refine ⟨ret_val ?_, (HBE.out.trans (HB2.out.mono HBE.out.size)).trans (HB3.out.mono (HBE.out.trans (HB2.out.mono HBE.out.size)).size)⟩
        have hx := ha.out
        rw [HD.out, M.preRes_cons, if_neg (by rw [h1]; simp), if_neg (by rw [h2]; simp), if_neg (by rw [h3]; simp)] at hx
        rw [← HL.out, hx]
        rfl
      · have h1 : L[k].toList.isEmpty = false := by assumption
        rw [← HE.out] at h1
        have h2 : List.all (M.bs L[k]) M.isDig = false := by assumption
        have h3 : (!List.all (M.bs L[k]) M.isIdc) = false := by assumption
        rw [Bool.not_eq_false'] at h3
        have hx := ha.out
        rw [HD.out, M.preRes_cons, if_neg (by rw [h1]; simp), if_neg (by rw [h2]; simp), if_pos h3] at hx
        have HX := Lib.hid hx
        clear hx
        go_roundw
        case rel => exact ⟨k + 1, hlt, by go_num, HX, Lib.hid ((HR.out.trans (HB2.out.mono HR.out.size)).trans (HB3.out.mono (HR.out.trans (HB2.out.mono HR.out.size)).size))⟩
        case measure => simp [intOf]; omega
    · have HK := Lib.hid (show k = L.length by omega)
      go_wp2
      go_ret
      refine ⟨ret_val ?_, HBE.out⟩
      have h1 := ha.out
      rw [HK.out, List.drop_length] at h1
      rw [← HL.out, h1]
      rfl
end Go.Proofs.YtopaileliohpdaaDoor
