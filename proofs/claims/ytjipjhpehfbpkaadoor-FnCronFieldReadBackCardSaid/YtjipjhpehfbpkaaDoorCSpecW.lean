/-
  spec.CronValue: what it reads as fine is a value of the field.
-/
import Derived.Test.YtjipjhpehfbpkaaDoorCSpecV
namespace Go.Proofs.YtjipjhpehfbpkaaDoor
open Go.RowKit
set_option maxRecDepth 100000
set_option linter.unusedVariables false

theorem named_65 {k v : Nat} (hn : M.named k v) {F : M.Bs} (hF : F.map M.low1 = (M.nameL k v).map M.low1) : ∀ c ∈ F, 65 ≤ c.toNat ∧ c.toNat < 128 := by
  intro c hc
  have h1 : M.low1 c ∈ (M.nameL k v).map M.low1 := by rw [← hF]; exact List.mem_map_of_mem hc
  obtain ⟨d, hd, he⟩ := List.mem_map.1 h1
  have h2 := (M.look_named hn).2.2.2 d hd
  have h3 : (M.low1 d).toNat = d.toNat + 32 := by
    unfold M.low1
    rw [if_pos h2, M.ofNat_toNat (by omega)]
  rw [he] at h3
  by_cases g : 65 ≤ c.toNat ∧ c.toNat ≤ 90
  · omega
  · have : M.low1 c = c := by unfold M.low1; rw [if_neg g]
    rw [this] at h3
    omega
/-- what is read as fine is a value of the field -/
def ValOk (k : Nat) (s : ByteArray) (n v : Nat) : Prop := v ≤ 2 ∧ (v = 1 → n < 1099511627776 → M.ion (M.bdOf k).nm (M.bs s) = some n)
theorem valOk_name {k v : Nat} {s : ByteArray} (hk : k ≤ 5) (hn : M.named k v) (h : (M.bs ⟨(M.nameL k v).toArray⟩).map M.low1 = (M.bs s).map M.low1) : ValOk k s v 1 := by
  have h : (M.bs s).map M.low1 = (M.nameL k v).map M.low1 := by rw [← h]; simp [M.bs]
  exact ⟨by omega, fun _ _ => (M.ion_named hn h (named_65 hn h) k hk).trans (if_pos rfl)⟩
theorem valOk_num (k : Nat) (s : ByteArray) : ValOk k s (M.snum (M.bs s)).1 (M.snum (M.bs s)).2 := by
  refine ⟨?_, fun h1 h2 => ?_⟩
  · unfold M.snum
    dsimp only
    repeat' split
    all_goals first | exact Nat.le_refl _ | exact Nat.zero_le _ | (show (_ : Nat) ≤ 2; omega) | decide
  · obtain ⟨hd, ho⟩ := M.snum_fine h1
    have e : (M.snum (M.bs s)).1 = min (M.val (M.bs s)) M.huge := by
      unfold M.snum
      rw [ho]
      simp only [Bool.false_eq_true, if_false]
      rw [hd]
      rfl
    have e2 : (M.snum (M.bs s)).1 = M.val (M.bs s) := by
      rw [e] at h2 ⊢
      unfold M.huge at *
      omega
    rw [M.ion_dig (M.bd_noDig k) hd, M.num_digits hd (by omega), e2]
theorem name_size {k v : Nat} (hn : M.named k v) : (⟨(M.nameL k v).toArray⟩ : ByteArray).size ≤ 2147483647 := by
  have h := (M.look_named hn).2.2.1
  show (M.nameL k v).toArray.size ≤ _
  rw [List.size_toArray, h]
  decide
set_option maxHeartbeats 4000000 in
theorem specValue_any (k : Nat) (s : ByteArray) (w : World) (hk : k ≤ 5) (hs : s.size ≤ 2147483647) :
    Calls Tryd.prog 41 #[.int .i64 (k : Int), .string s] w fun e w' => (∃ n v : Nat, e = .returned (.tuple #[.int .i64 (n : Int), .int .i64 (v : Int)]) ∧ ValOk k s n v) ∧ Below w.heap.size w w' := by
  have HS := Lib.hid hs
  have HS2 := Lib.hid (show s.size ≤ 140737488351232 by omega)
  have HK := Lib.hid hk
  obtain ⟨n0, hn0⟩ : ∃ n, (M.snum (M.bs s)).1 = n := ⟨_, rfl⟩
  obtain ⟨v0, hv0⟩ : ∃ n, (M.snum (M.bs s)).2 = n := ⟨_, rfl⟩
  have HNUM : Hid (∀ w : World, Calls Tryd.prog 42 #[.string s] w fun e w' => e = .returned (.tuple #[.int .i64 (n0 : Int), .int .i64 (v0 : Int)]) ∧ w = w') := Lib.hid (fun w =>
    (specNumber_any s w HS2.out).mono fun e w' ⟨he, hw⟩ => ⟨by rw [he, hn0, hv0], hw.symm⟩)
  have HOK : Hid (ValOk k s n0 v0) := Lib.hid (by have := valOk_num k s; rw [hn0, hv0] at this; exact this)
  obtain ⟨mn, hmn⟩ : ∃ n, (M.bdOf k).mn = n := ⟨_, rfl⟩
  obtain ⟨mx, hmx⟩ : ∃ n, (M.bdOf k).mx = n := ⟨_, rfl⟩
  have HLO : Hid (∀ w : World, Calls Tryd.prog 21 #[.int .i64 (k : Int)] w fun e w' => e = .returned (.int .i64 (mn : Int)) ∧ w = w') := Lib.hid (fun w => by have := low_any k hk w; rw [hmn] at this; exact this)
  have HHI : Hid (∀ w : World, Calls Tryd.prog 22 #[.int .i64 (k : Int)] w fun e w' => e = .returned (.int .i64 (mx : Int)) ∧ w = w') := Lib.hid (fun w => by have := high_any k hk w; rw [hmx] at this; exact this)
  have HMN := Lib.hid hmn
  have HMX := Lib.hid hmx
  have hx62 : mx ≤ 62 := by rw [← hmx]; exact (bd_le k).1
  by_cases hn : k = 4 ∨ k = 5
  · have h4 := Lib.hid (show 4 ≤ k by omega)
    have hc : (((k : Int) == 4) = true) ∨ (((k : Int) == 4) = false ∧ ((k : Int) == 5) = true) := by
      rcases hn with rfl | rfl
      · exact .inl rfl
      · exact .inr ⟨rfl, rfl⟩
    clear hk hs hn0 hv0 hmn hmx hn
    have HMM : Hid (mn ≤ mx + 1) := Lib.hid (by
      rw [← HMN.out, ← HMX.out]
      have a := h4.out
      have b := HK.out
      obtain rfl | rfl : k = 4 ∨ k = 5 := by omega
      · decide
      · decide)
    rcases hc with x1 | ⟨x1, x2⟩
    all_goals
      go_enter Tryd.func41, Tryd.ntmps41
      go_wp2_with (go_at_call 21; (with_reducible refine (HLO.out _).mono ?_); rintro e w1 ⟨rfl, rfl⟩)
      go_loopw [7] (fun i wr => ∃ v : Nat, mn ≤ v ∧ v ≤ mx + 1 ∧ i = .int .i64 (v : Int) ∧ Hid (Below w.heap.size w wr)) (fun i _ => 64 - (intOf i).toNat)
      case atStart => exact ⟨mn, Nat.le_refl _, HMM.out, rfl, Lib.hid (Below.refl _ _)⟩
      case round =>
        obtain ⟨v, hv1, hv2, rfl, HW⟩ := hrel
        by_cases hlt : v ≤ mx
        · have hlti : (v : Int) ≤ (mx : Int) := by omega
          have HNV : Hid (M.named k v) := Lib.hid (named_of h4.out HK.out (by rw [HMN.out]; exact hv1) (by rw [HMX.out]; exact hlt))
          obtain ⟨nm, hnm⟩ : ∃ b : ByteArray, (⟨(M.nameL k v).toArray⟩ : ByteArray) = b := ⟨_, rfl⟩
          have HNM : Hid (∀ w : World, Calls Tryd.prog 52 #[.int .i64 (k : Int), .int .i64 (v : Int)] w fun e w' => e = .returned (.string nm) ∧ w = w') := Lib.hid (fun w => by have := cronName_named HNV.out w; rw [hnm] at this; exact this)
          have HNS : Hid (nm.size ≤ 2147483647) := Lib.hid (by rw [← hnm]; exact name_size HNV.out)
          have HOV : Hid ((M.bs nm).map M.low1 = (M.bs s).map M.low1 → ValOk k s v 1) := Lib.hid (by rw [← hnm]; exact valOk_name HK.out HNV.out)
          clear hnm
          go_wp2_with (first
            | (go_at_call 22; (with_reducible refine (HHI.out _).mono ?_); rintro e w1 ⟨rfl, rfl⟩)
            | (go_at_call 52; (with_reducible refine (HNM.out _).mono ?_); rintro e w1 ⟨rfl, rfl⟩)
            | (go_at_call 51; (with_reducible refine (cronSame_any nm s _ HNS.out HS.out).mono ?_); rintro e w2 ⟨⟨r, rfl, hr⟩, hb⟩; have HB2 := Lib.hid (Below.up HW.out hb); have HR := Lib.hid hr; clear hr hb; cases r))
          · exact ⟨⟨v + 1, by omega, by omega, by go_num, HB2⟩, by simp [intOf]; omega⟩
          · go_ret2
            exact ⟨⟨v, 1, rfl, HOV.out (HR.out (by first | rfl | trivial))⟩, HB2.out⟩
        · have hlti : ¬ (v : Int) ≤ (mx : Int) := by omega
          go_wp2_with (first
            | (go_at_call 22; (with_reducible refine (HHI.out _).mono ?_); rintro e w1 ⟨rfl, rfl⟩)
            | (go_at_call 53; (with_reducible refine (cronForeign_any s _ HS.out).mono ?_); rintro e w2 ⟨⟨r, rfl⟩, rfl⟩; cases r)
            | (go_at_call 42; (with_reducible refine (HNUM.out _).mono ?_); rintro e w3 ⟨rfl, rfl⟩))
          · go_ret2
            exact ⟨⟨n0, v0, rfl, HOK.out⟩, HW.out⟩
          · go_ret2
            exact ⟨⟨0, 2, rfl, ⟨by omega, fun h => by cases h⟩⟩, HW.out⟩
  · have x1 : ((k : Int) == 4) = false := by rw [beq_eq_false_iff_ne]; omega
    have x2 : ((k : Int) == 5) = false := by rw [beq_eq_false_iff_ne]; omega
    clear hk hs hn0 hv0 hmn hmx hn
    go_enter Tryd.func41, Tryd.ntmps41
    go_wp2_with (go_at_call 42; (with_reducible refine (HNUM.out _).mono ?_); rintro e w3 ⟨rfl, rfl⟩)
    go_ret2
    exact ⟨⟨n0, v0, rfl, HOK.out⟩, Below.refl _ _⟩
end Go.Proofs.YtjipjhpehfbpkaaDoor
