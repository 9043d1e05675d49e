/-
  laws.FnCronNames returns true for all kinds, values and flips.
-/
import Derived.Test.YtkjnajkbkaikaaaDoorCNamed
import Derived.Test.YtkjnajkbkaikaaaDoorFlips
namespace Go.Proofs.YtkjnajkbkaikaaaDoor
open Go.RowKit
set_option maxRecDepth 100000
set_option linter.unusedVariables false

theorem named_in {k v : Nat} (hn : M.named k v) : k ≤ 5 ∧ (M.bdOf k).mn ≤ v ∧ v ≤ (M.bdOf k).mx ∧ v ≤ 62 := by
  rcases hn with ⟨rfl, h1, h2⟩ | ⟨rfl, h2⟩
  · exact ⟨by omega, h1, h2, by omega⟩
  · exact ⟨by omega, Nat.zero_le _, h2, by omega⟩
theorem named_of {k v : Nat} (h4 : 4 ≤ k) (hk : k ≤ 5) (h1 : (M.bdOf k).mn ≤ v) (h2 : v ≤ (M.bdOf k).mx) : M.named k v := by
  obtain rfl | rfl : k = 4 ∨ k = 5 := by omega
  · exact .inl ⟨rfl, h1, h2⟩
  · exact .inr ⟨rfl, h2⟩
theorem named_abc {k v : Nat} (hn : M.named k v) : ∃ a b c : UInt8, M.nameL k v = [a, b, c] ∧ (65 ≤ a.toNat ∧ a.toNat ≤ 90) ∧ (65 ≤ b.toNat ∧ b.toNat ≤ 90) ∧ (65 ≤ c.toNat ∧ c.toNat ≤ 90) := by
  obtain ⟨_, _, h3, h4⟩ := M.look_named hn
  match h : M.nameL k v, h3 with
  | [a, b, c], _ =>
    rw [h] at h4
    exact ⟨a, b, c, rfl, h4 a (by simp), h4 b (by simp), h4 c (by simp)⟩
theorem lett_name {k v : Nat} {a b c x y z : UInt8} (hn : M.named k v) (hL : M.nameL k v = [a, b, c]) (h1 : Lett a x) (h2 : Lett b y) (h3 : Lett c z) (j : Nat) (hj : j ≤ 5) :
    M.ion (M.bdOf j).nm (M.bs ⟨#[x, y, z]⟩) = if j = k then some v else none := by
  refine M.ion_named hn ?_ ?_ j hj
  · rw [hL]
    show [M.low1 x, M.low1 y, M.low1 z] = [M.low1 a, M.low1 b, M.low1 c]
    rw [h1.1, h2.1, h3.1]
  · intro d hd
    have hd : d ∈ [x, y, z] := hd
    simp only [List.mem_cons, List.not_mem_nil, or_false] at hd
    rcases hd with rfl | rfl | rfl
    · exact h1.2
    · exact h2.2
    · exact h3.2
set_option maxHeartbeats 8000000 in
theorem names_main (k v : Nat) (x : Value) (L : List Bool) (w : World) (hE : NumErrs w) (hn : M.named k v) (hr : ReadB w x L) (hl : L.length ≤ 2147483647) :
    Calls Tryd.prog 8 #[.int .i64 (k : Int), .int .i64 (v : Int), x] w fun e w' => e = .returned (.bool true) ∧ Below w.heap.size w w' := by
  obtain ⟨hk5, hmn, hmx, hv62⟩ := named_in hn
  obtain ⟨a, b, c, hL, ha, hb, hc⟩ := named_abc hn
  have HNM : Hid (∀ w : World, Calls Tryd.prog 29 #[.int .i64 (k : Int), .int .i64 (v : Int)] w fun e w' => e = .returned (.string ⟨#[a, b, c]⟩) ∧ w = w') := Lib.hid (fun w => by have := cronName_named hn w; rw [hL] at this; exact this)
  have HLET : Hid (∀ x y z : UInt8, Lett a x → Lett b y → Lett c z → ∀ j : Nat, j ≤ 5 → M.ion (M.bdOf j).nm (M.bs ⟨#[x, y, z]⟩) = if j = k then some v else none) := Lib.hid (fun x y z h1 h2 h3 j hj => lett_name hn hL h1 h2 h3 j hj)
  have HN := Lib.hid hE
  have HR := Lib.hid hr
  obtain ⟨A, cap, rfl, _⟩ := hr
  have HF : Hid (Calls Tryd.prog 30 #[.string ⟨#[a, b, c]⟩, .slice A L.length cap] w fun e w' => (∃ x y z, e = .returned (.string ⟨#[x, y, z]⟩) ∧ Lett a x ∧ Lett b y ∧ Lett c z) ∧ Below w.heap.size w w') := Lib.hid (flip_any a b c _ L w HR.out hl ha hb hc)
  have HDEC := Lib.hid (show M.ion (M.bdOf k).nm (M.bs (dec v)) = some v by rw [dec_bs, M.ion_dig (M.bd_noDig k) (M.dec_digits v), M.dec_num (by omega)])
  have HDS := Lib.hid (show (dec v).size ≤ 2147483647 by have := dec_small hv62; omega)
  obtain ⟨mn, hmn'⟩ : ∃ n, (M.bdOf k).mn = n := ⟨_, rfl⟩
  obtain ⟨mx, hmx'⟩ : ∃ n, (M.bdOf k).mx = n := ⟨_, rfl⟩
  have HLO : Hid (∀ w : World, Calls Tryd.prog 14 #[.int .i64 (k : Int)] w fun e w' => e = .returned (.int .i64 (mn : Int)) ∧ w = w') := Lib.hid (fun w => by have := low_any k hk5 w; rw [hmn'] at this; exact this)
  have HHI : Hid (∀ w : World, Calls Tryd.prog 15 #[.int .i64 (k : Int)] w fun e w' => e = .returned (.int .i64 (mx : Int)) ∧ w = w') := Lib.hid (fun w => by have := high_any k hk5 w; rw [hmx'] at this; exact this)
  rw [hmn'] at hmn
  rw [hmx'] at hmx
  have HS3 : Hid (∀ x y z : UInt8, (⟨#[x, y, z]⟩ : ByteArray).size ≤ 2147483647) := Lib.hid (fun x y z => (show 3 ≤ 2147483647 by decide))
  have HK := Lib.hid hk5
  have HV := Lib.hid hv62
  have q1 : ¬ (v : Int) < (mn : Int) := by omega
  have q2 : ¬ (mx : Int) < (v : Int) := by omega
  have q3 : ¬ (2147483647 : Int) < (L.length : Int) := by omega
  have q4 : (0 : Int) ≤ (v : Int) := by omega
  have q5 : (v : Int) ≤ 62 := by omega
  have q6 : (0 : Int) ≤ (k : Int) := by omega
  have q7 : (k : Int) ≤ 5 := by omega
  have e1 : (⟨#[a, b, c]⟩ : ByteArray).toList.isEmpty = false := by rw [toList_bs]; rfl
  clear hE hn hl ha hb hc hk5 hmn' hmx' hmn hmx hv62 hL
  go_enter Tryd.func8, Tryd.ntmps8
  go_wp2_with (first
    | (go_at_call 11; (with_reducible refine (isKind_in k HK.out _).mono ?_); rintro e w1 ⟨rfl, rfl⟩)
    | (go_at_call 14; (with_reducible refine (HLO.out _).mono ?_); rintro e w1 ⟨rfl, rfl⟩)
    | (go_at_call 15; (with_reducible refine (HHI.out _).mono ?_); rintro e w1 ⟨rfl, rfl⟩)
    | (go_at_call 29; (with_reducible refine (HNM.out _).mono ?_); rintro e w1 ⟨rfl, rfl⟩)
    | (go_at_call 30; (with_reducible refine HF.out.mono ?_); rintro e w2 ⟨⟨x, y, z, rfl, h1, h2, h3⟩, hb⟩; have HI := Lib.hid (HLET.out x y z h1 h2 h3); have HB2 := Lib.hid hb; clear h1 h2 h3 hb)
    | (go_at_call 31; (with_reducible refine (cronValue_some k ⟨#[x, y, z]⟩ v _ HK.out (HS3.out x y z) (HN.out.below HB2.out) (Lib.hid ((HI.out k HK.out).trans (if_pos rfl)))).mono ?_); rintro e w3 ⟨rfl, hb⟩; have HB3 := Lib.hid (Below.up HB2.out hb); clear hb)
    | (go_at_call 12; (with_reducible refine (itoa_small v _ HV.out).mono ?_); rintro e w7 ⟨rfl, rfl⟩)
    | (go_at_call 31; (with_reducible refine (cronValue_some k (dec v) v _ HK.out HDS.out (HN.out.below HB3.out) HDEC).mono ?_); rintro e w4 ⟨rfl, hb⟩; have HB4 := Lib.hid (Below.up HB3.out hb); clear hb))
  clear HF HLET HNM HLO HHI HDEC HDS HV HB2 HB3 HR e1 q1 q2 q3 q4 q5
  go_loopw [74] (fun i wr => ∃ j : Nat, j ≤ 6 ∧ i = .int .i64 (j : Int) ∧ Hid (Below w.heap.size w wr)) (fun i _ => 6 - (intOf i).toNat)
  case atStart => exact ⟨0, by omega, rfl, HB4⟩
  case round =>
    obtain ⟨j, hj, rfl, HW⟩ := hrel
    clear HB4
    by_cases hlt : j < 6
    · have t1 : (j : Int) < 6 := by omega
      have hj5 : j ≤ 5 := by omega
      by_cases e : j = k
      · have HJ := Lib.hid e
        have t2 : ((j : Int) == (k : Int)) = true := by rw [beq_iff_eq]; omega
        have HII := Lib.hid ((HI.out j hj5).trans (if_pos e))
        clear e
        go_wp2_with (go_at_call 31; (with_reducible refine (cronValue_some j ⟨#[x, y, z]⟩ v _ hj5 (HS3.out x y z) (HN.out.below HW.out) HII).mono ?_); rintro e w5 ⟨rfl, hb⟩; have HB5 := Lib.hid (Below.up HW.out hb); clear hb)
        go_roundw
        case rel => exact ⟨j + 1, hlt, by go_num, HB5⟩
        case measure => simp [intOf]; omega
      · have HJ := Lib.hid e
        have t2 : ((j : Int) == (k : Int)) = false := by rw [beq_eq_false_iff_ne]; omega
        have HII := Lib.hid ((HI.out j hj5).trans (if_neg e))
        clear e
        go_wp2_with (go_at_call 31; (with_reducible refine (cronValue_none j ⟨#[x, y, z]⟩ _ hj5 (HS3.out x y z) (HN.out.below HW.out) HII).mono ?_); rintro e w5 ⟨rfl, hb⟩; have HB5 := Lib.hid (Below.up HW.out hb); clear hb)
        go_roundw
        case rel => exact ⟨j + 1, hlt, by go_num, HB5⟩
        case measure => simp [intOf]; omega
    · have t1 : ¬ (j : Int) < 6 := by omega
      go_wp2
      go_ret
      exact ⟨rfl, HW.out⟩
theorem names_long (k v : Int) (A : Option Addr) (n cap : Nat) (w : World) (h : 2147483647 < n) :
    Calls Tryd.prog 8 #[.int .i64 k, .int .i64 v, .slice A n cap] w fun e w' => e = .returned (.bool true) ∧ w = w' := by
  have q : (2147483647 : Int) < (n : Int) := by omega
  clear h
  go_enter Tryd.func8, Tryd.ntmps8
  go_wp2
  go_ret
  exact ⟨rfl, rfl⟩
theorem names_kind (k v : Int) (A : Option Addr) (n cap : Nat) (w : World) (h : ¬ 2147483647 < n) (hk : k < 0 ∨ 6 ≤ k) :
    Calls Tryd.prog 8 #[.int .i64 k, .int .i64 v, .slice A n cap] w fun e w' => e = .returned (.bool true) ∧ w = w' := by
  have q : ¬ (2147483647 : Int) < (n : Int) := by omega
  have HK := Lib.hid hk
  clear h hk
  go_enter Tryd.func8, Tryd.ntmps8
  go_wp2_with (go_at_call 11; (with_reducible refine (isKind_out k HK.out _).mono ?_); rintro e w1 ⟨rfl, rfl⟩)
  go_ret
  exact ⟨rfl, rfl⟩
theorem names_range (k : Nat) (v : Int) (A : Option Addr) (n cap : Nat) (w : World) (h : ¬ 2147483647 < n) (hk : k ≤ 5) (hv : v < ((M.bdOf k).mn : Int) ∨ ((M.bdOf k).mx : Int) < v) :
    Calls Tryd.prog 8 #[.int .i64 (k : Int), .int .i64 v, .slice A n cap] w fun e w' => e = .returned (.bool true) ∧ w = w' := by
  have q : ¬ (2147483647 : Int) < (n : Int) := by omega
  have HK := Lib.hid hk
  obtain ⟨mn, hmn⟩ : ∃ n, (M.bdOf k).mn = n := ⟨_, rfl⟩
  obtain ⟨mx, hmx⟩ : ∃ n, (M.bdOf k).mx = n := ⟨_, rfl⟩
  have HLO : Hid (∀ w : World, Calls Tryd.prog 14 #[.int .i64 (k : Int)] w fun e w' => e = .returned (.int .i64 (mn : Int)) ∧ w = w') := Lib.hid (fun w => by have := low_any k hk w; rw [hmn] at this; exact this)
  have HHI : Hid (∀ w : World, Calls Tryd.prog 15 #[.int .i64 (k : Int)] w fun e w' => e = .returned (.int .i64 (mx : Int)) ∧ w = w') := Lib.hid (fun w => by have := high_any k hk w; rw [hmx] at this; exact this)
  rw [hmn, hmx] at hv
  clear h hk hmn hmx
  by_cases q1 : v < (mn : Int)
  · clear hv
    go_enter Tryd.func8, Tryd.ntmps8
    go_wp2_with (first
      | (go_at_call 11; (with_reducible refine (isKind_in k HK.out _).mono ?_); rintro e w1 ⟨rfl, rfl⟩)
      | (go_at_call 14; (with_reducible refine (HLO.out _).mono ?_); rintro e w1 ⟨rfl, rfl⟩)
      | (go_at_call 15; (with_reducible refine (HHI.out _).mono ?_); rintro e w1 ⟨rfl, rfl⟩))
    go_ret
    exact ⟨rfl, rfl⟩
  · have q2 : (mx : Int) < v := by omega
    clear hv
    go_enter Tryd.func8, Tryd.ntmps8
    go_wp2_with (first
      | (go_at_call 11; (with_reducible refine (isKind_in k HK.out _).mono ?_); rintro e w1 ⟨rfl, rfl⟩)
      | (go_at_call 14; (with_reducible refine (HLO.out _).mono ?_); rintro e w1 ⟨rfl, rfl⟩)
      | (go_at_call 15; (with_reducible refine (HHI.out _).mono ?_); rintro e w1 ⟨rfl, rfl⟩))
    go_ret
    exact ⟨rfl, rfl⟩
theorem names_none (k : Nat) (v : Int) (A : Option Addr) (n cap : Nat) (w : World) (h : ¬ 2147483647 < n) (hk : k ≤ 3) (h1 : ((M.bdOf k).mn : Int) ≤ v) (h2 : v ≤ ((M.bdOf k).mx : Int)) :
    Calls Tryd.prog 8 #[.int .i64 (k : Int), .int .i64 v, .slice A n cap] w fun e w' => e = .returned (.bool true) ∧ w = w' := by
  have q : ¬ (2147483647 : Int) < (n : Int) := by omega
  have HK := Lib.hid hk
  have HK5 := Lib.hid (show k ≤ 5 by omega)
  obtain ⟨mn, hmn⟩ : ∃ n, (M.bdOf k).mn = n := ⟨_, rfl⟩
  obtain ⟨mx, hmx⟩ : ∃ n, (M.bdOf k).mx = n := ⟨_, rfl⟩
  have HLO : Hid (∀ w : World, Calls Tryd.prog 14 #[.int .i64 (k : Int)] w fun e w' => e = .returned (.int .i64 (mn : Int)) ∧ w = w') := Lib.hid (fun w => by have := low_any k HK5.out w; rw [hmn] at this; exact this)
  have HHI : Hid (∀ w : World, Calls Tryd.prog 15 #[.int .i64 (k : Int)] w fun e w' => e = .returned (.int .i64 (mx : Int)) ∧ w = w') := Lib.hid (fun w => by have := high_any k HK5.out w; rw [hmx] at this; exact this)
  rw [hmn] at h1
  rw [hmx] at h2
  have q1 : ¬ v < (mn : Int) := by omega
  have q2 : ¬ (mx : Int) < v := by omega
  clear h hk hmn hmx h1 h2
  go_enter Tryd.func8, Tryd.ntmps8
  go_wp2_with (first
    | (go_at_call 11; (with_reducible refine (isKind_in k HK5.out _).mono ?_); rintro e w1 ⟨rfl, rfl⟩)
    | (go_at_call 14; (with_reducible refine (HLO.out _).mono ?_); rintro e w1 ⟨rfl, rfl⟩)
    | (go_at_call 15; (with_reducible refine (HHI.out _).mono ?_); rintro e w1 ⟨rfl, rfl⟩)
    | (go_at_call 29; (with_reducible refine (cronName_no k v HK.out _).mono ?_); rintro e w1 ⟨rfl, rfl⟩))
  go_ret
  exact ⟨rfl, rfl⟩
theorem names_walk (k v : Int) (x : Value) (L : List Bool) (w : World) (hE : NumErrs w) (w0 : (Lit.int .i64 k).wf = true) (w1 : (Lit.int .i64 v).wf = true) (hr : ReadB w x L) :
    Calls Tryd.prog 8 #[.int .i64 k, .int .i64 v, x] w fun e w' => e = .returned (.bool true) ∧ Below w.heap.size w w' := by
  obtain ⟨A, cap, rfl, hc⟩ := hr
  have toB : ∀ {k v : Int}, (Calls Tryd.prog 8 #[.int .i64 k, .int .i64 v, .slice A L.length cap] w fun e w' => e = .returned (.bool true) ∧ w = w') → Calls Tryd.prog 8 #[.int .i64 k, .int .i64 v, .slice A L.length cap] w fun e w' => e = .returned (.bool true) ∧ Below w.heap.size w w' := fun h => h.mono (by rintro e w' ⟨rfl, rfl⟩; exact ⟨rfl, Below.refl _ _⟩)
  by_cases hl : 2147483647 < L.length
  · exact toB (names_long k v A L.length cap w hl)
  by_cases hk : k < 0 ∨ 6 ≤ k
  · exact toB (names_kind k v A L.length cap w hl hk)
  obtain ⟨k, rfl⟩ := Int.eq_ofNat_of_zero_le (show 0 ≤ k by omega)
  by_cases hv : v < ((M.bdOf k).mn : Int) ∨ ((M.bdOf k).mx : Int) < v
  · exact toB (names_range k v A L.length cap w hl (by omega) hv)
  by_cases h3 : k ≤ 3
  · exact toB (names_none k v A L.length cap w hl h3 (by omega) (by omega))
  obtain ⟨v, rfl⟩ := Int.eq_ofNat_of_zero_le (show 0 ≤ v by omega)
  exact names_main k v _ L w hE (named_of (by omega) (by omega) (by omega) (by omega)) ⟨A, cap, rfl, hc⟩ (by omega)
end Go.Proofs.YtkjnajkbkaikaaaDoor
