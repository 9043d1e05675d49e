/-
  The law of widened patterns: walked.
-/
import Derived.Test.YtmjipdcohkiblaaDoorMatL
import Derived.IntWalk
namespace Go.Proofs.YtmjipdcohkiblaaDoor
open Go.RowKit
set_option maxRecDepth 100000
set_option linter.unusedVariables false

theorem bs_app (a b : ByteArray) : M.bs (a ++ b) = M.bs a ++ M.bs b := by simp [M.bs]
/-- the four signs -/
def sgn (x : ByteArray) : Nat → ByteArray
  | 0 => ⟨#[63]⟩
  | 1 => ⟨#[42]⟩
  | 2 => ⟨#[91, 92]⟩ ++ x ++ ⟨#[93]⟩
  | _ => ⟨#[92]⟩ ++ x
theorem sgn_st {a b : M.Bs} {c : UInt8} {x : ByteArray} (hx : M.bs x = [c]) (hc : c ≠ 47) (hlow : ∀ y ∈ a ++ c :: b, y.toNat < 128) (j : Nat) (hj : j < 4) {qa qb : ByteArray} (ha : M.bs qa = M.enc (M.lits a)) (hb : M.bs qb = M.enc (M.lits b)) :
    MatSt (M.bs (qa ++ sgn x j ++ qb)) (a ++ c :: b) := by
  have la : ∀ y ∈ a, y.toNat < 128 := fun y hy => hlow y (List.mem_append_left _ hy)
  have lb : ∀ y ∈ b, y.toNat < 128 := fun y hy => hlow y (List.mem_append_right _ (List.mem_cons_of_mem _ hy))
  have lc : c.toNat < 128 := hlow c (List.mem_append_right _ List.mem_cons_self)
  rw [bs_app, bs_app, ha, hb, List.append_assoc]
  obtain rfl | rfl | rfl | rfl : j = 0 ∨ j = 1 ∨ j = 2 ∨ j = 3 := by omega
  · exact st_mark .any ⟨trivial, trivial⟩ (by show (c != 47) = true; simpa using hc) la lb
  · exact st_star hc la lb
  · have e : M.bs (sgn x 2) = (M.Mk.cls c).enc := by
      show M.bs (⟨#[91, 92]⟩ ++ x ++ ⟨#[93]⟩) = _
      rw [bs_app, bs_app, hx]
      rfl
    rw [e]
    exact st_mark (.cls c) ⟨trivial, lc⟩ (by show (c == c) = true; simp) la lb
  · have e : M.bs (sgn x 3) = (M.Mk.lit c true).enc := by
      show M.bs (⟨#[92]⟩ ++ x) = _
      rw [bs_app, hx]
      rfl
    rw [e]
    exact st_mark (.lit c true) ⟨trivial, lc⟩ (by show (c == c) = true; simp) la lb
theorem sgn_size {x : ByteArray} {c : UInt8} (hx : M.bs x = [c]) (j : Nat) : (sgn x j).size ≤ 10 := by
  have h : x.size = 1 := by rw [← M.bs_length, hx]; rfl
  unfold sgn
  split
  · show 1 ≤ 10; omega
  · show 1 ≤ 10; omega
  · rw [ByteArray.size_append, ByteArray.size_append, h]; show 2 + 1 + 1 ≤ 10; omega
  · rw [ByteArray.size_append, h]; show 1 + 1 ≤ 10; omega
def WidLoop (w : World) (g : Nat) (x : ByteArray) (i : Value) (wr : World) : Prop :=
  ∃ j : Nat, j ≤ 4 ∧ i = .int .i64 (j : Int) ∧ Hid (∀ k, k < 4 → wr.cell? ⟨g, k, none⟩ = some (.string (sgn x k))) ∧ Hid (g < wr.heap.size) ∧ Hid (Below w.heap.size w wr)
set_option maxHeartbeats 40000000 in
theorem widen_main (N : ByteArray) (k : Nat) (w : World) (hs : N.size ≤ 200) (hk : k < N.size) (hl : lowB N = true) (h47 : N[k] ≠ 47) :
    Calls Tryd.prog 3 #[.string N, .int .i64 (k : Int)] w fun e w' => e = .returned (.bool true) ∧ Below w.heap.size w w' := by
  have HASK : Hid (∀ w : World, Calls Tryd.prog 4 #[.string N, .slice none 0 0] w fun e w' => e = .returned (.bool true) ∧ w = w') := Lib.hid (fun w => asked_any N w (by omega) true (Lib.hid (by unfold askedB; rw [hl, decide_eq_true ⟨hs, by omega⟩]; rfl)))
  have hsplit : M.bs N = (M.bs N).take k ++ N[k] :: (M.bs N).drop (k + 1) := by
    have h1 : k < (M.bs N).length := by rw [M.bs_length]; exact hk
    exact (List.take_append_drop k (M.bs N)).symm.trans (by rw [List.drop_eq_getElem_cons h1]; rfl)
  obtain ⟨NX, hNX⟩ : ∃ y, N.extract k (k + 1) = y := ⟨_, rfl⟩
  obtain ⟨NA, hNA⟩ : ∃ y, N.extract 0 k = y := ⟨_, rfl⟩
  obtain ⟨NB, hNB⟩ : ∃ y, N.extract (k + 1) N.size = y := ⟨_, rfl⟩
  have hbX : M.bs NX = [N[k]] := by
    rw [← hNX, bs_ext, hsplit, List.drop_append_of_le_length (by rw [List.length_take, M.bs_length]; omega)]
    rw [List.drop_of_length_le (by rw [List.length_take, M.bs_length]; omega)]
    simp
  have hbA : M.bs NA = (M.bs N).take k := by rw [← hNA, bs_ext]; simp
  have hbB : M.bs NB = (M.bs N).drop (k + 1) := by rw [← hNB, bs_ext]; exact List.take_of_length_le (by rw [List.length_drop, M.bs_length]; omega)
  have hsz : NA.size ≤ 200 ∧ NB.size ≤ 200 ∧ NX.size = 1 := by
    have h1 := congrArg List.length hbA
    have h2 := congrArg List.length hbB
    have h3 := congrArg List.length hbX
    rw [M.bs_length, List.length_take, M.bs_length] at h1
    rw [M.bs_length, List.length_drop, M.bs_length] at h2
    rw [M.bs_length] at h3
    exact ⟨by omega, by omega, h3⟩
  have HQA : Hid (∀ w : World, Calls Tryd.prog 6 #[.string NA] w fun e w' => (∃ q : ByteArray, e = .returned (.string q) ∧ M.bs q = M.enc (M.lits (M.bs NA))) ∧ Below w.heap.size w w') := Lib.hid (fun w => quoted_any NA w (by omega))
  have HQB : Hid (∀ w : World, Calls Tryd.prog 6 #[.string NB] w fun e w' => (∃ q : ByteArray, e = .returned (.string q) ∧ M.bs q = M.enc (M.lits (M.bs NB))) ∧ Below w.heap.size w w') := Lib.hid (fun w => quoted_any NB w (by omega))
  have HQS : Hid (∀ q s : ByteArray, s.size ≤ 200 → M.bs q = M.enc (M.lits (M.bs s)) → q.size ≤ 400) := Lib.hid (fun q s h e => by
    have h1 := congrArg List.length e
    have h2 := enc_le (M.bs s)
    rw [M.bs_length] at h1 h2
    omega)
  have HMN : Hid (∀ (j : Nat) (qa qb : ByteArray) (w : World), j < 4 → M.bs qa = M.enc (M.lits (M.bs NA)) → M.bs qb = M.enc (M.lits (M.bs NB)) → Calls Tryd.prog 5 #[.string (qa ++ sgn NX j ++ qb), .string N] w fun e w' => e = .returned (.tuple #[.bool true, .bool true]) ∧ Below w.heap.size w w') := Lib.hid (fun j qa qb w hj ha hb => by
    have h1 := HQS.out qa NA hsz.1 ha
    have h2 := HQS.out qb NB hsz.2.1 hb
    have h3 := sgn_size hbX j
    refine matchName_any _ N w (by rw [ByteArray.size_append, ByteArray.size_append]; omega) (by omega) (by omega) (lowB_iff.1 hl) ?_
    rw [hsplit]
    exact sgn_st hbX h47 (by rw [← hsplit]; exact lowB_iff.1 hl) j hj (by rw [ha, hbA]) (by rw [hb, hbB]))
  have HSZ := Lib.hid hsz
  have HSG := Lib.hid (fun j => sgn_size hbX j)
  have a1 := add_ok (a := ⟨#[91, 92]⟩) (b := NX) (by rw [hsz.2.2]; show 2 + 1 ≤ _; omega)
  have a2 := add_ok (a := ⟨#[91, 92]⟩ ++ NX) (b := ⟨#[93]⟩) (by rw [ByteArray.size_append, hsz.2.2]; show 2 + 1 + 1 ≤ _; omega)
  have a3 := add_ok (a := ⟨#[92]⟩) (b := NX) (by rw [hsz.2.2]; show 1 + 1 ≤ _; omega)
  have n47 : ((N[k].toNat : Int) == 47) = false := u8_ne (d := 47) h47
  have k0 : (0 : Int) ≤ (k : Int) := by omega
  have k1 : (k : Int) < (N.size : Int) := by omega
  have k2 : (N.size : Int) ≤ 200 := by omega
  have k3 : k + 1 ≤ N.size := hk
  have k4 : k ≤ N.size := by omega
  have k5 : ¬ N.size ≤ k := by omega
  have k6 : ¬ (k : Int) < 0 := by omega
  have k7 : ¬ (2147483647 : Int) < (N.size : Int) := by omega
  clear hbX hbA hbB hsplit hl h47 hsz
  go_enter Tryd.func3, Tryd.ntmps3
  go_upto_region 5 with (go_at_call 4; (with_reducible refine (HASK.out _).mono ?_); rintro e w1 ⟨rfl, rfl⟩)
  go_region
  have hx := alloc_at w (.cells #[.string ⟨#[63]⟩, .string ⟨#[42]⟩, .string (⟨#[91, 92]⟩ ++ NX ++ ⟨#[93]⟩), .string (⟨#[92]⟩ ++ NX)] 9) _ rfl
  have HW0 : Hid (WidLoop w w.heap.size NX (.int .i64 0) (w.alloc (.cells #[.string ⟨#[63]⟩, .string ⟨#[42]⟩, .string (⟨#[91, 92]⟩ ++ NX ++ ⟨#[93]⟩), .string (⟨#[92]⟩ ++ NX)] 9)).drew) := Lib.hid ⟨0, by omega, rfl, Lib.hid (fun i hi => by
    obtain rfl | rfl | rfl | rfl : i = 0 ∨ i = 1 ∨ i = 2 ∨ i = 3 := by omega
    · exact row_cell hx 0 _ rfl
    · exact row_cell hx 1 _ rfl
    · exact row_cell hx 2 _ rfl
    · exact row_cell hx 3 _ rfl), Lib.hid (Array.getElem?_eq_some_iff.1 hx).1, Lib.hid (below_alloc _ _).drew⟩
  clear hx a1 a2 a3 HASK
  obtain ⟨g, hg⟩ : ∃ n, w.heap.size = n := ⟨_, rfl⟩
  generalize hW : (w.alloc (.cells #[.string ⟨#[63]⟩, .string ⟨#[42]⟩, .string (⟨#[91, 92]⟩ ++ NX ++ ⟨#[93]⟩), .string (⟨#[92]⟩ ++ NX)] 9)).drew = W at *
  rw [hg] at HW0 ⊢
  clear hW hg
  go_wp2
  go_loopw [46] (fun i wr => WidLoop w g NX i wr) (fun i _ => 4 - (intOf i).toNat)
  case atStart => exact HW0.out
  case round =>
    obtain ⟨j, hj, rfl, HC, HG, HB⟩ := hrel
    clear HW0
    by_cases hlt : j < 4
    · have hji : (j : Int) < 4 := by omega
      have hj0 : (0 : Int) ≤ (j : Int) := by omega
      have hc := HC.out j hlt
      obtain ⟨sj, hsj⟩ : ∃ y, sgn NX j = y := ⟨_, rfl⟩
      rw [hsj] at hc
      have HSJ := Lib.hid (show sj.size ≤ 10 by rw [← hsj]; exact HSG.out j)
      have HM2 : Hid (∀ (qa qb : ByteArray) (w : World), M.bs qa = M.enc (M.lits (M.bs NA)) → M.bs qb = M.enc (M.lits (M.bs NB)) → Calls Tryd.prog 5 #[.string (qa ++ sj ++ qb), .string N] w fun e w' => e = .returned (.tuple #[.bool true, .bool true]) ∧ Below w.heap.size w w') := Lib.hid (fun qa qb w h1 h2 => by have := HMN.out j qa qb w hlt h1 h2; rw [hsj] at this; exact this)
      clear hsj
      go_upto_region 8 with fail
      clear hc
      have q1 : IntKind.i64.wrap ((k : Int) + 1) = (k : Int) + 1 := IntWalk.i64_in _ (by omega)
      have q2 : (0 : Int) ≤ (k : Int) + 1 := by omega
      have q3 : ((k : Int) + 1).toNat = k + 1 := by omega
      have q4 : (k : Int) + 1 ≤ (N.size : Int) := by omega
      have q5 : (k : Int) ≤ (N.size : Int) := by omega
      go_region_with (first
        | (go_at_call 6; (with_reducible refine (HQA.out _).mono ?_); rintro e w1 ⟨⟨qa, rfl, hqa⟩, hb⟩; have HA1 := Lib.hid hqa; have hs1 := HQS.out qa NA HSZ.out.1 hqa; have hs2 := HSJ.out; have x1 := add_ok (a := qa) (b := sj) (by omega); have HK1 := Lib.hid (Below.up (Below.refl wr.heap.size wr).drew hb); have HS1 := Lib.hid hs1; clear hqa hb hs1 hs2)
        | (go_at_call 6; (with_reducible refine (HQB.out _).mono ?_); rintro e w2 ⟨⟨qb, rfl, hqb⟩, hb⟩; have HA2 := Lib.hid hqb; have hs1 := HQS.out qb NB HSZ.out.2.1 hqb; have hs2 := HSJ.out; have hs3 := HS1.out; have x2 := add_ok (a := qa ++ sj) (b := qb) (by rw [ByteArray.size_append]; omega); have HK2 := Lib.hid (Below.up HK1.out hb); clear hqb hb hs1 hs2 hs3)
        | (go_at_call 5; (with_reducible refine (HM2.out qa qb _ HA1.out HA2.out).mono ?_); rintro e w3 ⟨rfl, hb⟩; have HK3 := Lib.hid (Below.up HK2.out hb); clear hb)
        | fail)
      all_goals
        clear q1 q2 q3 q4 q5
        go_wp2
        go_roundw
        case rel =>
          exact ⟨j + 1, hlt, by go_num, Lib.hid (fun i hi => cell_keep HK3.out (HC.out i hi)), Lib.hid (Nat.lt_of_lt_of_le HG.out HK3.out.size), Lib.hid (Below.up HB.out HK3.out)⟩
        case measure => simp [intOf]; omega
    · have hji : ¬ (j : Int) < 4 := by omega
      go_wp2
      go_ret
      exact ⟨rfl, HB.out⟩
theorem widen_walk (N : ByteArray) (at_ : Int) (w : World) (h0 : N.size ≤ 140737488351232) (h1 : (Lit.int .i64 at_).wf = true) :
    Calls Tryd.prog 3 #[.string N, .int .i64 at_] w fun e w' => e = .returned (.bool true) ∧ Below w.heap.size w w' := by
  clear h1
  by_cases hs : N.size ≤ 2147483647
  · cases ha : askedB N with
    | false =>
      have HASK : Hid (∀ w : World, Calls Tryd.prog 4 #[.string N, .slice none 0 0] w fun e w' => e = .returned (.bool false) ∧ w = w') := Lib.hid (fun w => asked_any N w hs false (Lib.hid ha))
      clear ha h0
      go_enter Tryd.func3, Tryd.ntmps3
      go_wp2_with (go_at_call 4; (with_reducible refine (HASK.out _).mono ?_); rintro e w1 ⟨rfl, rfl⟩)
      go_ret
      exact ⟨rfl, Below.refl _ _⟩
    | true =>
      have HASK : Hid (∀ w : World, Calls Tryd.prog 4 #[.string N, .slice none 0 0] w fun e w' => e = .returned (.bool true) ∧ w = w') := Lib.hid (fun w => asked_any N w hs true (Lib.hid ha))
      have ha2 : (N.size ≤ 200 ∧ N.size ≠ 0) ∧ lowB N = true := by
        unfold askedB at ha
        rw [Bool.and_eq_true] at ha
        exact ⟨of_decide_eq_true ha.1, ha.2⟩
      by_cases hneg : at_ < 0
      · clear ha ha2 h0
        go_enter Tryd.func3, Tryd.ntmps3
        go_wp2_with (go_at_call 4; (with_reducible refine (HASK.out _).mono ?_); rintro e w1 ⟨rfl, rfl⟩)
        go_ret
        exact ⟨rfl, Below.refl _ _⟩
      · obtain ⟨k, rfl⟩ := Int.eq_ofNat_of_zero_le (show 0 ≤ at_ by omega)
        by_cases hk : k < N.size
        · by_cases h47 : N[k] = 47
          · have n47 : ((N[k].toNat : Int) == 47) = true := by rw [h47]; rfl
            clear ha ha2 h0 h47
            go_enter Tryd.func3, Tryd.ntmps3
            go_wp2_with (go_at_call 4; (with_reducible refine (HASK.out _).mono ?_); rintro e w1 ⟨rfl, rfl⟩)
            go_ret
            exact ⟨rfl, Below.refl _ _⟩
          · exact widen_main N k w ha2.1.1 hk ha2.2 h47
        · have hk2 : N.size ≤ k := by omega
          clear ha ha2 h0
          go_enter Tryd.func3, Tryd.ntmps3
          go_wp2_with (go_at_call 4; (with_reducible refine (HASK.out _).mono ?_); rintro e w1 ⟨rfl, rfl⟩)
          go_ret
          exact ⟨rfl, Below.refl _ _⟩
  · go_enter Tryd.func3, Tryd.ntmps3
    go_wp2
    go_ret
    exact ⟨rfl, Below.refl _ _⟩
end Go.Proofs.YtmjipdcohkiblaaDoor
