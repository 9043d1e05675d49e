/-
  spec.CronJoin with a comma.
-/
import Derived.Test.YtjipjhpehfbpkaaDoorCGetF
namespace Go.Proofs.YtjipjhpehfbpkaaDoor
open Go.RowKit
set_option maxRecDepth 100000
set_option linter.unusedVariables false

theorem add_ok {a b : ByteArray} (h : a.size + b.size ≤ 9223372036854775807) : ∀ w : World, (Op.stringOp .add a b).run Tryd.prog w = .ok (.string (a ++ b)) w := fun w => run_string_add_sum w a b h
namespace M
theorem bs_append (a b : ByteArray) : bs (a ++ b) = bs a ++ bs b := by
  unfold bs
  simp
theorem join_snoc (x : UInt8) (p : Bs) : ∀ l : List Bs, joinWith x (l ++ [p]) = if l = [] then p else joinWith x l ++ x :: p
  | [] => rfl
  | [q] => rfl
  | q :: r :: l => by
    have ih := join_snoc x p (r :: l)
    rw [if_neg (by simp)] at ih ⊢
    show q ++ x :: joinWith x ((r :: l) ++ [p]) = (q ++ x :: joinWith x (r :: l)) ++ x :: p
    rw [ih]
    simp
theorem take_snoc' {α : Type} (l : List α) (k : Nat) (h : k < l.length) : l.take (k + 1) = l.take k ++ [l[k]] := by
  rw [List.take_succ_eq_append_getElem h]
end M
set_option maxHeartbeats 4000000 in
theorem cronJoin_any (g n c : Nat) (L : List ByteArray) (w : World) (hn : n = L.length) (hs : SlAt w g L) (hl : L.length ≤ 1000) (hp : ∀ i (h : i < L.length), (L[i]).size ≤ 1000) :
    Calls Tryd.prog 23 #[.slice (some ⟨g, 0, none⟩) n c, .string ⟨#[44]⟩] w fun e w' => ∃ J, e = .returned (.string J) ∧ M.bs J = M.joinWith 44 (L.map M.bs) ∧ J.size ≤ 1001 * L.length ∧ w = w' := by
  have HS := Lib.hid hs
  have HP := Lib.hid hp
  have HN := Lib.hid hn
  have hn1 : (n : Int) ≤ 1000 := by omega
  clear hs hp hn
  go_enter Tryd.func23, Tryd.ntmps23
  go_wp2
  go_loop [5, 10] (fun a i => ∃ (k : Nat) (J : ByteArray), k ≤ L.length ∧ i = .int .i64 (k : Int) ∧ a = .string J ∧ Hid (M.bs J = M.joinWith 44 ((L.map M.bs).take k)) ∧ J.size ≤ 1001 * k) (fun _ i => L.length - (intOf i).toNat)
  case atStart => exact ⟨0, ⟨#[]⟩, Nat.zero_le _, rfl, rfl, Lib.hid rfl, Nat.zero_le _⟩
  case round =>
    obtain ⟨k, J, hk, rfl, rfl, HJ, hJ⟩ := hrel
    by_cases hlt : k < L.length
    · have hkn : (k : Int) < (n : Int) := by rw [HN.out]; omega
      have hk0 : (0 : Int) ≤ (k : Int) := by omega
      obtain ⟨p, hp⟩ : ∃ p, L[k] = p := ⟨_, rfl⟩
      have hc := HS.out.2 k hlt
      rw [hp] at hc
      have hps := HP.out k hlt
      rw [hp] at hps
      have HSN := Lib.hid (show M.joinWith 44 ((L.map M.bs).take (k + 1)) = if (L.map M.bs).take k = [] then M.bs p else M.bs J ++ 44 :: M.bs p by
        rw [M.take_snoc' _ k (by rw [List.length_map]; exact hlt), M.join_snoc, ← HJ.out, List.getElem_map, hp])
      clear hp
      have hz44 : (⟨#[44]⟩ : ByteArray).size = 1 := rfl
      by_cases k0 : 0 < k
      · have k1 : (0 : Int) < (k : Int) := by omega
        have a1 := add_ok (a := J) (b := ⟨#[44]⟩) (by omega)
        have a2 := add_ok (a := J ++ ⟨#[44]⟩) (b := p) (by rw [ByteArray.size_append]; omega)
        have HE := Lib.hid (show M.bs (J ++ ⟨#[44]⟩ ++ p) = M.joinWith 44 ((L.map M.bs).take (k + 1)) by
          rw [HSN.out, if_neg (by
            intro e
            have h9 : ((L.map M.bs).take k).length = k := by rw [List.length_take, List.length_map]; omega
            rw [e] at h9
            simp at h9
            omega), M.bs_append, M.bs_append]
          simp [M.bs])
        have HZ := Lib.hid (show (J ++ ⟨#[44]⟩ ++ p).size ≤ 1001 * (k + 1) by rw [ByteArray.size_append, ByteArray.size_append]; omega)
        clear hz44
        go_wp2
        go_round
        case rel => exact ⟨k + 1, _, hlt, by go_num, rfl, HE, HZ.out⟩
        case measure => simp [intOf]; omega
      · have hk9 : k = 0 := by omega
        have k1 : ¬ (0 : Int) < (k : Int) := by omega
        have a2 := add_ok (a := J) (b := p) (by omega)
        have HE := Lib.hid (show M.bs (J ++ p) = M.joinWith 44 ((L.map M.bs).take (k + 1)) by
          have hj := HJ.out
          rw [hk9] at hj
          rw [HSN.out, if_pos (by rw [hk9]; rfl), M.bs_append, hj]
          rfl)
        have HZ := Lib.hid (show (J ++ p).size ≤ 1001 * (k + 1) by rw [ByteArray.size_append]; omega)
        clear hz44 hk9 k0
        go_wp2
        go_round
        case rel => exact ⟨k + 1, _, hlt, by go_num, rfl, HE, HZ.out⟩
        case measure => simp [intOf]; omega
    · have hkn : ¬ (k : Int) < (n : Int) := by rw [HN.out]; omega
      have hkl : k = L.length := by omega
      have HJ2 := Lib.hid (show M.bs J = M.joinWith 44 (L.map M.bs) by rw [HJ.out, hkl, List.take_of_length_le (by rw [List.length_map]; exact Nat.le_refl _)])
      have HZ := Lib.hid (show J.size ≤ 1001 * L.length by rw [← hkl]; exact hJ)
      clear hkl
      go_wp2
      go_ret
      exact ⟨J, rfl, HJ2.out, HZ.out, rfl⟩
end Go.Proofs.YtjipjhpehfbpkaaDoor
