/-
  semver's own zzSplitN at a text of one byte, and zzContains.
-/
import Derived.Test.YtopaileliohpdaaDoorCheck
namespace Go.Proofs.YtopaileliohpdaaDoor
open Go.RowKit
set_option maxRecDepth 100000
set_option linter.unusedVariables false

namespace M
/-- parted at the first r of x -/
def splitN (x : UInt8) : Nat → Bs → List Bs
  | 0, l => [l]
  | r + 1, l => if idx x l < 0 then [l] else l.take (idx x l).toNat :: splitN x r (l.drop ((idx x l).toNat + 1))
theorem splitN_len (x : UInt8) : ∀ (r : Nat) (l : Bs), ∀ p ∈ splitN x r l, p.length ≤ l.length
  | 0, l, p, h => by simp [splitN] at h; rw [h]; exact Nat.le_refl _
  | r + 1, l, p, h => by
    unfold splitN at h
    split at h
    · simp at h; rw [h]; exact Nat.le_refl _
    · rcases List.mem_cons.1 h with h | h
      · rw [h, List.length_take]; omega
      · have := splitN_len x r _ p h
        rw [List.length_drop] at this
        omega
theorem splitN_last {x : UInt8} {r : Nat} {l : Bs} (h : r = 0 ∨ idx x l < 0) : splitN x r l = [l] := by
  cases r with
  | zero => rfl
  | succ r => rcases h with h | h; · cases h
              · unfold splitN; rw [if_pos h]
theorem splitN_step {x : UInt8} {r k : Nat} {l : Bs} (h : idx x l = k) : splitN x (r + 1) l = l.take k :: splitN x r (l.drop (k + 1)) := by
  rw [splitN, if_neg (by omega), h]
  rfl
theorem splitN_count (x : UInt8) : ∀ (r : Nat) (l : Bs), (splitN x r l).length ≤ r + 1
  | 0, l => by simp [splitN]
  | r + 1, l => by
    unfold splitN
    split
    · simp
    · have := splitN_count x r (l.drop ((idx x l).toNat + 1))
      simp only [List.length_cons]; omega
end M
/-- at the head of zzSplitN's loop -/
def SnRel (x : UInt8) (n : Nat) (s : ByteArray) (w : World) (v cur : Value) (wr : World) : Prop :=
  ∃ (L : List ByteArray) (t : ByteArray), cur = .string t ∧ M.splitN x n (M.bs s) = L.map M.bs ++ M.splitN x (n - L.length) (M.bs t) ∧ L.length ≤ n ∧ L.length + t.size ≤ s.size ∧ OwnS wr w.heap.size v L ∧ Below w.heap.size w wr
/-- what zzSplitN hands back -/
def PartedN (x : UInt8) (n : Nat) (s : ByteArray) (w : World) (e : Ending) (w' : World) : Prop :=
  ∃ v L, e = .returned v ∧ L.map M.bs = M.splitN x n (M.bs s) ∧ OwnS w' w.heap.size v L ∧ Below w.heap.size w w'
theorem SnRel.step {x : UInt8} {n : Nat} {s t : ByteArray} {L : List ByteArray} {k : Nat} (h : M.splitN x n (M.bs s) = L.map M.bs ++ M.splitN x (n - L.length) (M.bs t)) (hl : L.length < n) (hk : M.idx x (M.bs t) = k) :
    M.splitN x n (M.bs s) = (L ++ [t.extract 0 k]).map M.bs ++ M.splitN x (n - (L ++ [t.extract 0 k]).length) (M.bs (t.extract (k + 1) t.size)) := by
  rw [h, show n - L.length = (n - (L ++ [t.extract 0 k]).length) + 1 by simp; omega, M.splitN_step hk]
  have e : (M.bs t).drop (k + 1) = ((M.bs t).drop (k + 1)).take (t.size - (k + 1)) := (List.take_of_length_le (by simp [M.bs])).symm
  rw [e]
  simp [bs_extract]
theorem SnRel.last {x : UInt8} {n : Nat} {s t : ByteArray} {L : List ByteArray} (h : M.splitN x n (M.bs s) = L.map M.bs ++ M.splitN x (n - L.length) (M.bs t)) (hk : n - L.length = 0 ∨ M.idx x (M.bs t) < 0) :
    (L ++ [t]).map M.bs = M.splitN x n (M.bs s) := by
  rw [h, M.splitN_last hk]
  simp
theorem zzContains_any (s : ByteArray) (x : UInt8) (w : World) (hs : s.size ≤ 140737488351232) :
    Calls Tryd.prog 88 #[.string s, .string ⟨#[x]⟩] w fun e w' => e = .returned (.bool (decide (0 ≤ M.idx x (M.bs s)))) ∧ w' = w := by
  go_enter Tryd.func88, Tryd.ntmps88
  go_wp2_with (go_at_call 97; (with_reducible refine (zzIndex_any _ _ _ hs).mono ?_); rintro e w' ⟨rfl, rfl⟩)
  go_ret
  exact ⟨rfl, rfl⟩
set_option maxHeartbeats 1600000 in
theorem zzSplitN_2 (s : ByteArray) (x : UInt8) (w : World) (hs : s.size ≤ 2147483647) :
    Calls Tryd.prog 87 #[.string s, .string ⟨#[x]⟩, .int .i64 2] w (PartedN x 1 s w) := by
  go_enter Tryd.func87, Tryd.ntmps87
  go_wp2
  go_loopw [0, 7] (fun cur v wr => SnRel x 1 s w v cur wr) (fun cur _ _ => match cur with | .string t => t.size | _ => 0)
  case atStart => exact ⟨[], s, rfl, by simp, by simp, by simp, OwnS.nil _ _, Below.refl _ _⟩
  case round =>
    obtain ⟨L, t, rfl, hsp, hll, hlen, hown, hb⟩ := hrel
    obtain ⟨A, cap, rfl, _⟩ := hown.read
    have HB := Lib.hid hb
    have HO := Lib.hid hown
    have HS := Lib.hid hsp
    clear hb hown hsp
    rcases Nat.lt_or_ge L.length 1 with hlt | hlt
    case inr =>
      have h9 : ¬ (L.length : Int) < 1 := by omega
      go_wp2_with (at_builtin; refine append_str rfl _ _ rfl w.heap.size _ L rfl (HO.out.kept ((Below.refl _ _).alloc (Nat.le_refl _) _)) _ 1 t rfl ?c1 ?c2 ?c3 ?_; rotate_left 3; intro v' w1 hown1 hb1 hz1; have HO1 := Lib.hid hown1; have HB1 := Lib.hid hb1; clear hown1 hb1)
      case c2 => omega
      case c3 => have := HB.out.size; simp; omega
      go_ret
      exact ⟨_, _, rfl, SnRel.last HS.out ((.inl (by omega))), HO1.out, (HB.out.alloc HB.out.size _).trans HB1.out⟩
    have h9 : (L.length : Int) < 1 := by omega
    have hge := M.idx_ge x (M.bs t)
    by_cases hneg : M.idx x (M.bs t) < 0
    · have HN := Lib.hid hneg
      go_wp2_with (first
        | ((go_at_call 97; (with_reducible refine (zzIndex_any _ _ _ (by omega)).mono ?_); rintro e w' ⟨rfl, rfl⟩))
        | (at_builtin; refine append_str rfl _ _ rfl w.heap.size _ L rfl (HO.out.kept ((Below.refl _ _).alloc (Nat.le_refl _) _)) _ 1 t rfl ?d1 ?d2 ?d3 ?_; rotate_left 3; intro v' w1 hown1 hb1 hz1; have HO1 := Lib.hid hown1; have HB1 := Lib.hid hb1; clear hown1 hb1))
      case d1 => go_simp
      case d2 => omega
      case d3 => have := HB.out.size; simp; omega
      go_ret
      exact ⟨_, _, rfl, SnRel.last HS.out ((.inr HN.out)), HO1.out, (HB.out.alloc HB.out.size _).trans HB1.out⟩
    · obtain ⟨k, hk⟩ := Int.eq_ofNat_of_zero_le (show 0 ≤ M.idx x (M.bs t) by omega)
      have hkl := (M.idx_split hk).1
      rw [M.bs_length] at hkl
      have HK := Lib.hid hk
      clear hk hneg hge
      have t1 : ((k : Int) + 1).toNat = k + 1 := by omega
      have t2 : k + 1 ≤ t.size := hkl
      have t3 : (0 : Int) ≤ (k : Int) + 1 := by omega
      have t4 : (k : Int) + 1 ≤ (t.size : Int) := by omega
      have t5 : (k : Int) ≤ (t.size : Int) := by omega
      have HLT := Lib.hid hlt
      have HT2 := Lib.hid t2
      go_wp2_with (first
        | ((go_at_call 97; (with_reducible refine (zzIndex_at _ _ k _ (by omega) HK).mono ?_); rintro e w' ⟨rfl, rfl⟩))
        | (at_builtin; refine append_str rfl _ _ rfl w.heap.size _ L rfl (HO.out.kept ((Below.refl _ _).alloc (Nat.le_refl _) _)) _ 1 (t.extract 0 k) rfl ?e1 ?e2 ?e3 ?_; rotate_left 3; intro v' w1 hown1 hb1 hz1; have HO1 := Lib.hid hown1; have HB1 := Lib.hid hb1; clear hown1 hb1))
      case e1 => go_simp
      case e2 => omega
      case e3 => have := HB.out.size; simp; omega
      go_roundw
      case rel => exact ⟨L ++ [t.extract 0 k], t.extract (k + 1) t.size, rfl, SnRel.step HS.out HLT.out HK.out, by rw [List.length_append, List.length_singleton]; exact HLT.out, by have := HT2.out; simp [ByteArray.size_extract]; omega, HO1.out, (HB.out.alloc HB.out.size _).trans HB1.out⟩
      case measure => simp [ByteArray.size_extract]; omega
set_option maxHeartbeats 1600000 in
theorem zzSplitN_3 (s : ByteArray) (x : UInt8) (w : World) (hs : s.size ≤ 2147483647) :
    Calls Tryd.prog 87 #[.string s, .string ⟨#[x]⟩, .int .i64 3] w (PartedN x 2 s w) := by
  go_enter Tryd.func87, Tryd.ntmps87
  go_wp2
  go_loopw [0, 7] (fun cur v wr => SnRel x 2 s w v cur wr) (fun cur _ _ => match cur with | .string t => t.size | _ => 0)
  case atStart => exact ⟨[], s, rfl, by simp, by simp, by simp, OwnS.nil _ _, Below.refl _ _⟩
  case round =>
    obtain ⟨L, t, rfl, hsp, hll, hlen, hown, hb⟩ := hrel
    obtain ⟨A, cap, rfl, _⟩ := hown.read
    have HB := Lib.hid hb
    have HO := Lib.hid hown
    have HS := Lib.hid hsp
    clear hb hown hsp
    rcases Nat.lt_or_ge L.length 2 with hlt | hlt
    case inr =>
      have h9 : ¬ (L.length : Int) < 2 := by omega
      go_wp2_with (at_builtin; refine append_str rfl _ _ rfl w.heap.size _ L rfl (HO.out.kept ((Below.refl _ _).alloc (Nat.le_refl _) _)) _ 1 t rfl ?c1 ?c2 ?c3 ?_; rotate_left 3; intro v' w1 hown1 hb1 hz1; have HO1 := Lib.hid hown1; have HB1 := Lib.hid hb1; clear hown1 hb1)
      case c2 => omega
      case c3 => have := HB.out.size; simp; omega
      go_ret
      exact ⟨_, _, rfl, SnRel.last HS.out ((.inl (by omega))), HO1.out, (HB.out.alloc HB.out.size _).trans HB1.out⟩
    have h9 : (L.length : Int) < 2 := by omega
    have hge := M.idx_ge x (M.bs t)
    by_cases hneg : M.idx x (M.bs t) < 0
    · have HN := Lib.hid hneg
      go_wp2_with (first
        | ((go_at_call 97; (with_reducible refine (zzIndex_any _ _ _ (by omega)).mono ?_); rintro e w' ⟨rfl, rfl⟩))
        | (at_builtin; refine append_str rfl _ _ rfl w.heap.size _ L rfl (HO.out.kept ((Below.refl _ _).alloc (Nat.le_refl _) _)) _ 1 t rfl ?d1 ?d2 ?d3 ?_; rotate_left 3; intro v' w1 hown1 hb1 hz1; have HO1 := Lib.hid hown1; have HB1 := Lib.hid hb1; clear hown1 hb1))
      case d1 => go_simp
      case d2 => omega
      case d3 => have := HB.out.size; simp; omega
      go_ret
      exact ⟨_, _, rfl, SnRel.last HS.out ((.inr HN.out)), HO1.out, (HB.out.alloc HB.out.size _).trans HB1.out⟩
    · obtain ⟨k, hk⟩ := Int.eq_ofNat_of_zero_le (show 0 ≤ M.idx x (M.bs t) by omega)
      have hkl := (M.idx_split hk).1
      rw [M.bs_length] at hkl
      have HK := Lib.hid hk
      clear hk hneg hge
      have t1 : ((k : Int) + 1).toNat = k + 1 := by omega
      have t2 : k + 1 ≤ t.size := hkl
      have t3 : (0 : Int) ≤ (k : Int) + 1 := by omega
      have t4 : (k : Int) + 1 ≤ (t.size : Int) := by omega
      have t5 : (k : Int) ≤ (t.size : Int) := by omega
      have HLT := Lib.hid hlt
      have HT2 := Lib.hid t2
      go_wp2_with (first
        | ((go_at_call 97; (with_reducible refine (zzIndex_at _ _ k _ (by omega) HK).mono ?_); rintro e w' ⟨rfl, rfl⟩))
        | (at_builtin; refine append_str rfl _ _ rfl w.heap.size _ L rfl (HO.out.kept ((Below.refl _ _).alloc (Nat.le_refl _) _)) _ 1 (t.extract 0 k) rfl ?e1 ?e2 ?e3 ?_; rotate_left 3; intro v' w1 hown1 hb1 hz1; have HO1 := Lib.hid hown1; have HB1 := Lib.hid hb1; clear hown1 hb1))
      case e1 => go_simp
      case e2 => omega
      case e3 => have := HB.out.size; simp; omega
      go_roundw
      case rel => exact ⟨L ++ [t.extract 0 k], t.extract (k + 1) t.size, rfl, SnRel.step HS.out HLT.out HK.out, by rw [List.length_append, List.length_singleton]; exact HLT.out, by have := HT2.out; simp [ByteArray.size_extract]; omega, HO1.out, (HB.out.alloc HB.out.size _).trans HB1.out⟩
      case measure => simp [ByteArray.size_extract]; omega
end Go.Proofs.YtopaileliohpdaaDoor
