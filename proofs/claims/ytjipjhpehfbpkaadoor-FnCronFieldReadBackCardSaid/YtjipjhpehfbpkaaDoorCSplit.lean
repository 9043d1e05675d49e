/-
  package cron's own zzIndex and zzSplit at a text of one byte.
-/
import Derived.Test.YtjipjhpehfbpkaaDoorIds
namespace Go.Proofs.YtjipjhpehfbpkaaDoor
open Go.RowKit

namespace M
/-- where x stands first, or -1 -/
def idx (x : UInt8) (l : Bs) : Int := match l.findIdx? (· == x) with
  | some i => (i : Int)
  | none => -1
theorem idx_none {x : UInt8} {l : Bs} (h : ∀ c ∈ l, c ≠ x) : idx x l = -1 := by
  unfold idx
  rw [List.findIdx?_eq_none_iff.2 (by simpa using h)]
theorem idx_at {x : UInt8} {l : Bs} {k : Nat} (hk : l[k]? = some x) (h : ∀ j, j < k → ∀ c, l[j]? = some c → c ≠ x) : idx x l = k := by
  unfold idx
  have hkl := (List.getElem?_eq_some_iff.1 hk)
  rw [List.findIdx?_eq_some_iff_getElem.2 ⟨hkl.1, by simp [hkl.2], fun j hj => by simpa using h j hj _ (List.getElem?_eq_getElem (by have := hkl.1; omega))⟩]
theorem idx_split {x : UInt8} {l : Bs} {k : Nat} (h : idx x l = k) : k < l.length ∧ (∀ c ∈ l.take k, c ≠ x) ∧ l = l.take k ++ x :: l.drop (k + 1) := by
  unfold idx at h
  cases e : l.findIdx? (· == x) with
  | none => rw [e] at h; simp at h
  | some i =>
    rw [e] at h
    simp only [Int.ofNat_inj] at h
    subst h
    obtain ⟨h1, h2, h3⟩ := List.findIdx?_eq_some_iff_getElem.1 e
    refine ⟨h1, fun c hc => ?_, ?_⟩
    · obtain ⟨j, hj, rfl⟩ := List.mem_iff_getElem.1 hc
      have hj' : j < i := by simp at hj; omega
      have := h3 j hj'
      simpa using this
    · have h4 : l.drop i = l[i] :: l.drop (i + 1) := List.drop_eq_getElem_cons _
      have h5 : l[i] = x := by simpa using h2
      rw [h5] at h4
      rw [← h4, List.take_append_drop]
theorem idx_neg {x : UInt8} {l : Bs} (h : idx x l < 0) : ∀ c ∈ l, c ≠ x := by
  unfold idx at h
  cases e : l.findIdx? (· == x) with
  | none => simpa using List.findIdx?_eq_none_iff.1 e
  | some i => rw [e] at h; simp at h; omega
theorem idx_ge (x : UInt8) (l : Bs) : -1 ≤ idx x l := by
  unfold idx
  split <;> omega
theorem idx_lt (x : UInt8) (l : Bs) : idx x l < l.length ∨ idx x l = -1 := by
  unfold idx
  split
  · rename_i i e
    have := (List.findIdx?_eq_some_iff_getElem.1 e).1
    left; omega
  · right; rfl
end M

theorem one_bs (s : ByteArray) (k : Nat) (h : k < s.size) : (s.extract k (k + 1)).toList = [s[k]] := by
  rw [ByteArray.toList_eq]
  have := bs_extract s k (k + 1)
  unfold M.bs at this
  rw [this, List.drop_eq_getElem_cons (by simpa using h), show k + 1 - k = 1 from by omega]
  rfl

theorem ret_i64 {a b : Int} (h : a = b) : Ending.returned (.int .i64 a) = .returned (.int .i64 b) := by rw [h]

set_option maxRecDepth 100000 in
theorem zzIndex_any (s : ByteArray) (x : UInt8) (w : World) (hs : s.size ≤ 140737488351232) :
    Calls Tryd.prog 57 #[.string s, .string ⟨#[x]⟩] w fun e w' => e = .returned (.int .i64 (M.idx x (M.bs s))) ∧ w' = w := by
  go_enter Tryd.func57, Tryd.ntmps57
  go_wp2
  go_loop [5] (fun i => ∃ k : Nat, k ≤ s.size ∧ i = .int .i64 k ∧ Hid (∀ j, j < k → ∀ c, (M.bs s)[j]? = some c → c ≠ x)) (fun i => s.size - (intOf i).toNat)
  case atStart => exact ⟨0, Nat.zero_le _, rfl, Lib.hid (fun j hj => absurd hj (by omega))⟩
  case round =>
    obtain ⟨k, hk, rfl, ha⟩ := hrel
    by_cases hlt : k < s.size
    · have h1 := one_bs s k hlt
      have t1 : ((k : Int) + 1).toNat = k + 1 := by omega
      have t2 : k + 1 ≤ s.size := hlt
      have t3 : (k : Int) ≤ (k : Int) + 1 := by omega
      have t4 : (0 : Int) ≤ (k : Int) + 1 := by omega
      go_wp2
      · have hx : (s[k] == x) = true := by assumption
        go_ret
        refine ⟨ret_i64 ?_, rfl⟩
        rw [beq_iff_eq] at hx
        rw [M.idx_at (k := k) (by rw [M.bs_get s k hlt, hx]) ha.out]
      · have hx : (s[k] == x) = false := by assumption
        have HX := Lib.hid hx
        clear hx
        go_round
        case rel =>
          refine ⟨k + 1, hlt, by go_num, Lib.hid (fun j hj c hc => ?_)⟩
          by_cases e : j = k
          · subst e
            rw [M.bs_get s j hlt] at hc
            obtain rfl := Option.some.inj hc
            simpa using HX.out
          · exact ha.out j (by omega) c hc
        case measure => simp [intOf]; omega
    · go_wp2
      go_ret
      refine ⟨ret_i64 ?_, rfl⟩
      rw [M.idx_none]
      intro c hc
      obtain ⟨j, hj, rfl⟩ := List.mem_iff_getElem.1 hc
      have hj' : j < s.size := by simpa [M.bs] using hj
      exact ha.out j (by omega) _ (List.getElem?_eq_getElem hj)


theorem zzIndex_at (s : ByteArray) (x : UInt8) (k : Nat) (w : World) (hs : s.size ≤ 140737488351232) (hk : Hid (M.idx x (M.bs s) = k)) :
    Calls Tryd.prog 57 #[.string s, .string ⟨#[x]⟩] w fun e w' => e = .returned (.int .i64 k) ∧ w' = w := by
  have := zzIndex_any s x w hs
  rw [hk.out] at this
  exact this

/-- at the head of zzSplit's loop: the pieces so far, and what is left -/
def SpRel (x : UInt8) (s : ByteArray) (w : World) (v cur : Value) (wr : World) : Prop :=
  ∃ (L : List ByteArray) (t : ByteArray), cur = .string t ∧ M.splitOn x (M.bs s) = L.map M.bs ++ M.splitOn x (M.bs t) ∧ L.length + t.size ≤ s.size ∧ OwnS wr w.heap.size v L ∧ Below w.heap.size w wr

theorem SpRel.step {x : UInt8} {s t : ByteArray} {L : List ByteArray} {k : Nat} (h : M.splitOn x (M.bs s) = L.map M.bs ++ M.splitOn x (M.bs t)) (hk : M.idx x (M.bs t) = k) :
    M.splitOn x (M.bs s) = (L ++ [t.extract 0 k]).map M.bs ++ M.splitOn x (M.bs (t.extract (k + 1) t.size)) := by
  obtain ⟨h1, h2, h3⟩ := M.idx_split hk
  rw [h, h3, M.splitOn_first x _ _ h2]
  have e : (M.bs t).drop (k + 1) = ((M.bs t).drop (k + 1)).take (t.size - (k + 1)) := (List.take_of_length_le (by simp [M.bs])).symm
  rw [e]
  simp [bs_extract]
theorem SpRel.last {x : UInt8} {s t : ByteArray} {L : List ByteArray} (h : M.splitOn x (M.bs s) = L.map M.bs ++ M.splitOn x (M.bs t)) (hk : M.idx x (M.bs t) < 0) :
    (L ++ [t]).map M.bs = M.splitOn x (M.bs s) := by
  rw [h, M.splitOn_none x _ (M.idx_neg hk)]
  simp

set_option maxRecDepth 100000 in
set_option maxHeartbeats 800000 in
theorem zzSplit_any (s : ByteArray) (x : UInt8) (w : World) (hs : s.size ≤ 2147483647) :
    Calls Tryd.prog 46 #[.string s, .string ⟨#[x]⟩] w (Parted x s w) := by
  go_enter Tryd.func46, Tryd.ntmps46
  go_wp2
  go_loopw [0, 5] (fun cur v wr => SpRel x s w v cur wr) (fun cur _ _ => match cur with | .string t => t.size | _ => 0)
  case atStart => exact ⟨[], s, rfl, by simp, by simp, OwnS.nil _ _, Below.refl _ _⟩
  case round =>
    obtain ⟨L, t, rfl, hsp, hlen, hown, hb⟩ := hrel
    have HB := Lib.hid hb
    have HO := Lib.hid hown
    have HS := Lib.hid hsp
    clear hb hown hsp
    have hge := M.idx_ge x (M.bs t)
    by_cases hneg : M.idx x (M.bs t) < 0
    · have HN := Lib.hid hneg
      go_wp2_with (first
        | ((go_at_call 57; (with_reducible refine (zzIndex_any _ _ _ (by omega)).mono ?_); rintro e w' ⟨rfl, rfl⟩))
        | (at_builtin; refine append_str rfl _ _ rfl w.heap.size _ L rfl (HO.out.kept ((Below.refl _ _).alloc (Nat.le_refl _) _)) _ 1 t rfl ?c1 ?c2 ?c3 ?_; rotate_left 3; intro v' w1 hown1 hb1 hz1; have HO1 := Lib.hid hown1; have HB1 := Lib.hid hb1; clear hown1 hb1))
      case c1 => go_simp
      case c2 => omega
      case c3 => have := HB.out.size; simp; omega
      go_ret
      exact ⟨_, _, rfl, SpRel.last HS.out HN.out, HO1.out, (HB.out.alloc HB.out.size _).trans HB1.out⟩
    · obtain ⟨k, hk⟩ := Int.eq_ofNat_of_zero_le (show 0 ≤ M.idx x (M.bs t) by omega)
      have hkl := (M.idx_split hk).1
      rw [M.bs_length] at hkl
      have HK := Lib.hid hk
      clear hk hneg hge
      have t1 : ((k : Int) + 1).toNat = k + 1 := by omega
      have t2 : k + 1 ≤ t.size := hkl
      have t3 : (0 : Int) ≤ (k : Int) + 1 := by omega
      have t4 : (k : Int) + 1 ≤ (t.size : Int) := by omega
      have t5 : (k : Int) ≤ (t.size : Int) := by omega
      go_wp2_with (first
        | ((go_at_call 57; (with_reducible refine (zzIndex_at _ _ k _ (by omega) HK).mono ?_); rintro e w' ⟨rfl, rfl⟩))
        | (at_builtin; refine append_str rfl _ _ rfl w.heap.size _ L rfl (HO.out.kept ((Below.refl _ _).alloc (Nat.le_refl _) _)) _ 1 (t.extract 0 k) rfl ?d1 ?d2 ?d3 ?_; rotate_left 3; intro v' w1 hown1 hb1 hz1; have HO1 := Lib.hid hown1; have HB1 := Lib.hid hb1; clear hown1 hb1))
      case d1 => go_simp
      case d2 => omega
      case d3 => have := HB.out.size; simp; omega
      go_roundw
      case rel => exact ⟨L ++ [t.extract 0 k], t.extract (k + 1) t.size, rfl, SpRel.step HS.out HK.out, by simp [ByteArray.size_extract]; omega, HO1.out, (HB.out.alloc HB.out.size _).trans HB1.out⟩
      case measure => simp [ByteArray.size_extract]; omega
end Go.Proofs.YtjipjhpehfbpkaaDoor
