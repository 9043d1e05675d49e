/-
  semver's containsOnly at a text of ASCII: whether each byte of a text stands in it.
-/
import Derived.Test.YtopaileliohpdaaDoorSplit
import Derived.Test.YtopaileliohpdaaDoorShelf
import Derived.Deep.LoopGhost
import Derived.Lib.OthersKept
namespace Go.Proofs.YtopaileliohpdaaDoor
open Go.RowKit

namespace M
/-- where a byte of number r stands first, or -1 -/
def idxN (r : Nat) (l : Bs) : Int := match l.findIdx? (fun c => c.toNat == r) with
  | some i => (i : Int)
  | none => -1
theorem idxN_none {r : Nat} {l : Bs} (h : ∀ c ∈ l, c.toNat ≠ r) : idxN r l = -1 := by
  unfold idxN
  rw [List.findIdx?_eq_none_iff.2 (by simpa using h)]
theorem idxN_at {r : Nat} {l : Bs} {k : Nat} {d : UInt8} (hk : l[k]? = some d) (hd : d.toNat = r) (h : ∀ j, j < k → ∀ c, l[j]? = some c → c.toNat ≠ r) : idxN r l = k := by
  unfold idxN
  have hkl := (List.getElem?_eq_some_iff.1 hk)
  rw [List.findIdx?_eq_some_iff_getElem.2 ⟨hkl.1, by simp [hkl.2, hd], fun j hj => by simpa using h j hj _ (List.getElem?_eq_getElem (by have := hkl.1; omega))⟩]
theorem idxN_nonneg (r : Nat) (l : Bs) : decide (0 ≤ idxN r l) = l.any (fun c => c.toNat == r) := by
  unfold idxN
  cases e : l.findIdx? (fun c => c.toNat == r) with
  | none =>
    have := List.findIdx?_eq_none_iff.1 e
    rw [List.any_eq_false.2 (by simpa using this)]
    rfl
  | some i =>
    obtain ⟨h1, h2, _⟩ := List.findIdx?_eq_some_iff_getElem.1 e
    rw [List.any_eq_true.2 ⟨l[i], List.getElem_mem h1, h2⟩]
    simp
end M

/-- each byte is below 128 -/
def Ascii (l : M.Bs) : Prop := ∀ c ∈ l, c.toNat < 128

theorem ascii_at {s : ByteArray} (h : Ascii (M.bs s)) (k : Nat) (hk : k < s.size) : (s[k]'hk).toNat < 128 :=
  h _ (by unfold M.bs; exact List.getElem_mem (by simpa using hk))

theorem zir_cases (r : Nat) : (((r : Int) != 65533) = false) ∨ (((r : Int) != 65533) = true ∧ decide ((55296 : Int) ≤ (r : Int)) = false) ∨
    (((r : Int) != 65533) = true ∧ decide ((55296 : Int) ≤ (r : Int)) = true ∧ decide ((r : Int) ≤ 57343) = false) ∨
    (((r : Int) != 65533) = true ∧ decide ((55296 : Int) ≤ (r : Int)) = true ∧ decide ((r : Int) ≤ 57343) = true) := by
  cases ((r : Int) != 65533) <;> cases decide ((55296 : Int) ≤ (r : Int)) <;> cases decide ((r : Int) ≤ 57343) <;> simp

set_option maxHeartbeats 2000000 in
set_option maxRecDepth 100000 in
theorem zzIndexRune_any (s : ByteArray) (r : Nat) (w : World) (hs : s.size ≤ 140737488351232) (ha : Ascii (M.bs s)) (hr : r ≤ 1114111) :
    Calls Tryd.prog 106 #[.string s, .int .i32 (r : Int)] w fun e w' => e = .returned (.int .i64 (M.idxN r (M.bs s))) ∧ Below w.heap.size w w' := by
  have HA := Lib.hid ha
  clear ha
  have f1 : decide ((r : Int) < 0) = false := decide_eq_false (by omega)
  have f2 : decide ((1114111 : Int) < (r : Int)) = false := decide_eq_false (by omega)
  rcases zir_cases r with e1 | ⟨e1, e2⟩ | ⟨e1, e2, e3⟩ | ⟨e1, e2, e3⟩
  · go_enter Tryd.func106, Tryd.ntmps106
    go_wp2
    clear e1 f1 f2
    go_loopg [] s.size (fun gf wx => ∃ pos : Nat, wx.heap[w.heap.size]? = some (.stringIter s pos) ∧ Below w.heap.size w wx ∧ Hid (∀ j, j < pos → ∀ c, (M.bs s)[j]? = some c → c.toNat ≠ r) ∧ pos ≤ s.size ∧ s.size ≤ pos + gf)
    case atStart => exact ⟨0, World.iter_heap w s 0, (Below.refl _ w).alloc (Nat.le_refl _) _, Lib.hid (fun j hj => absurd hj (by omega)), by omega, by omega⟩
    case round =>
      obtain ⟨pos, hit, hbw, hno, hle, hfu⟩ := hrel
      by_cases hps : pos < s.size
      · obtain ⟨g', rfl⟩ : ∃ g', gk = g' + 1 := ⟨gk - 1, by omega⟩
        have hnx : ∀ ty, (Instr.next (.pointer (some ⟨w.heap.size, 0, none⟩)) true ty).run Tryd.prog wr = _ := fun ty => Lib.run_next_any_at wr w.heap.size s pos ty hit hps
        rw [decode_ascii s pos hps (ascii_at HA.out pos hps)] at hnx
        have hit2 := Lib.iterAt_heap wr w.heap.size s pos (pos + 1) hit
        have hbw2 := Lib.below_iterAt hbw (k := w.heap.size) (Nat.le_refl _) s (pos + 1)
        obtain ⟨W, hWd⟩ : ∃ W, wr.iterAt w.heap.size s (pos + 1) = W := ⟨_, rfl⟩
        simp only [] at hnx
        rw [hWd] at hnx hit2 hbw2
        have HB2 := Lib.hid hbw2
        have HBY := Lib.hid (ascii_at HA.out pos hps)
        clear hbw hbw2 hit hWd
        go_wp2
        · have hx : ((s[pos].toNat : Int) == (r : Int)) = true := by assumption
          go_ret
          refine ⟨ret_i64 ?_, HB2.out⟩
          rw [M.idxN_at (k := pos) (M.bs_get s pos hps) (by have := beq_iff_eq.1 hx; omega) hno.out]
        · have hx : ((s[pos].toNat : Int) == (r : Int)) = false := by assumption
          have HX := Lib.hid hx
          clear hx
          go_roundg g'
          case measure => omega
          case rel =>
            refine ⟨pos + 1, hit2, HB2.out, Lib.hid (fun j hj c hc => ?_), hps, by omega⟩
            by_cases e : j = pos
            · subst e
              rw [M.bs_get s j hps] at hc
              obtain rfl := Option.some.inj hc
              have := beq_eq_false_iff_ne.1 HX.out
              omega
            · exact hno.out j (by omega) c hc
      · have hnx : ∀ ty, (Instr.next (.pointer (some ⟨w.heap.size, 0, none⟩)) true ty).run Tryd.prog wr = _ := fun ty => Lib.run_next_end_at wr w.heap.size s pos ty hit hps
        have HB2 := Lib.hid hbw
        clear hbw
        go_wp2
        go_ret
        refine ⟨ret_i64 ?_, HB2.out⟩
        rw [M.idxN_none]
        intro c hc
        obtain ⟨j, hj, rfl⟩ := List.mem_iff_getElem.1 hc
        have hj' : j < s.size := by simpa [M.bs] using hj
        exact hno.out j (by omega) _ (List.getElem?_eq_getElem hj)
  · go_enter Tryd.func106, Tryd.ntmps106
    go_wp2
    clear e1 e2 f1 f2
    go_loopg [] s.size (fun gf wx => ∃ pos : Nat, wx.heap[w.heap.size]? = some (.stringIter s pos) ∧ Below w.heap.size w wx ∧ Hid (∀ j, j < pos → ∀ c, (M.bs s)[j]? = some c → c.toNat ≠ r) ∧ pos ≤ s.size ∧ s.size ≤ pos + gf)
    case atStart => exact ⟨0, World.iter_heap w s 0, (Below.refl _ w).alloc (Nat.le_refl _) _, Lib.hid (fun j hj => absurd hj (by omega)), by omega, by omega⟩
    case round =>
      obtain ⟨pos, hit, hbw, hno, hle, hfu⟩ := hrel
      by_cases hps : pos < s.size
      · obtain ⟨g', rfl⟩ : ∃ g', gk = g' + 1 := ⟨gk - 1, by omega⟩
        have hnx : ∀ ty, (Instr.next (.pointer (some ⟨w.heap.size, 0, none⟩)) true ty).run Tryd.prog wr = _ := fun ty => Lib.run_next_any_at wr w.heap.size s pos ty hit hps
        rw [decode_ascii s pos hps (ascii_at HA.out pos hps)] at hnx
        have hit2 := Lib.iterAt_heap wr w.heap.size s pos (pos + 1) hit
        have hbw2 := Lib.below_iterAt hbw (k := w.heap.size) (Nat.le_refl _) s (pos + 1)
        obtain ⟨W, hWd⟩ : ∃ W, wr.iterAt w.heap.size s (pos + 1) = W := ⟨_, rfl⟩
        simp only [] at hnx
        rw [hWd] at hnx hit2 hbw2
        have HB2 := Lib.hid hbw2
        have HBY := Lib.hid (ascii_at HA.out pos hps)
        clear hbw hbw2 hit hWd
        go_wp2
        · have hx : ((s[pos].toNat : Int) == (r : Int)) = true := by assumption
          go_ret
          refine ⟨ret_i64 ?_, HB2.out⟩
          rw [M.idxN_at (k := pos) (M.bs_get s pos hps) (by have := beq_iff_eq.1 hx; omega) hno.out]
        · have hx : ((s[pos].toNat : Int) == (r : Int)) = false := by assumption
          have HX := Lib.hid hx
          clear hx
          go_roundg g'
          case measure => omega
          case rel =>
            refine ⟨pos + 1, hit2, HB2.out, Lib.hid (fun j hj c hc => ?_), hps, by omega⟩
            by_cases e : j = pos
            · subst e
              rw [M.bs_get s j hps] at hc
              obtain rfl := Option.some.inj hc
              have := beq_eq_false_iff_ne.1 HX.out
              omega
            · exact hno.out j (by omega) c hc
      · have hnx : ∀ ty, (Instr.next (.pointer (some ⟨w.heap.size, 0, none⟩)) true ty).run Tryd.prog wr = _ := fun ty => Lib.run_next_end_at wr w.heap.size s pos ty hit hps
        have HB2 := Lib.hid hbw
        clear hbw
        go_wp2
        go_ret
        refine ⟨ret_i64 ?_, HB2.out⟩
        rw [M.idxN_none]
        intro c hc
        obtain ⟨j, hj, rfl⟩ := List.mem_iff_getElem.1 hc
        have hj' : j < s.size := by simpa [M.bs] using hj
        exact hno.out j (by omega) _ (List.getElem?_eq_getElem hj)
  · go_enter Tryd.func106, Tryd.ntmps106
    go_wp2
    clear e1 e2 e3 f1 f2
    go_loopg [] s.size (fun gf wx => ∃ pos : Nat, wx.heap[w.heap.size]? = some (.stringIter s pos) ∧ Below w.heap.size w wx ∧ Hid (∀ j, j < pos → ∀ c, (M.bs s)[j]? = some c → c.toNat ≠ r) ∧ pos ≤ s.size ∧ s.size ≤ pos + gf)
    case atStart => exact ⟨0, World.iter_heap w s 0, (Below.refl _ w).alloc (Nat.le_refl _) _, Lib.hid (fun j hj => absurd hj (by omega)), by omega, by omega⟩
    case round =>
      obtain ⟨pos, hit, hbw, hno, hle, hfu⟩ := hrel
      by_cases hps : pos < s.size
      · obtain ⟨g', rfl⟩ : ∃ g', gk = g' + 1 := ⟨gk - 1, by omega⟩
        have hnx : ∀ ty, (Instr.next (.pointer (some ⟨w.heap.size, 0, none⟩)) true ty).run Tryd.prog wr = _ := fun ty => Lib.run_next_any_at wr w.heap.size s pos ty hit hps
        rw [decode_ascii s pos hps (ascii_at HA.out pos hps)] at hnx
        have hit2 := Lib.iterAt_heap wr w.heap.size s pos (pos + 1) hit
        have hbw2 := Lib.below_iterAt hbw (k := w.heap.size) (Nat.le_refl _) s (pos + 1)
        obtain ⟨W, hWd⟩ : ∃ W, wr.iterAt w.heap.size s (pos + 1) = W := ⟨_, rfl⟩
        simp only [] at hnx
        rw [hWd] at hnx hit2 hbw2
        have HB2 := Lib.hid hbw2
        have HBY := Lib.hid (ascii_at HA.out pos hps)
        clear hbw hbw2 hit hWd
        go_wp2
        · have hx : ((s[pos].toNat : Int) == (r : Int)) = true := by assumption
          go_ret
          refine ⟨ret_i64 ?_, HB2.out⟩
          rw [M.idxN_at (k := pos) (M.bs_get s pos hps) (by have := beq_iff_eq.1 hx; omega) hno.out]
        · have hx : ((s[pos].toNat : Int) == (r : Int)) = false := by assumption
          have HX := Lib.hid hx
          clear hx
          go_roundg g'
          case measure => omega
          case rel =>
            refine ⟨pos + 1, hit2, HB2.out, Lib.hid (fun j hj c hc => ?_), hps, by omega⟩
            by_cases e : j = pos
            · subst e
              rw [M.bs_get s j hps] at hc
              obtain rfl := Option.some.inj hc
              have := beq_eq_false_iff_ne.1 HX.out
              omega
            · exact hno.out j (by omega) c hc
      · have hnx : ∀ ty, (Instr.next (.pointer (some ⟨w.heap.size, 0, none⟩)) true ty).run Tryd.prog wr = _ := fun ty => Lib.run_next_end_at wr w.heap.size s pos ty hit hps
        have HB2 := Lib.hid hbw
        clear hbw
        go_wp2
        go_ret
        refine ⟨ret_i64 ?_, HB2.out⟩
        rw [M.idxN_none]
        intro c hc
        obtain ⟨j, hj, rfl⟩ := List.mem_iff_getElem.1 hc
        have hj' : j < s.size := by simpa [M.bs] using hj
        exact hno.out j (by omega) _ (List.getElem?_eq_getElem hj)
  · have k1 := of_decide_eq_true e2
    have HN := Lib.hid (show M.idxN r (M.bs s) = -1 from M.idxN_none fun c hc => by have := HA.out c hc; omega)
    clear k1
    go_enter Tryd.func106, Tryd.ntmps106
    go_wp2
    go_ret
    exact ⟨ret_i64 HN.out.symm, Below.refl _ _⟩


set_option maxRecDepth 100000 in
theorem zzContainsRune_any (s : ByteArray) (r : Nat) (w : World) (hs : s.size ≤ 140737488351232) (ha : Ascii (M.bs s)) (hr : r ≤ 1114111) :
    Calls Tryd.prog 100 #[.string s, .int .i32 (r : Int)] w fun e w' => e = .returned (.bool ((M.bs s).any fun c => c.toNat == r)) ∧ Below w.heap.size w w' := by
  rw [← M.idxN_nonneg]
  go_enter Tryd.func100, Tryd.ntmps100
  go_wp2_with ((go_at_call 106; refine (zzIndexRune_any s r _ hs ha hr).mono ?_; rintro e w1 ⟨rfl, hb⟩))
  go_ret
  exact ⟨rfl, by assumption⟩

/-- the bytes of l stand in comp -/
def M.only (comp l : M.Bs) : Bool := l.all fun c => comp.any fun d => d.toNat == c.toNat

set_option maxRecDepth 100000 in
theorem containsOnly1_any (comp : ByteArray) (g : Nat) (r : Nat) (w : World) (hs : comp.size ≤ 140737488351232) (ha : Ascii (M.bs comp)) (hr : r ≤ 1114111) (hc : w.cell? ⟨g, 0, none⟩ = some (.string comp)) :
    Calls Tryd.prog 99 #[.int .i32 (r : Int), .pointer (some ⟨g, 0, none⟩)] w fun e w' => e = .returned (.bool (!(M.bs comp).any fun c => c.toNat == r)) ∧ Below w.heap.size w w' := by
  go_enter Tryd.func99, Tryd.ntmps99
  go_wp2_with ((go_at_call 100; refine (zzContainsRune_any comp r _ hs ha hr).mono ?_; rintro e w1 ⟨rfl, hb⟩))
  go_ret
  exact ⟨rfl, by assumption⟩

theorem idxFrom_only (comp : M.Bs) (ha : Ascii comp) (s : ByteArray) : ∀ (f pos : Nat), s.size ≤ pos + f →
    (Lib.idxFuncFrom (fun r => !comp.any fun c => c.toNat == r) true s f pos == -1) = M.only comp ((M.bs s).drop pos)
  | 0, pos, h => by
    rw [List.drop_of_length_le (by rw [M.bs_length]; omega)]
    rfl
  | f + 1, pos, h => by
    unfold Lib.idxFuncFrom
    by_cases hp : pos < s.size
    · rw [if_pos hp]
      have hd : (M.bs s).drop pos = s[pos] :: (M.bs s).drop (pos + 1) := by
        rw [List.drop_eq_getElem_cons (by rw [M.bs_length]; exact hp)]
        rfl
      rw [hd]
      unfold M.only
      rw [List.all_cons]
      by_cases h128 : (s[pos]'hp).toNat < 128
      · rw [decode_ascii s pos hp h128]
        simp only []
        cases hc : comp.any fun c => c.toNat == s[pos].toNat with
        | true =>
          rw [if_neg (by simp), Bool.true_and]
          exact idxFrom_only comp ha s f (pos + 1) (by omega)
        | false =>
          rw [if_pos (by simp), Bool.false_and]
          simp
      · have hd1 := (decode_high s pos hp (by omega)).1
        have hn : ∀ n, 128 ≤ n → (comp.any fun c => c.toNat == n) = false := fun n hn => by
          rw [List.any_eq_false]
          intro c hc
          have := ha c hc
          simp
          omega
        rw [hn _ hd1, hn _ (by omega), if_pos (by simp), Bool.false_and]
        simp
    · rw [if_neg hp, List.drop_of_length_le (by rw [M.bs_length]; omega)]
      rfl

theorem callOnly1 : ∀ args w, (callFunc 99 args).run Tryd.prog w = .ok (.enter 99 args) w :=
  enters_of Tryd.func99 (by kernel_rfl) rfl

set_option maxRecDepth 100000 in
theorem containsOnly_any (s comp : ByteArray) (w : World) (hs : comp.size ≤ 140737488351232) (ha : Ascii (M.bs comp)) :
    Calls Tryd.prog 90 #[.string s, .string comp] w fun e w' => e = .returned (.bool (M.only (M.bs comp) (M.bs s))) ∧ Below w.heap.size w w' := by
  have hp : PredGrows Tryd.prog 99 #[.pointer (some ⟨w.heap.size, 0, none⟩)] (fun r => !(M.bs comp).any fun c => c.toNat == r) (w.alloc (.cells #[.string comp] 9)) := by
    intro W x hx hb
    refine containsOnly1_any comp w.heap.size x W hs ha hx ?_
    rw [hb.cell (p := ⟨w.heap.size, 0, none⟩) (by simp)]
    go_simp
  have HP := Lib.hid hp
  clear hp
  go_enter Tryd.func90, Tryd.ntmps90
  go_wp2_with ((go_at_call 98; refine (Tryd.strings_IndexFunc_grows _ _ callOnly1 _ s _ HP.out).mono ?_; rintro e w1 ⟨rfl, hb⟩))
  go_ret
  refine ⟨ret_bool ?_, (((Below.refl _ _).alloc (Nat.le_refl _) _).trans (Below.mono ‹Below _ _ _› (by simp)))⟩
  have h1 := idxFrom_only (M.bs comp) ha s s.size 0 (by omega)
  rw [List.drop_zero] at h1
  exact h1
end Go.Proofs.YtopaileliohpdaaDoor
