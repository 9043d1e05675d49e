/-
  laws.FnSemverStrictNumbers returns true for all texts.
-/
import Derived.Test.YtopaileliohpdaaDoorStrictV
import Derived.Test.YtopaileliohpdaaDoorIncLaw
import Derived.Deep.DeepCutAuto
namespace Go.Proofs.YtopaileliohpdaaDoor
open Go.RowKit
set_option maxRecDepth 100000
set_option linter.unusedVariables false

namespace M
/-- no dot, hyphen or plus sign -/
def clean (p : Bs) : Prop := ∀ c ∈ p, c ≠ 46 ∧ c ≠ 45 ∧ c ≠ 43
def good1 (p : Bs) : Bool := fits p && (decide (p.length = 1) || !(p.head? == some 48))
def numv (p : Bs) : Nat := if fits p then val p else 0
theorem clean_has {p : Bs} (h : clean p) : has 43 p = false ∧ has 45 p = false := by
  unfold has
  rw [idx_none fun c hc => (h c hc).2.2, idx_none fun c hc => (h c hc).2.1]
  exact ⟨rfl, rfl⟩
theorem idx_joined {x : UInt8} {p q : Bs} (h : ∀ c ∈ p, c ≠ x) : idx x (p ++ x :: q) = p.length := by
  refine idx_at (by simp) fun j hj c hc => ?_
  rw [List.getElem?_append_left hj] at hc
  exact h c (List.mem_of_getElem? hc)
theorem splitN_joined {x : UInt8} {p q : Bs} (r : Nat) (h : ∀ c ∈ p, c ≠ x) : splitN x (r + 1) (p ++ x :: q) = p :: splitN x r q := by
  rw [splitN_step (idx_joined h)]
  simp
theorem split_numbers {a b c : Bs} (ha : clean a) (hb : clean b) (hc : clean c) : splitN 46 2 (a ++ 46 :: (b ++ 46 :: c)) = [a, b, c] := by
  rw [splitN_joined 1 fun c hc => (ha c hc).1, splitN_joined 0 fun c hc => (hb c hc).1]
  rfl
theorem fits_all {p : Bs} (h : fits p = true) : p.all isDig = true ∧ p ≠ [] := by
  unfold fits digits at h
  rw [Bool.and_eq_true, Bool.and_eq_true] at h
  exact ⟨h.1.2, by intro e; rw [e] at h; simp at h⟩
theorem good1_iff (p : Bs) : good1 p = (numOk p && fits p) := by
  unfold good1 numOk
  cases hf : fits p with
  | false => simp
  | true =>
    obtain ⟨h1, h2⟩ := fits_all hf
    rw [h1]
    simp only [Bool.true_and, Bool.and_true]
    rcases hh : p.head? == some 48 with _ | _
    · simp
    · simp only [Bool.not_true, Bool.or_false, Bool.and_true]
      have : p.length ≠ 0 := by intro e; exact h2 (List.length_eq_zero_iff.1 e)
      by_cases hl : p.length = 1
      · simp [hl]
      · have h3 : 1 < p.length := by omega
        simp [hl, h3]
theorem strict_numbers {a b c : Bs} (ha : clean a) (hb : clean b) (hc : clean c) (hl : (a ++ 46 :: (b ++ 46 :: c)).length ≤ 256) :
    strict (a ++ 46 :: (b ++ 46 :: c)) = if [a, b, c].all good1 then some ⟨val a, val b, val c, toB [], toB []⟩ else none := by
  rw [strict_three (by simp) hl (split_numbers ha hb hc)]
  obtain ⟨h1, h2⟩ := clean_has hc
  have e1 : noMeta c = c := by unfold noMeta; rw [h1]; rfl
  have e2 : metaOf c = [] := by unfold metaOf; rw [h1]; rfl
  have e3 : noPre c = c := by unfold noPre; rw [h2]; rfl
  have e4 : preOf c = [] := by unfold preOf; rw [h2]; rfl
  unfold strictParts
  rw [e1, h1, h2, e2, e3, e4]
  simp only [Bool.false_and, Bool.false_eq_true, if_false]
  unfold strictNums
  have : [a, b, c].all good1 = (numOk a && (numOk b && numOk c) && (fits a && (fits b && fits c))) := by
    simp only [List.all_cons, List.all_nil, Bool.and_true, good1_iff]
    cases numOk a <;> cases numOk b <;> cases numOk c <;> cases fits a <;> cases fits b <;> cases fits c <;> rfl
  rw [this]
theorem strict_zero : strict [48, 46, 48, 46, 48] = some ⟨0, 0, 0, toB [], toB []⟩ := by
  have e : ([48, 46, 48, 46, 48] : Bs) = [48] ++ 46 :: ([48] ++ 46 :: [48]) := rfl
  have k : clean [48] := by intro c hc; simp at hc; subst hc; decide
  rw [e, strict_numbers k k k (by decide)]
  have : [([48] : Bs), [48], [48]].all good1 = true := by decide +kernel
  rw [this]
  rfl
end M
theorem bs_join3 (a b c : ByteArray) : M.bs (joinB [a, b, c] 3) = M.bs a ++ 46 :: (M.bs b ++ 46 :: M.bs c) := by
  have e : M.bs (⟨#[46]⟩ : ByteArray) = [46] := rfl
  have e0 : M.bs (⟨#[]⟩ : ByteArray) = [] := rfl
  have ap : ∀ a b : ByteArray, M.bs (a ++ b) = M.bs a ++ M.bs b := fun a b => by simp [M.bs, ByteArray.data_append]
  simp [joinB, ap, e, e0]
/-- the array of the numbers -/
def AtN (w : World) (M' : Nat) (x y z : Nat) : Prop := w.heap[M']? = some (.cells #[.int .u64 x, .int .u64 y, .int .u64 z] 51 (0, 0))
theorem AtN.cells {w : World} {N x y z : Nat} (h : AtN w N x y z) : w.cell? ⟨N, 0, none⟩ = some (.int .u64 x) ∧ w.cell? ⟨N, 1, none⟩ = some (.int .u64 y) ∧ w.cell? ⟨N, 2, none⟩ = some (.int .u64 z) := by
  unfold AtN at h
  refine ⟨?_, ?_, ?_⟩ <;> (rw [cell_of_row w N _ _ _ _ h]; rfl)
theorem AtN.loose {w : World} {N x y z : Nat} (h : AtN w N x y z) (j : Nat) : w.frozen? ⟨N, j, none⟩ = false := by
  unfold AtN at h
  simp [World.frozen?, h]
theorem AtN.below {w w' : World} {N x y z : Nat} (h : AtN w N x y z) (b : Below w.heap.size w w') : AtN w' N x y z := by
  have hlt : N < w.heap.size := by
    rcases Nat.lt_or_ge N w.heap.size with h' | h'
    · exact h'
    · unfold AtN at h; rw [Array.getElem?_eq_none h'] at h; cases h
  unfold AtN; rw [b.block N hlt]; exact h
theorem ReadS.three (w : World) (t : TypeId) (a b c : ByteArray) : ReadS (w.alloc (.cells #[.string a, .string b, .string c] t)) (.slice (some ⟨w.heap.size, 0, none⟩) 3 3) [a, b, c] := by
  refine ⟨some ⟨w.heap.size, 0, none⟩, 3, rfl, fun i hi => ⟨w.heap.size, 0, rfl, by simp, ?_⟩⟩
  have hi3 : i < 3 := hi
  obtain rfl | rfl | rfl : i = 0 ∨ i = 1 ∨ i = 2 := by omega
  all_goals go_simp
theorem join3_at (n : Nat) (w : World) (t : TypeId) (a b c : ByteArray) (hn : n = w.heap.size) (h : a.size ≤ 2147483647 ∧ b.size ≤ 2147483647 ∧ c.size ≤ 2147483647) :
    Calls Tryd.prog 35 #[.slice (some ⟨n, 0, none⟩) 3 3] (w.alloc (.cells #[.string a, .string b, .string c] t)) fun e w' => e = .returned (.string (joinB [a, b, c] 3)) ∧ w' = w.alloc (.cells #[.string a, .string b, .string c] t) := by
  subst hn
  exact join_any _ [a, b, c] _ (ReadS.three w t a b c) (by simp) (by simp; omega)
theorem number_yes (s : ByteArray) (w : World) (hs : s.size ≤ 140737488351232) (hf : Hid (M.fits (M.bs s) = true)) :
    Calls Tryd.prog 36 #[.string s] w fun e w' => e = .returned (.tuple #[.int .u64 (M.val (M.bs s) : Nat), .bool true]) ∧ w' = w := by
  have := number_any s w hs
  rw [numRes_ok hf.out] at this
  exact this
theorem number_no (s : ByteArray) (w : World) (hs : s.size ≤ 140737488351232) (hf : Hid (M.fits (M.bs s) = false)) :
    Calls Tryd.prog 36 #[.string s] w fun e w' => e = .returned (.tuple #[.int .u64 0, .bool false]) ∧ w' = w := by
  have := number_any s w hs
  rw [numRes_bad hf.out] at this
  exact this
def nv (L : List M.Bs) (j k : Nat) : Nat := if j < k then M.numv (L[j]?.getD []) else 0
/-- what the loop over the three texts keeps -/
structure NumSt (A B C : M.Bs) (M' : Nat) (W wr : World) (k : Nat) : Prop where
  clean : ∀ p ∈ [A, B, C].take k, M.clean p
  arr : AtN wr M' (nv [A, B, C] 0 k) (nv [A, B, C] 1 k) (nv [A, B, C] 2 k)
  bel : Below M' W wr
theorem AtN.set {w : World} {N x y z : Nat} (h : AtN w N x y z) (k v : Nat) (hk : k < 3) : AtN (w.setCell ⟨N, k, none⟩ (.int .u64 v)) N (if k = 0 then v else x) (if k = 1 then v else y) (if k = 2 then v else z) := by
  have h1 := heap_setCell_same w N k _ _ (.int .u64 v) h
  unfold AtN
  rw [h1]
  obtain rfl | rfl | rfl : k = 0 ∨ k = 1 ∨ k = 2 := by omega
  all_goals simp
theorem NumSt.step {A B C : M.Bs} {M' : Nat} {W wr : World} {k v : Nat} {q : M.Bs} (h : NumSt A B C M' W wr k) (hk : k < 3) (hq : [A, B, C][k]? = some q) (hc : M.clean q) (hv : v = M.numv q) : NumSt A B C M' W (wr.setCell ⟨M', k, none⟩ (.int .u64 v)) (k + 1) := by
  refine ⟨?_, ?_, h.bel.setCell (Nat.le_refl _) _⟩
  · rw [List.take_add_one, hq]
    intro p hp
    rcases List.mem_append.1 hp with hp | hp
    · exact h.clean p hp
    · simp at hp; rw [hp]; exact hc
  · have h1 := h.arr.set k v hk
    obtain rfl | rfl | rfl : k = 0 ∨ k = 1 ∨ k = 2 := by omega
    all_goals
      simp at hq
      subst hq
      simpa [nv, hv] using h1
theorem NumSt.drew {A B C : M.Bs} {M' : Nat} {W wr : World} {k : Nat} (h : NumSt A B C M' W wr k) : NumSt A B C M' W wr.drew k := ⟨h.clean, h.arr, h.bel.drew⟩
theorem AtN.at {w : World} {N x y z k : Nat} (h : AtN w N x y z) (hk : k < 3) : ∃ u : Value, w.cell? ⟨N, k, none⟩ = some u := by
  obtain ⟨h0, h1, h2⟩ := h.cells
  obtain rfl | rfl | rfl : k = 0 ∨ k = 1 ∨ k = 2 := by omega
  all_goals first | exact ⟨_, h0⟩ | exact ⟨_, h1⟩ | exact ⟨_, h2⟩
theorem good_step {L : List M.Bs} {k : Nat} {q : M.Bs} (h : L[k]? = some q) : (L.take (k + 1)).all M.good1 = ((L.take k).all M.good1 && M.good1 q) := by
  rw [List.take_add_one, h, List.all_append]
  simp
theorem clean_of {s : ByteArray} {j : Nat} (hj : j = s.size) (h : ∀ d ∈ (M.bs s).take j, d ≠ 46 ∧ d ≠ 45 ∧ d ≠ 43) : M.clean (M.bs s) := by
  rw [hj, List.take_of_length_le (by rw [M.bs_length]; exact Nat.le_refl _)] at h
  exact h
theorem clean_on {s : ByteArray} {j : Nat} (hj : j < s.size) (h : ∀ d ∈ (M.bs s).take j, d ≠ 46 ∧ d ≠ 45 ∧ d ≠ 43) (hn : s[j] ≠ 46 ∧ s[j] ≠ 45 ∧ s[j] ≠ 43) : ∀ d ∈ (M.bs s).take (j + 1), d ≠ 46 ∧ d ≠ 45 ∧ d ≠ 43 := by
  rw [digits_loop s j hj]
  intro d hd
  rcases List.mem_append.1 hd with hd | hd
  · exact h d hd
  · simp at hd; rw [hd]; exact hn
theorem good1_no {q : M.Bs} (h : M.fits q = false) : M.good1 q = false := by unfold M.good1; rw [h]; rfl
theorem good1_one {q : ByteArray} (h : M.fits (M.bs q) = true) (hl : q.size = 1) : M.good1 (M.bs q) = true := by unfold M.good1; rw [h, M.bs_length, decide_eq_true hl]; rfl
theorem good1_more {q : ByteArray} (h : M.fits (M.bs q) = true) (hl : ¬ q.size = 1) (h0 : 0 < q.size) : M.good1 (M.bs q) = (((q[0]'h0).toNat : Int) != 48) := by
  unfold M.good1
  rw [h, M.bs_length, decide_eq_false hl, head_eq q h0]
  simp only [Bool.true_and, Bool.false_or]
  rcases hb : (((q[0]'h0).toNat : Int) == 48) with _ | _
  · have h1 := byte_ne 48 rfl hb
    simp [bne, hb, h1]
  · have h1 := byte_eq 48 rfl hb
    rw [h1]
    rfl
theorem fits_pos {q : ByteArray} (h : M.fits (M.bs q) = true) : 0 < q.size := by
  have := (M.fits_all h).2
  rcases Nat.eq_zero_or_pos q.size with h0 | h0
  · exact absurd (List.length_eq_zero_iff.1 (by rw [M.bs_length]; exact h0)) this
  · exact h0
set_option maxHeartbeats 4000000 in
theorem strictNumbers_law (a b c : ByteArray) (w : World) (h : SErrs w) (z1 : a.size ≤ 140737488351232) (z2 : b.size ≤ 140737488351232) (z3 : c.size ≤ 140737488351232) :
    Calls Tryd.prog 9 #[.string a, .string b, .string c] w fun e w' => e = .returned (.bool true) ∧ Below w.heap.size w w' := by
  have HE := Lib.hid h
  clear h
  by_cases hz : a.size ≤ 2147483647 ∧ b.size ≤ 2147483647 ∧ c.size ≤ 2147483647
  case neg =>
    have HH : Hid (¬ (a.size ≤ 2147483647 ∧ b.size ≤ 2147483647 ∧ c.size ≤ 2147483647)) := Lib.hid hz
    by_cases y1 : (2147483647 : Int) < a.size
    · go_enter Tryd.func9, Tryd.ntmps9
      go_wp2_with fail
      go_ret
      exact ⟨rfl, Below.refl _ _⟩
    by_cases y2 : (2147483647 : Int) < b.size
    · go_enter Tryd.func9, Tryd.ntmps9
      go_wp2_with fail
      go_ret
      exact ⟨rfl, Below.refl _ _⟩
    have y3 : (2147483647 : Int) < c.size := by omega
    clear hz
    go_enter Tryd.func9, Tryd.ntmps9
    go_wp2_with fail
    go_ret
    exact ⟨rfl, Below.refl _ _⟩
  have y1 : (a.size : Int) ≤ 2147483647 := by omega
  have y2 : (b.size : Int) ≤ 2147483647 := by omega
  have y3 : (c.size : Int) ≤ 2147483647 := by omega
  have HZ := Lib.hid hz
  clear hz
  have hjs := joinB_size [a, b, c] (by have := HZ.out; simp; omega) 3
  by_cases hl : 256 < (joinB [a, b, c] 3).size
  · have hl9 : (256 : Int) < (joinB [a, b, c] 3).size := by omega
    go_enter Tryd.func9, Tryd.ntmps9
    go_wp2_with (go_at_call 35; (with_reducible refine (join3_at _ _ _ a b c rfl HZ.out).mono ?_); rintro e w' ⟨rfl, rfl⟩)
    go_ret
    exact ⟨rfl, by (repeat (first | exact Below.refl _ _ | apply Below.drew | (apply below_alloc_on (Nat.le_refl _))))⟩
  have hl9 : ((joinB [a, b, c] 3).size : Int) ≤ 256 := by omega
  have HL := Lib.hid (show (M.bs a ++ 46 :: (M.bs b ++ 46 :: M.bs c)).length ≤ 256 by rw [← bs_join3, M.bs_length]; omega)
  have HJZ := Lib.hid (show (joinB [a, b, c] 3).size ≤ 2147483647 by omega)
  clear hjs hl
  go_enter Tryd.func9, Tryd.ntmps9
  go_wp2_with (go_at_call 35; (with_reducible refine (join3_at _ _ _ a b c rfl HZ.out).mono ?_); rintro e w' ⟨rfl, rfl⟩)
  have RS : Hid (∀ k q, [a, b, c][k]? = some q → ((w.alloc (.cells #[.string a, .string b, .string c] 9)).alloc (.cells #[.int .u64 0, .int .u64 0, .int .u64 0] 51)).cell? ⟨w.heap.size, k, none⟩ = some (.string q)) := Lib.hid (fun k q hq => by
    refine cell_alloc_some ?_
    have hk : k < 3 := by have := (List.getElem?_eq_some_iff.1 hq).1; simpa using this
    obtain rfl | rfl | rfl : k = 0 ∨ k = 1 ∨ k = 2 := by omega
    all_goals
      simp at hq
      subst hq
      go_simp)
  have AN : Hid (AtN ((w.alloc (.cells #[.string a, .string b, .string c] 9)).alloc (.cells #[.int .u64 0, .int .u64 0, .int .u64 0] 51)) (w.heap.size + 1) 0 0 0) := Lib.hid (alloc_at _ _ _ (by simp))
  have HB : Hid (Below w.heap.size w ((w.alloc (.cells #[.string a, .string b, .string c] 9)).alloc (.cells #[.int .u64 0, .int .u64 0, .int .u64 0] 51))) := Lib.hid (by (repeat (first | exact Below.refl _ _ | apply Below.drew | (apply below_alloc_on (Nat.le_refl _)))))
  have HSZ : Hid (w.heap.size + 1 < ((w.alloc (.cells #[.string a, .string b, .string c] 9)).alloc (.cells #[.int .u64 0, .int .u64 0, .int .u64 0] 51)).heap.size) := Lib.hid (by simp)
  generalize ((w.alloc (.cells #[.string a, .string b, .string c] 9)).alloc (.cells #[.int .u64 0, .int .u64 0, .int .u64 0] 51)) = W2 at *
  go_loopw [10, 44] (fun gd i wr => ∃ k : Nat, k ≤ 3 ∧ i = .int .i64 k ∧ gd = .bool (([M.bs a, M.bs b, M.bs c].take k).all M.good1) ∧ Hid (NumSt (M.bs a) (M.bs b) (M.bs c) (w.heap.size + 1) W2 wr k)) (fun _ i _ => 3 - (intOf i).toNat)
  case atStart => exact ⟨0, Nat.zero_le _, rfl, rfl, Lib.hid ⟨by simp, AN.out, Below.refl _ _⟩⟩
  case round =>
    obtain ⟨k, hk, rfl, rfl, HI⟩ := hrel
    rcases Nat.lt_or_ge k 3 with hlt | hlt
    · obtain ⟨q, hq⟩ := three_at (a := a) (b := b) (c := c) hlt
      have cq : wr.cell? ⟨w.heap.size, k, none⟩ = some (.string q) := (HI.out.bel.cell (p := ⟨w.heap.size, k, none⟩) (Nat.lt_succ_self _)).trans (RS.out k q hq)
      have zq : q.size ≤ 2147483647 := three_size hq HZ.out.1 HZ.out.2.1 HZ.out.2.2
      have HQ := Lib.hid (three_map hq)
      clear hq
      generalize hgd : ([M.bs a, M.bs b, M.bs c].take k).all M.good1 = gd
      have HGD := Lib.hid hgd
      clear hgd
      go_wp2_with fail
      go_loop [13] (fun i => ∃ j : Nat, j ≤ q.size ∧ i = .int .i64 j ∧ Hid (∀ d ∈ (M.bs q).take j, d ≠ 46 ∧ d ≠ 45 ∧ d ≠ 43)) (fun i => q.size - (intOf i).toNat)
      case atStart => exact ⟨0, Nat.zero_le _, rfl, Lib.hid (by simp)⟩
      case round =>
        obtain ⟨j, hj, rfl, HC⟩ := hrel
        by_cases hjl : j < q.size
        · by_cases h46 : ((q[j].toNat : Int) == 46) = true
          · go_wp2
            go_ret
            exact ⟨rfl, HB.out.trans (HI.out.bel.mono (Nat.le_succ _))⟩
          by_cases h45 : ((q[j].toNat : Int) == 45) = true
          · rw [Bool.not_eq_true] at h46
            go_wp2
            go_ret
            exact ⟨rfl, HB.out.trans (HI.out.bel.mono (Nat.le_succ _))⟩
          by_cases h43 : ((q[j].toNat : Int) == 43) = true
          · rw [Bool.not_eq_true] at h46 h45
            go_wp2
            go_ret
            exact ⟨rfl, HB.out.trans (HI.out.bel.mono (Nat.le_succ _))⟩
          rw [Bool.not_eq_true] at h46 h45 h43
          have HN := Lib.hid (And.intro (byte_ne 46 rfl h46) (And.intro (byte_ne 45 rfl h45) (byte_ne 43 rfl h43)))
          go_wp2
          go_round
          case rel => exact ⟨j + 1, hjl, by go_num, Lib.hid (clean_on hjl HC.out HN.out)⟩
          case measure => simp [intOf]; omega
        · have HCL := Lib.hid (clean_of (show j = q.size by omega) HC.out)
          obtain ⟨u, cu⟩ := HI.out.arr.at hlt
          have lu := HI.out.arr.loose k
          have kb : (k : Int) < 3 := by omega
          rcases hf : M.fits (M.bs q) with _ | _
          · have HF := Lib.hid hf
            have HV := Lib.hid (show 0 = M.numv (M.bs q) by unfold M.numv; rw [hf]; rfl)
            clear hf
            go_wp2_with (go_at_call 36; (with_reducible refine (number_no q _ (by omega) HF).mono ?_); rintro e w' ⟨rfl, rfl⟩)
            rcases gd with _ | _
            · refine wp_region_held_drew (S := (fun _ => True)) (by kernel_rfl) ?_ (fun hHeld => ?_)
              · ((try dsimp only); all_goals trivial)
              refine wpAnyH_take (i := 0) (v := ?_) rfl (by kernel_rfl) (by kernel_rfl) (by kernel_rfl) (fun _ _ _ h => h) (Or.inl ⟨by kernel_rfl, ?_⟩) (by assumption) ?_
              rotate_left
              · (intro w hSw; (try dsimp only at hSw); go_simp <;> with_reducible rfl)
              try (simp only [Act.put]; (try simp only [List.setIfInBounds_toArray]); (try simp only [List.set_cons_succ]); (try simp only [List.set_cons_zero]))
              refine wpAnyH_take (i := 1) (v := ?_) rfl (by kernel_rfl) (by kernel_rfl) (by kernel_rfl) (fun _ _ _ h => h) (Or.inl ⟨by kernel_rfl, ?_⟩) (by assumption) ?_
              rotate_left
              · (intro w hSw; (try dsimp only at hSw); go_simp <;> with_reducible rfl)
              try (simp only [Act.put]; (try simp only [List.setIfInBounds_toArray]); (try simp only [List.set_cons_succ]); (try simp only [List.set_cons_zero]))
              refine wpAnyH_take (i := 2) (v := ?_) rfl (by kernel_rfl) (by kernel_rfl) (by kernel_rfl) (fun _ _ _ h => h) (Or.inl ⟨by kernel_rfl, ?_⟩) (by assumption) ?_
              rotate_left
              · (intro w hSw; (try dsimp only at hSw); go_simp <;> with_reducible rfl)
              try (simp only [Act.put]; (try simp only [List.setIfInBounds_toArray]); (try simp only [List.set_cons_succ]); (try simp only [List.set_cons_zero]))
              refine wpAnyH_take (i := 3) (v := ?_) rfl (by kernel_rfl) (by kernel_rfl) (by kernel_rfl) (fun _ _ _ h => h) (Or.inl ⟨by kernel_rfl, ?_⟩) (by assumption) ?_
              rotate_left
              · (intro w hSw; (try dsimp only at hSw); go_simp <;> with_reducible rfl)
              try (simp only [Act.put]; (try simp only [List.setIfInBounds_toArray]); (try simp only [List.set_cons_succ]); (try simp only [List.set_cons_zero]))
              refine wpAnyH_take (i := 4) (v := undef) rfl (by kernel_rfl) (by kernel_rfl) (by kernel_rfl) (fun _ _ _ h => h) (Or.inr ⟨by kernel_rfl, Eq.refl undef⟩) (by assumption) ?_
              try (simp only [Act.put]; (try simp only [List.setIfInBounds_toArray]); (try simp only [List.set_cons_succ]); (try simp only [List.set_cons_zero]))
              refine wpAnyH_take (i := 5) (v := ?_) rfl (by kernel_rfl) (by kernel_rfl) (by kernel_rfl) (fun _ _ _ h => h) (Or.inl ⟨by kernel_rfl, ?_⟩) (by assumption) ?_
              rotate_left
              · (intro w hSw; (try dsimp only at hSw); go_simp <;> with_reducible rfl)
              try (simp only [Act.put]; (try simp only [List.setIfInBounds_toArray]); (try simp only [List.set_cons_succ]); (try simp only [List.set_cons_zero]))
              refine wpAnyH_take (i := 6) (v := ?_) rfl (by kernel_rfl) (by kernel_rfl) (by kernel_rfl) (fun _ _ _ h => h) (Or.inl ⟨by kernel_rfl, ?_⟩) (by assumption) ?_
              rotate_left
              · (intro w hSw; (try dsimp only at hSw); go_simp <;> with_reducible rfl)
              try (simp only [Act.put]; (try simp only [List.setIfInBounds_toArray]); (try simp only [List.set_cons_succ]); (try simp only [List.set_cons_zero]))
              refine wpAnyH_take (i := 7) (v := undef) rfl (by kernel_rfl) (by kernel_rfl) (by kernel_rfl) (fun _ _ _ h => h) (Or.inr ⟨by kernel_rfl, Eq.refl undef⟩) (by assumption) ?_
              try (simp only [Act.put]; (try simp only [List.setIfInBounds_toArray]); (try simp only [List.set_cons_succ]); (try simp only [List.set_cons_zero]))
              refine wpAnyH_take (i := 8) (v := undef) rfl (by kernel_rfl) (by kernel_rfl) (by kernel_rfl) (fun _ _ _ h => h) (Or.inr ⟨by kernel_rfl, Eq.refl undef⟩) (by assumption) ?_
              try (simp only [Act.put]; (try simp only [List.setIfInBounds_toArray]); (try simp only [List.set_cons_succ]); (try simp only [List.set_cons_zero]))
              refine wpAnyH_take (i := 9) (v := undef) rfl (by kernel_rfl) (by kernel_rfl) (by kernel_rfl) (fun _ _ _ h => h) (Or.inr ⟨by kernel_rfl, Eq.refl undef⟩) (by assumption) ?_
              try (simp only [Act.put]; (try simp only [List.setIfInBounds_toArray]); (try simp only [List.set_cons_succ]); (try simp only [List.set_cons_zero]))
              refine wpAnyH_take (i := 10) (v := undef) rfl (by kernel_rfl) (by kernel_rfl) (by kernel_rfl) (fun _ _ _ h => h) (Or.inr ⟨by kernel_rfl, Eq.refl undef⟩) (by assumption) ?_
              try (simp only [Act.put]; (try simp only [List.setIfInBounds_toArray]); (try simp only [List.set_cons_succ]); (try simp only [List.set_cons_zero]))
              refine wpAnyH_take (i := 11) (v := undef) rfl (by kernel_rfl) (by kernel_rfl) (by kernel_rfl) (fun _ _ _ h => h) (Or.inr ⟨by kernel_rfl, Eq.refl undef⟩) (by assumption) ?_
              try (simp only [Act.put]; (try simp only [List.setIfInBounds_toArray]); (try simp only [List.set_cons_succ]); (try simp only [List.set_cons_zero]))
              refine wpAnyH_take (i := 12) (v := undef) rfl (by kernel_rfl) (by kernel_rfl) (by kernel_rfl) (fun _ _ _ h => h) (Or.inr ⟨by kernel_rfl, Eq.refl undef⟩) (by assumption) ?_
              try (simp only [Act.put]; (try simp only [List.setIfInBounds_toArray]); (try simp only [List.set_cons_succ]); (try simp only [List.set_cons_zero]))
              refine wpAnyH_take (i := 13) (v := undef) rfl (by kernel_rfl) (by kernel_rfl) (by kernel_rfl) (fun _ _ _ h => h) (Or.inr ⟨by kernel_rfl, Eq.refl undef⟩) (by assumption) ?_
              try (simp only [Act.put]; (try simp only [List.setIfInBounds_toArray]); (try simp only [List.set_cons_succ]); (try simp only [List.set_cons_zero]))
              refine wpAnyH_take (i := 14) (v := undef) rfl (by kernel_rfl) (by kernel_rfl) (by kernel_rfl) (fun _ _ _ h => h) (Or.inr ⟨by kernel_rfl, Eq.refl undef⟩) (by assumption) ?_
              try (simp only [Act.put]; (try simp only [List.setIfInBounds_toArray]); (try simp only [List.set_cons_succ]); (try simp only [List.set_cons_zero]))
              refine wpAnyH_take (i := 15) (v := ?_) rfl (by kernel_rfl) (by kernel_rfl) (by kernel_rfl) (fun _ _ _ h => h) (Or.inl ⟨by kernel_rfl, ?_⟩) (by assumption) ?_
              rotate_left
              · (intro w hSw; (try dsimp only at hSw); go_simp <;> with_reducible rfl)
              try (simp only [Act.put]; (try simp only [List.setIfInBounds_toArray]); (try simp only [List.set_cons_succ]); (try simp only [List.set_cons_zero]))
              refine wpAnyH_take (i := 16) (v := ?_) rfl (by kernel_rfl) (by kernel_rfl) (by kernel_rfl) (fun _ _ _ h => h) (Or.inl ⟨by kernel_rfl, ?_⟩) (by assumption) ?_
              rotate_left
              · (intro w hSw; (try dsimp only at hSw); go_simp <;> with_reducible rfl)
              try (simp only [Act.put]; (try simp only [List.setIfInBounds_toArray]); (try simp only [List.set_cons_succ]); (try simp only [List.set_cons_zero]))
              refine wpAnyH_ready (rs := [17]) (by kernel_rfl) (by simp) ?_
              refine AllReadyH.cons rfl (fun K hK => ?_) AllReadyH.nil
              go_simp
              refine hK.out _ _ ?_ (fun hHeld => ?_)
              · ((try dsimp only); all_goals trivial)
              clear hK K
              try (simp only [Act.put]; (try simp only [List.setIfInBounds_toArray]); (try simp only [List.set_cons_succ]); (try simp only [List.set_cons_zero]))
              refine wpAnyH_ready (rs := [18]) (by kernel_rfl) (by simp) ?_
              refine AllReadyH.cons rfl (fun K hK => ?_) AllReadyH.nil
              go_simp
              refine hK.out _ _ ?_ (fun hHeld => ?_)
              · ((try dsimp only); all_goals trivial)
              clear hK K
              try (simp only [Act.put]; (try simp only [List.setIfInBounds_toArray]); (try simp only [List.set_cons_succ]); (try simp only [List.set_cons_zero]))
              refine wpAnyH_done (by kernel_rfl) ?_ _
              go_wp2
              go_roundw
              case rel => exact ⟨k + 1, hlt, by go_num, (by first | (rw [good_step HQ.out, HGD.out, good1_no HF.out]; done) | (rw [good_step HQ.out, HGD.out, good1_no HF.out]; rfl)), Lib.hid (NumSt.step (NumSt.drew HI.out) hlt HQ.out HCL.out HV.out)⟩
              case measure => simp [intOf]; omega
            · refine wp_region_held_drew (S := (fun _ => True)) (by kernel_rfl) ?_ (fun hHeld => ?_)
              · ((try dsimp only); all_goals trivial)
              refine wpAnyH_take (i := 0) (v := ?_) rfl (by kernel_rfl) (by kernel_rfl) (by kernel_rfl) (fun _ _ _ h => h) (Or.inl ⟨by kernel_rfl, ?_⟩) (by assumption) ?_
              rotate_left
              · (intro w hSw; (try dsimp only at hSw); go_simp <;> with_reducible rfl)
              try (simp only [Act.put]; (try simp only [List.setIfInBounds_toArray]); (try simp only [List.set_cons_succ]); (try simp only [List.set_cons_zero]))
              refine wpAnyH_take (i := 1) (v := ?_) rfl (by kernel_rfl) (by kernel_rfl) (by kernel_rfl) (fun _ _ _ h => h) (Or.inl ⟨by kernel_rfl, ?_⟩) (by assumption) ?_
              rotate_left
              · (intro w hSw; (try dsimp only at hSw); go_simp <;> with_reducible rfl)
              try (simp only [Act.put]; (try simp only [List.setIfInBounds_toArray]); (try simp only [List.set_cons_succ]); (try simp only [List.set_cons_zero]))
              refine wpAnyH_take (i := 2) (v := ?_) rfl (by kernel_rfl) (by kernel_rfl) (by kernel_rfl) (fun _ _ _ h => h) (Or.inl ⟨by kernel_rfl, ?_⟩) (by assumption) ?_
              rotate_left
              · (intro w hSw; (try dsimp only at hSw); go_simp <;> with_reducible rfl)
              try (simp only [Act.put]; (try simp only [List.setIfInBounds_toArray]); (try simp only [List.set_cons_succ]); (try simp only [List.set_cons_zero]))
              refine wpAnyH_take (i := 3) (v := ?_) rfl (by kernel_rfl) (by kernel_rfl) (by kernel_rfl) (fun _ _ _ h => h) (Or.inl ⟨by kernel_rfl, ?_⟩) (by assumption) ?_
              rotate_left
              · (intro w hSw; (try dsimp only at hSw); go_simp <;> with_reducible rfl)
              try (simp only [Act.put]; (try simp only [List.setIfInBounds_toArray]); (try simp only [List.set_cons_succ]); (try simp only [List.set_cons_zero]))
              refine wpAnyH_take (i := 4) (v := ?_) rfl (by kernel_rfl) (by kernel_rfl) (by kernel_rfl) (fun _ _ _ h => h) (Or.inl ⟨by kernel_rfl, ?_⟩) (by assumption) ?_
              rotate_left
              · (intro w hSw; (try dsimp only at hSw); go_simp <;> with_reducible rfl)
              try (simp only [Act.put]; (try simp only [List.setIfInBounds_toArray]); (try simp only [List.set_cons_succ]); (try simp only [List.set_cons_zero]))
              refine wpAnyH_take (i := 5) (v := ?_) rfl (by kernel_rfl) (by kernel_rfl) (by kernel_rfl) (fun _ _ _ h => h) (Or.inl ⟨by kernel_rfl, ?_⟩) (by assumption) ?_
              rotate_left
              · (intro w hSw; (try dsimp only at hSw); go_simp <;> with_reducible rfl)
              try (simp only [Act.put]; (try simp only [List.setIfInBounds_toArray]); (try simp only [List.set_cons_succ]); (try simp only [List.set_cons_zero]))
              refine wpAnyH_take (i := 6) (v := ?_) rfl (by kernel_rfl) (by kernel_rfl) (by kernel_rfl) (fun _ _ _ h => h) (Or.inl ⟨by kernel_rfl, ?_⟩) (by assumption) ?_
              rotate_left
              · (intro w hSw; (try dsimp only at hSw); go_simp <;> with_reducible rfl)
              try (simp only [Act.put]; (try simp only [List.setIfInBounds_toArray]); (try simp only [List.set_cons_succ]); (try simp only [List.set_cons_zero]))
              refine wpAnyH_take (i := 7) (v := undef) rfl (by kernel_rfl) (by kernel_rfl) (by kernel_rfl) (fun _ _ _ h => h) (Or.inr ⟨by kernel_rfl, Eq.refl undef⟩) (by assumption) ?_
              try (simp only [Act.put]; (try simp only [List.setIfInBounds_toArray]); (try simp only [List.set_cons_succ]); (try simp only [List.set_cons_zero]))
              refine wpAnyH_take (i := 8) (v := undef) rfl (by kernel_rfl) (by kernel_rfl) (by kernel_rfl) (fun _ _ _ h => h) (Or.inr ⟨by kernel_rfl, Eq.refl undef⟩) (by assumption) ?_
              try (simp only [Act.put]; (try simp only [List.setIfInBounds_toArray]); (try simp only [List.set_cons_succ]); (try simp only [List.set_cons_zero]))
              refine wpAnyH_take (i := 9) (v := undef) rfl (by kernel_rfl) (by kernel_rfl) (by kernel_rfl) (fun _ _ _ h => h) (Or.inr ⟨by kernel_rfl, Eq.refl undef⟩) (by assumption) ?_
              try (simp only [Act.put]; (try simp only [List.setIfInBounds_toArray]); (try simp only [List.set_cons_succ]); (try simp only [List.set_cons_zero]))
              refine wpAnyH_take (i := 10) (v := undef) rfl (by kernel_rfl) (by kernel_rfl) (by kernel_rfl) (fun _ _ _ h => h) (Or.inr ⟨by kernel_rfl, Eq.refl undef⟩) (by assumption) ?_
              try (simp only [Act.put]; (try simp only [List.setIfInBounds_toArray]); (try simp only [List.set_cons_succ]); (try simp only [List.set_cons_zero]))
              refine wpAnyH_take (i := 11) (v := undef) rfl (by kernel_rfl) (by kernel_rfl) (by kernel_rfl) (fun _ _ _ h => h) (Or.inr ⟨by kernel_rfl, Eq.refl undef⟩) (by assumption) ?_
              try (simp only [Act.put]; (try simp only [List.setIfInBounds_toArray]); (try simp only [List.set_cons_succ]); (try simp only [List.set_cons_zero]))
              refine wpAnyH_take (i := 12) (v := undef) rfl (by kernel_rfl) (by kernel_rfl) (by kernel_rfl) (fun _ _ _ h => h) (Or.inr ⟨by kernel_rfl, Eq.refl undef⟩) (by assumption) ?_
              try (simp only [Act.put]; (try simp only [List.setIfInBounds_toArray]); (try simp only [List.set_cons_succ]); (try simp only [List.set_cons_zero]))
              refine wpAnyH_take (i := 13) (v := undef) rfl (by kernel_rfl) (by kernel_rfl) (by kernel_rfl) (fun _ _ _ h => h) (Or.inr ⟨by kernel_rfl, Eq.refl undef⟩) (by assumption) ?_
              try (simp only [Act.put]; (try simp only [List.setIfInBounds_toArray]); (try simp only [List.set_cons_succ]); (try simp only [List.set_cons_zero]))
              refine wpAnyH_take (i := 14) (v := undef) rfl (by kernel_rfl) (by kernel_rfl) (by kernel_rfl) (fun _ _ _ h => h) (Or.inr ⟨by kernel_rfl, Eq.refl undef⟩) (by assumption) ?_
              try (simp only [Act.put]; (try simp only [List.setIfInBounds_toArray]); (try simp only [List.set_cons_succ]); (try simp only [List.set_cons_zero]))
              refine wpAnyH_take (i := 15) (v := ?_) rfl (by kernel_rfl) (by kernel_rfl) (by kernel_rfl) (fun _ _ _ h => h) (Or.inl ⟨by kernel_rfl, ?_⟩) (by assumption) ?_
              rotate_left
              · (intro w hSw; (try dsimp only at hSw); go_simp <;> with_reducible rfl)
              try (simp only [Act.put]; (try simp only [List.setIfInBounds_toArray]); (try simp only [List.set_cons_succ]); (try simp only [List.set_cons_zero]))
              refine wpAnyH_take (i := 16) (v := ?_) rfl (by kernel_rfl) (by kernel_rfl) (by kernel_rfl) (fun _ _ _ h => h) (Or.inl ⟨by kernel_rfl, ?_⟩) (by assumption) ?_
              rotate_left
              · (intro w hSw; (try dsimp only at hSw); go_simp <;> with_reducible rfl)
              try (simp only [Act.put]; (try simp only [List.setIfInBounds_toArray]); (try simp only [List.set_cons_succ]); (try simp only [List.set_cons_zero]))
              refine wpAnyH_ready (rs := [17]) (by kernel_rfl) (by simp) ?_
              refine AllReadyH.cons rfl (fun K hK => ?_) AllReadyH.nil
              go_simp
              refine hK.out _ _ ?_ (fun hHeld => ?_)
              · ((try dsimp only); all_goals trivial)
              clear hK K
              try (simp only [Act.put]; (try simp only [List.setIfInBounds_toArray]); (try simp only [List.set_cons_succ]); (try simp only [List.set_cons_zero]))
              refine wpAnyH_ready (rs := [18]) (by kernel_rfl) (by simp) ?_
              refine AllReadyH.cons rfl (fun K hK => ?_) AllReadyH.nil
              go_simp
              refine hK.out _ _ ?_ (fun hHeld => ?_)
              · ((try dsimp only); all_goals trivial)
              clear hK K
              try (simp only [Act.put]; (try simp only [List.setIfInBounds_toArray]); (try simp only [List.set_cons_succ]); (try simp only [List.set_cons_zero]))
              refine wpAnyH_done (by kernel_rfl) ?_ _
              go_wp2
              go_roundw
              case rel => exact ⟨k + 1, hlt, by go_num, (by first | (rw [good_step HQ.out, HGD.out, good1_no HF.out]; done) | (rw [good_step HQ.out, HGD.out, good1_no HF.out]; rfl)), Lib.hid (NumSt.step (NumSt.drew HI.out) hlt HQ.out HCL.out HV.out)⟩
              case measure => simp [intOf]; omega
          · have HF := Lib.hid hf
            have HV := Lib.hid (show M.val (M.bs q) = M.numv (M.bs q) by unfold M.numv; rw [hf]; rfl)
            have hq0 := fits_pos hf
            have hq0i : (0 : Int) < q.size := by omega
            clear hf
            go_wp2_with (go_at_call 36; (with_reducible refine (number_yes q _ (by omega) HF).mono ?_); rintro e w' ⟨rfl, rfl⟩)
            rcases gd with _ | _
            · refine wp_region_held_drew (S := (fun _ => True)) (by kernel_rfl) ?_ (fun hHeld => ?_)
              · ((try dsimp only); all_goals trivial)
              refine wpAnyH_take (i := 0) (v := ?_) rfl (by kernel_rfl) (by kernel_rfl) (by kernel_rfl) (fun _ _ _ h => h) (Or.inl ⟨by kernel_rfl, ?_⟩) (by assumption) ?_
              rotate_left
              · (intro w hSw; (try dsimp only at hSw); go_simp <;> with_reducible rfl)
              try (simp only [Act.put]; (try simp only [List.setIfInBounds_toArray]); (try simp only [List.set_cons_succ]); (try simp only [List.set_cons_zero]))
              refine wpAnyH_take (i := 1) (v := ?_) rfl (by kernel_rfl) (by kernel_rfl) (by kernel_rfl) (fun _ _ _ h => h) (Or.inl ⟨by kernel_rfl, ?_⟩) (by assumption) ?_
              rotate_left
              · (intro w hSw; (try dsimp only at hSw); go_simp <;> with_reducible rfl)
              try (simp only [Act.put]; (try simp only [List.setIfInBounds_toArray]); (try simp only [List.set_cons_succ]); (try simp only [List.set_cons_zero]))
              refine wpAnyH_take (i := 2) (v := ?_) rfl (by kernel_rfl) (by kernel_rfl) (by kernel_rfl) (fun _ _ _ h => h) (Or.inl ⟨by kernel_rfl, ?_⟩) (by assumption) ?_
              rotate_left
              · (intro w hSw; (try dsimp only at hSw); go_simp <;> with_reducible rfl)
              try (simp only [Act.put]; (try simp only [List.setIfInBounds_toArray]); (try simp only [List.set_cons_succ]); (try simp only [List.set_cons_zero]))
              refine wpAnyH_take (i := 3) (v := ?_) rfl (by kernel_rfl) (by kernel_rfl) (by kernel_rfl) (fun _ _ _ h => h) (Or.inl ⟨by kernel_rfl, ?_⟩) (by assumption) ?_
              rotate_left
              · (intro w hSw; (try dsimp only at hSw); go_simp <;> with_reducible rfl)
              try (simp only [Act.put]; (try simp only [List.setIfInBounds_toArray]); (try simp only [List.set_cons_succ]); (try simp only [List.set_cons_zero]))
              refine wpAnyH_take (i := 4) (v := undef) rfl (by kernel_rfl) (by kernel_rfl) (by kernel_rfl) (fun _ _ _ h => h) (Or.inr ⟨by kernel_rfl, Eq.refl undef⟩) (by assumption) ?_
              try (simp only [Act.put]; (try simp only [List.setIfInBounds_toArray]); (try simp only [List.set_cons_succ]); (try simp only [List.set_cons_zero]))
              refine wpAnyH_take (i := 5) (v := ?_) rfl (by kernel_rfl) (by kernel_rfl) (by kernel_rfl) (fun _ _ _ h => h) (Or.inl ⟨by kernel_rfl, ?_⟩) (by assumption) ?_
              rotate_left
              · (intro w hSw; (try dsimp only at hSw); go_simp <;> with_reducible rfl)
              try (simp only [Act.put]; (try simp only [List.setIfInBounds_toArray]); (try simp only [List.set_cons_succ]); (try simp only [List.set_cons_zero]))
              refine wpAnyH_take (i := 6) (v := ?_) rfl (by kernel_rfl) (by kernel_rfl) (by kernel_rfl) (fun _ _ _ h => h) (Or.inl ⟨by kernel_rfl, ?_⟩) (by assumption) ?_
              rotate_left
              · (intro w hSw; (try dsimp only at hSw); go_simp <;> with_reducible rfl)
              try (simp only [Act.put]; (try simp only [List.setIfInBounds_toArray]); (try simp only [List.set_cons_succ]); (try simp only [List.set_cons_zero]))
              refine wpAnyH_take (i := 7) (v := undef) rfl (by kernel_rfl) (by kernel_rfl) (by kernel_rfl) (fun _ _ _ h => h) (Or.inr ⟨by kernel_rfl, Eq.refl undef⟩) (by assumption) ?_
              try (simp only [Act.put]; (try simp only [List.setIfInBounds_toArray]); (try simp only [List.set_cons_succ]); (try simp only [List.set_cons_zero]))
              refine wpAnyH_take (i := 8) (v := undef) rfl (by kernel_rfl) (by kernel_rfl) (by kernel_rfl) (fun _ _ _ h => h) (Or.inr ⟨by kernel_rfl, Eq.refl undef⟩) (by assumption) ?_
              try (simp only [Act.put]; (try simp only [List.setIfInBounds_toArray]); (try simp only [List.set_cons_succ]); (try simp only [List.set_cons_zero]))
              refine wpAnyH_take (i := 9) (v := undef) rfl (by kernel_rfl) (by kernel_rfl) (by kernel_rfl) (fun _ _ _ h => h) (Or.inr ⟨by kernel_rfl, Eq.refl undef⟩) (by assumption) ?_
              try (simp only [Act.put]; (try simp only [List.setIfInBounds_toArray]); (try simp only [List.set_cons_succ]); (try simp only [List.set_cons_zero]))
              refine wpAnyH_take (i := 10) (v := undef) rfl (by kernel_rfl) (by kernel_rfl) (by kernel_rfl) (fun _ _ _ h => h) (Or.inr ⟨by kernel_rfl, Eq.refl undef⟩) (by assumption) ?_
              try (simp only [Act.put]; (try simp only [List.setIfInBounds_toArray]); (try simp only [List.set_cons_succ]); (try simp only [List.set_cons_zero]))
              refine wpAnyH_take (i := 11) (v := undef) rfl (by kernel_rfl) (by kernel_rfl) (by kernel_rfl) (fun _ _ _ h => h) (Or.inr ⟨by kernel_rfl, Eq.refl undef⟩) (by assumption) ?_
              try (simp only [Act.put]; (try simp only [List.setIfInBounds_toArray]); (try simp only [List.set_cons_succ]); (try simp only [List.set_cons_zero]))
              refine wpAnyH_take (i := 12) (v := undef) rfl (by kernel_rfl) (by kernel_rfl) (by kernel_rfl) (fun _ _ _ h => h) (Or.inr ⟨by kernel_rfl, Eq.refl undef⟩) (by assumption) ?_
              try (simp only [Act.put]; (try simp only [List.setIfInBounds_toArray]); (try simp only [List.set_cons_succ]); (try simp only [List.set_cons_zero]))
              refine wpAnyH_take (i := 13) (v := undef) rfl (by kernel_rfl) (by kernel_rfl) (by kernel_rfl) (fun _ _ _ h => h) (Or.inr ⟨by kernel_rfl, Eq.refl undef⟩) (by assumption) ?_
              try (simp only [Act.put]; (try simp only [List.setIfInBounds_toArray]); (try simp only [List.set_cons_succ]); (try simp only [List.set_cons_zero]))
              refine wpAnyH_take (i := 14) (v := undef) rfl (by kernel_rfl) (by kernel_rfl) (by kernel_rfl) (fun _ _ _ h => h) (Or.inr ⟨by kernel_rfl, Eq.refl undef⟩) (by assumption) ?_
              try (simp only [Act.put]; (try simp only [List.setIfInBounds_toArray]); (try simp only [List.set_cons_succ]); (try simp only [List.set_cons_zero]))
              refine wpAnyH_take (i := 15) (v := ?_) rfl (by kernel_rfl) (by kernel_rfl) (by kernel_rfl) (fun _ _ _ h => h) (Or.inl ⟨by kernel_rfl, ?_⟩) (by assumption) ?_
              rotate_left
              · (intro w hSw; (try dsimp only at hSw); go_simp <;> with_reducible rfl)
              try (simp only [Act.put]; (try simp only [List.setIfInBounds_toArray]); (try simp only [List.set_cons_succ]); (try simp only [List.set_cons_zero]))
              refine wpAnyH_take (i := 16) (v := ?_) rfl (by kernel_rfl) (by kernel_rfl) (by kernel_rfl) (fun _ _ _ h => h) (Or.inl ⟨by kernel_rfl, ?_⟩) (by assumption) ?_
              rotate_left
              · (intro w hSw; (try dsimp only at hSw); go_simp <;> with_reducible rfl)
              try (simp only [Act.put]; (try simp only [List.setIfInBounds_toArray]); (try simp only [List.set_cons_succ]); (try simp only [List.set_cons_zero]))
              refine wpAnyH_ready (rs := [17]) (by kernel_rfl) (by simp) ?_
              refine AllReadyH.cons rfl (fun K hK => ?_) AllReadyH.nil
              go_simp
              refine hK.out _ _ ?_ (fun hHeld => ?_)
              · ((try dsimp only); all_goals trivial)
              clear hK K
              try (simp only [Act.put]; (try simp only [List.setIfInBounds_toArray]); (try simp only [List.set_cons_succ]); (try simp only [List.set_cons_zero]))
              refine wpAnyH_ready (rs := [18]) (by kernel_rfl) (by simp) ?_
              refine AllReadyH.cons rfl (fun K hK => ?_) AllReadyH.nil
              go_simp
              refine hK.out _ _ ?_ (fun hHeld => ?_)
              · ((try dsimp only); all_goals trivial)
              clear hK K
              try (simp only [Act.put]; (try simp only [List.setIfInBounds_toArray]); (try simp only [List.set_cons_succ]); (try simp only [List.set_cons_zero]))
              refine wpAnyH_done (by kernel_rfl) ?_ _
              go_wp2
              go_roundw
              case rel => exact ⟨k + 1, hlt, by go_num, (by first | (rw [good_step HQ.out, HGD.out, Bool.false_and]; done) | (rw [good_step HQ.out, HGD.out, Bool.false_and]; rfl)), Lib.hid (NumSt.step (NumSt.drew HI.out) hlt HQ.out HCL.out HV.out)⟩
              case measure => simp [intOf]; omega
            · by_cases hl1 : q.size = 1
              · have HL1 := Lib.hid hl1
                have hb1 : ((q.size : Int) == 1) = true := by simp; omega
                clear hl1
                refine wp_region_held_drew (S := (fun _ => True)) (by kernel_rfl) ?_ (fun hHeld => ?_)
                · ((try dsimp only); all_goals trivial)
                refine wpAnyH_take (i := 0) (v := ?_) rfl (by kernel_rfl) (by kernel_rfl) (by kernel_rfl) (fun _ _ _ h => h) (Or.inl ⟨by kernel_rfl, ?_⟩) (by assumption) ?_
                rotate_left
                · (intro w hSw; (try dsimp only at hSw); go_simp <;> with_reducible rfl)
                try (simp only [Act.put]; (try simp only [List.setIfInBounds_toArray]); (try simp only [List.set_cons_succ]); (try simp only [List.set_cons_zero]))
                refine wpAnyH_take (i := 1) (v := ?_) rfl (by kernel_rfl) (by kernel_rfl) (by kernel_rfl) (fun _ _ _ h => h) (Or.inl ⟨by kernel_rfl, ?_⟩) (by assumption) ?_
                rotate_left
                · (intro w hSw; (try dsimp only at hSw); go_simp <;> with_reducible rfl)
                try (simp only [Act.put]; (try simp only [List.setIfInBounds_toArray]); (try simp only [List.set_cons_succ]); (try simp only [List.set_cons_zero]))
                refine wpAnyH_take (i := 2) (v := ?_) rfl (by kernel_rfl) (by kernel_rfl) (by kernel_rfl) (fun _ _ _ h => h) (Or.inl ⟨by kernel_rfl, ?_⟩) (by assumption) ?_
                rotate_left
                · (intro w hSw; (try dsimp only at hSw); go_simp <;> with_reducible rfl)
                try (simp only [Act.put]; (try simp only [List.setIfInBounds_toArray]); (try simp only [List.set_cons_succ]); (try simp only [List.set_cons_zero]))
                refine wpAnyH_take (i := 3) (v := ?_) rfl (by kernel_rfl) (by kernel_rfl) (by kernel_rfl) (fun _ _ _ h => h) (Or.inl ⟨by kernel_rfl, ?_⟩) (by assumption) ?_
                rotate_left
                · (intro w hSw; (try dsimp only at hSw); go_simp <;> with_reducible rfl)
                try (simp only [Act.put]; (try simp only [List.setIfInBounds_toArray]); (try simp only [List.set_cons_succ]); (try simp only [List.set_cons_zero]))
                refine wpAnyH_take (i := 4) (v := ?_) rfl (by kernel_rfl) (by kernel_rfl) (by kernel_rfl) (fun _ _ _ h => h) (Or.inl ⟨by kernel_rfl, ?_⟩) (by assumption) ?_
                rotate_left
                · (intro w hSw; (try dsimp only at hSw); go_simp <;> with_reducible rfl)
                try (simp only [Act.put]; (try simp only [List.setIfInBounds_toArray]); (try simp only [List.set_cons_succ]); (try simp only [List.set_cons_zero]))
                refine wpAnyH_take (i := 5) (v := ?_) rfl (by kernel_rfl) (by kernel_rfl) (by kernel_rfl) (fun _ _ _ h => h) (Or.inl ⟨by kernel_rfl, ?_⟩) (by assumption) ?_
                rotate_left
                · (intro w hSw; (try dsimp only at hSw); go_simp <;> with_reducible rfl)
                try (simp only [Act.put]; (try simp only [List.setIfInBounds_toArray]); (try simp only [List.set_cons_succ]); (try simp only [List.set_cons_zero]))
                refine wpAnyH_take (i := 6) (v := ?_) rfl (by kernel_rfl) (by kernel_rfl) (by kernel_rfl) (fun _ _ _ h => h) (Or.inl ⟨by kernel_rfl, ?_⟩) (by assumption) ?_
                rotate_left
                · (intro w hSw; (try dsimp only at hSw); go_simp <;> with_reducible rfl)
                try (simp only [Act.put]; (try simp only [List.setIfInBounds_toArray]); (try simp only [List.set_cons_succ]); (try simp only [List.set_cons_zero]))
                refine wpAnyH_take (i := 7) (v := ?_) rfl (by kernel_rfl) (by kernel_rfl) (by kernel_rfl) (fun _ _ _ h => h) (Or.inl ⟨by kernel_rfl, ?_⟩) (by assumption) ?_
                rotate_left
                · (intro w hSw; (try dsimp only at hSw); go_simp <;> with_reducible rfl)
                try (simp only [Act.put]; (try simp only [List.setIfInBounds_toArray]); (try simp only [List.set_cons_succ]); (try simp only [List.set_cons_zero]))
                refine wpAnyH_take (i := 8) (v := ?_) rfl (by kernel_rfl) (by kernel_rfl) (by kernel_rfl) (fun _ _ _ h => h) (Or.inl ⟨by kernel_rfl, ?_⟩) (by assumption) ?_
                rotate_left
                · (intro w hSw; (try dsimp only at hSw); go_simp <;> with_reducible rfl)
                try (simp only [Act.put]; (try simp only [List.setIfInBounds_toArray]); (try simp only [List.set_cons_succ]); (try simp only [List.set_cons_zero]))
                refine wpAnyH_take (i := 9) (v := ?_) rfl (by kernel_rfl) (by kernel_rfl) (by kernel_rfl) (fun _ _ _ h => h) (Or.inl ⟨by kernel_rfl, ?_⟩) (by assumption) ?_
                rotate_left
                · (intro w hSw; (try dsimp only at hSw); go_simp <;> with_reducible rfl)
                try (simp only [Act.put]; (try simp only [List.setIfInBounds_toArray]); (try simp only [List.set_cons_succ]); (try simp only [List.set_cons_zero]))
                refine wpAnyH_take (i := 10) (v := ?_) rfl (by kernel_rfl) (by kernel_rfl) (by kernel_rfl) (fun _ _ _ h => h) (Or.inl ⟨by kernel_rfl, ?_⟩) (by assumption) ?_
                rotate_left
                · (intro w hSw; (try dsimp only at hSw); go_simp <;> with_reducible rfl)
                try (simp only [Act.put]; (try simp only [List.setIfInBounds_toArray]); (try simp only [List.set_cons_succ]); (try simp only [List.set_cons_zero]))
                refine wpAnyH_take (i := 11) (v := undef) rfl (by kernel_rfl) (by kernel_rfl) (by kernel_rfl) (fun _ _ _ h => h) (Or.inr ⟨by kernel_rfl, Eq.refl undef⟩) (by assumption) ?_
                try (simp only [Act.put]; (try simp only [List.setIfInBounds_toArray]); (try simp only [List.set_cons_succ]); (try simp only [List.set_cons_zero]))
                refine wpAnyH_take (i := 12) (v := undef) rfl (by kernel_rfl) (by kernel_rfl) (by kernel_rfl) (fun _ _ _ h => h) (Or.inr ⟨by kernel_rfl, Eq.refl undef⟩) (by assumption) ?_
                try (simp only [Act.put]; (try simp only [List.setIfInBounds_toArray]); (try simp only [List.set_cons_succ]); (try simp only [List.set_cons_zero]))
                refine wpAnyH_take (i := 13) (v := undef) rfl (by kernel_rfl) (by kernel_rfl) (by kernel_rfl) (fun _ _ _ h => h) (Or.inr ⟨by kernel_rfl, Eq.refl undef⟩) (by assumption) ?_
                try (simp only [Act.put]; (try simp only [List.setIfInBounds_toArray]); (try simp only [List.set_cons_succ]); (try simp only [List.set_cons_zero]))
                refine wpAnyH_take (i := 14) (v := ?_) rfl (by kernel_rfl) (by kernel_rfl) (by kernel_rfl) (fun _ _ _ h => h) (Or.inl ⟨by kernel_rfl, ?_⟩) (by assumption) ?_
                rotate_left
                · (intro w hSw; (try dsimp only at hSw); go_simp <;> with_reducible rfl)
                try (simp only [Act.put]; (try simp only [List.setIfInBounds_toArray]); (try simp only [List.set_cons_succ]); (try simp only [List.set_cons_zero]))
                refine wpAnyH_take (i := 15) (v := ?_) rfl (by kernel_rfl) (by kernel_rfl) (by kernel_rfl) (fun _ _ _ h => h) (Or.inl ⟨by kernel_rfl, ?_⟩) (by assumption) ?_
                rotate_left
                · (intro w hSw; (try dsimp only at hSw); go_simp <;> with_reducible rfl)
                try (simp only [Act.put]; (try simp only [List.setIfInBounds_toArray]); (try simp only [List.set_cons_succ]); (try simp only [List.set_cons_zero]))
                refine wpAnyH_take (i := 16) (v := ?_) rfl (by kernel_rfl) (by kernel_rfl) (by kernel_rfl) (fun _ _ _ h => h) (Or.inl ⟨by kernel_rfl, ?_⟩) (by assumption) ?_
                rotate_left
                · (intro w hSw; (try dsimp only at hSw); go_simp <;> with_reducible rfl)
                try (simp only [Act.put]; (try simp only [List.setIfInBounds_toArray]); (try simp only [List.set_cons_succ]); (try simp only [List.set_cons_zero]))
                refine wpAnyH_ready (rs := [17]) (by kernel_rfl) (by simp) ?_
                refine AllReadyH.cons rfl (fun K hK => ?_) AllReadyH.nil
                go_simp
                refine hK.out _ _ ?_ (fun hHeld => ?_)
                · ((try dsimp only); all_goals trivial)
                clear hK K
                try (simp only [Act.put]; (try simp only [List.setIfInBounds_toArray]); (try simp only [List.set_cons_succ]); (try simp only [List.set_cons_zero]))
                refine wpAnyH_ready (rs := [18]) (by kernel_rfl) (by simp) ?_
                refine AllReadyH.cons rfl (fun K hK => ?_) AllReadyH.nil
                go_simp
                refine hK.out _ _ ?_ (fun hHeld => ?_)
                · ((try dsimp only); all_goals trivial)
                clear hK K
                try (simp only [Act.put]; (try simp only [List.setIfInBounds_toArray]); (try simp only [List.set_cons_succ]); (try simp only [List.set_cons_zero]))
                refine wpAnyH_done (by kernel_rfl) ?_ _
                go_wp2
                go_roundw
                case rel => exact ⟨k + 1, hlt, by go_num, (by first | (rw [good_step HQ.out, HGD.out, good1_one HF.out HL1.out]; done) | (rw [good_step HQ.out, HGD.out, good1_one HF.out HL1.out]; rfl)), Lib.hid (NumSt.step (NumSt.drew HI.out) hlt HQ.out HCL.out HV.out)⟩
                case measure => simp [intOf]; omega
              · have HL1 := Lib.hid hl1
                have hb1 : ((q.size : Int) == 1) = false := by simp; omega
                clear hl1
                refine wp_region_held_drew (S := (fun _ => True)) (by kernel_rfl) ?_ (fun hHeld => ?_)
                · ((try dsimp only); all_goals trivial)
                refine wpAnyH_take (i := 0) (v := ?_) rfl (by kernel_rfl) (by kernel_rfl) (by kernel_rfl) (fun _ _ _ h => h) (Or.inl ⟨by kernel_rfl, ?_⟩) (by assumption) ?_
                rotate_left
                · (intro w hSw; (try dsimp only at hSw); go_simp <;> with_reducible rfl)
                try (simp only [Act.put]; (try simp only [List.setIfInBounds_toArray]); (try simp only [List.set_cons_succ]); (try simp only [List.set_cons_zero]))
                refine wpAnyH_take (i := 1) (v := ?_) rfl (by kernel_rfl) (by kernel_rfl) (by kernel_rfl) (fun _ _ _ h => h) (Or.inl ⟨by kernel_rfl, ?_⟩) (by assumption) ?_
                rotate_left
                · (intro w hSw; (try dsimp only at hSw); go_simp <;> with_reducible rfl)
                try (simp only [Act.put]; (try simp only [List.setIfInBounds_toArray]); (try simp only [List.set_cons_succ]); (try simp only [List.set_cons_zero]))
                refine wpAnyH_take (i := 2) (v := ?_) rfl (by kernel_rfl) (by kernel_rfl) (by kernel_rfl) (fun _ _ _ h => h) (Or.inl ⟨by kernel_rfl, ?_⟩) (by assumption) ?_
                rotate_left
                · (intro w hSw; (try dsimp only at hSw); go_simp <;> with_reducible rfl)
                try (simp only [Act.put]; (try simp only [List.setIfInBounds_toArray]); (try simp only [List.set_cons_succ]); (try simp only [List.set_cons_zero]))
                refine wpAnyH_take (i := 3) (v := ?_) rfl (by kernel_rfl) (by kernel_rfl) (by kernel_rfl) (fun _ _ _ h => h) (Or.inl ⟨by kernel_rfl, ?_⟩) (by assumption) ?_
                rotate_left
                · (intro w hSw; (try dsimp only at hSw); go_simp <;> with_reducible rfl)
                try (simp only [Act.put]; (try simp only [List.setIfInBounds_toArray]); (try simp only [List.set_cons_succ]); (try simp only [List.set_cons_zero]))
                refine wpAnyH_take (i := 4) (v := ?_) rfl (by kernel_rfl) (by kernel_rfl) (by kernel_rfl) (fun _ _ _ h => h) (Or.inl ⟨by kernel_rfl, ?_⟩) (by assumption) ?_
                rotate_left
                · (intro w hSw; (try dsimp only at hSw); go_simp <;> with_reducible rfl)
                try (simp only [Act.put]; (try simp only [List.setIfInBounds_toArray]); (try simp only [List.set_cons_succ]); (try simp only [List.set_cons_zero]))
                refine wpAnyH_take (i := 5) (v := ?_) rfl (by kernel_rfl) (by kernel_rfl) (by kernel_rfl) (fun _ _ _ h => h) (Or.inl ⟨by kernel_rfl, ?_⟩) (by assumption) ?_
                rotate_left
                · (intro w hSw; (try dsimp only at hSw); go_simp <;> with_reducible rfl)
                try (simp only [Act.put]; (try simp only [List.setIfInBounds_toArray]); (try simp only [List.set_cons_succ]); (try simp only [List.set_cons_zero]))
                refine wpAnyH_take (i := 6) (v := ?_) rfl (by kernel_rfl) (by kernel_rfl) (by kernel_rfl) (fun _ _ _ h => h) (Or.inl ⟨by kernel_rfl, ?_⟩) (by assumption) ?_
                rotate_left
                · (intro w hSw; (try dsimp only at hSw); go_simp <;> with_reducible rfl)
                try (simp only [Act.put]; (try simp only [List.setIfInBounds_toArray]); (try simp only [List.set_cons_succ]); (try simp only [List.set_cons_zero]))
                refine wpAnyH_take (i := 7) (v := ?_) rfl (by kernel_rfl) (by kernel_rfl) (by kernel_rfl) (fun _ _ _ h => h) (Or.inl ⟨by kernel_rfl, ?_⟩) (by assumption) ?_
                rotate_left
                · (intro w hSw; (try dsimp only at hSw); go_simp <;> with_reducible rfl)
                try (simp only [Act.put]; (try simp only [List.setIfInBounds_toArray]); (try simp only [List.set_cons_succ]); (try simp only [List.set_cons_zero]))
                refine wpAnyH_take (i := 8) (v := ?_) rfl (by kernel_rfl) (by kernel_rfl) (by kernel_rfl) (fun _ _ _ h => h) (Or.inl ⟨by kernel_rfl, ?_⟩) (by assumption) ?_
                rotate_left
                · (intro w hSw; (try dsimp only at hSw); go_simp <;> with_reducible rfl)
                try (simp only [Act.put]; (try simp only [List.setIfInBounds_toArray]); (try simp only [List.set_cons_succ]); (try simp only [List.set_cons_zero]))
                refine wpAnyH_take (i := 9) (v := ?_) rfl (by kernel_rfl) (by kernel_rfl) (by kernel_rfl) (fun _ _ _ h => h) (Or.inl ⟨by kernel_rfl, ?_⟩) (by assumption) ?_
                rotate_left
                · (intro w hSw; (try dsimp only at hSw); go_simp <;> with_reducible rfl)
                try (simp only [Act.put]; (try simp only [List.setIfInBounds_toArray]); (try simp only [List.set_cons_succ]); (try simp only [List.set_cons_zero]))
                refine wpAnyH_take (i := 10) (v := ?_) rfl (by kernel_rfl) (by kernel_rfl) (by kernel_rfl) (fun _ _ _ h => h) (Or.inl ⟨by kernel_rfl, ?_⟩) (by assumption) ?_
                rotate_left
                · (intro w hSw; (try dsimp only at hSw); go_simp <;> with_reducible rfl)
                try (simp only [Act.put]; (try simp only [List.setIfInBounds_toArray]); (try simp only [List.set_cons_succ]); (try simp only [List.set_cons_zero]))
                refine wpAnyH_take (i := 11) (v := ?_) rfl (by kernel_rfl) (by kernel_rfl) (by kernel_rfl) (fun _ _ _ h => h) (Or.inl ⟨by kernel_rfl, ?_⟩) (by assumption) ?_
                rotate_left
                · (intro w hSw; (try dsimp only at hSw); go_simp <;> with_reducible rfl)
                try (simp only [Act.put]; (try simp only [List.setIfInBounds_toArray]); (try simp only [List.set_cons_succ]); (try simp only [List.set_cons_zero]))
                refine wpAnyH_take (i := 12) (v := ?_) rfl (by kernel_rfl) (by kernel_rfl) (by kernel_rfl) (fun _ _ _ h => h) (Or.inl ⟨by kernel_rfl, ?_⟩) (by assumption) ?_
                rotate_left
                · (intro w hSw; (try dsimp only at hSw); go_simp <;> with_reducible rfl)
                try (simp only [Act.put]; (try simp only [List.setIfInBounds_toArray]); (try simp only [List.set_cons_succ]); (try simp only [List.set_cons_zero]))
                refine wpAnyH_take (i := 13) (v := ?_) rfl (by kernel_rfl) (by kernel_rfl) (by kernel_rfl) (fun _ _ _ h => h) (Or.inl ⟨by kernel_rfl, ?_⟩) (by assumption) ?_
                rotate_left
                · (intro w hSw; (try dsimp only at hSw); go_simp <;> with_reducible rfl)
                try (simp only [Act.put]; (try simp only [List.setIfInBounds_toArray]); (try simp only [List.set_cons_succ]); (try simp only [List.set_cons_zero]))
                refine wpAnyH_take (i := 14) (v := ?_) rfl (by kernel_rfl) (by kernel_rfl) (by kernel_rfl) (fun _ _ _ h => h) (Or.inl ⟨by kernel_rfl, ?_⟩) (by assumption) ?_
                rotate_left
                · (intro w hSw; (try dsimp only at hSw); go_simp <;> with_reducible rfl)
                try (simp only [Act.put]; (try simp only [List.setIfInBounds_toArray]); (try simp only [List.set_cons_succ]); (try simp only [List.set_cons_zero]))
                refine wpAnyH_take (i := 15) (v := ?_) rfl (by kernel_rfl) (by kernel_rfl) (by kernel_rfl) (fun _ _ _ h => h) (Or.inl ⟨by kernel_rfl, ?_⟩) (by assumption) ?_
                rotate_left
                · (intro w hSw; (try dsimp only at hSw); go_simp <;> with_reducible rfl)
                try (simp only [Act.put]; (try simp only [List.setIfInBounds_toArray]); (try simp only [List.set_cons_succ]); (try simp only [List.set_cons_zero]))
                refine wpAnyH_take (i := 16) (v := ?_) rfl (by kernel_rfl) (by kernel_rfl) (by kernel_rfl) (fun _ _ _ h => h) (Or.inl ⟨by kernel_rfl, ?_⟩) (by assumption) ?_
                rotate_left
                · (intro w hSw; (try dsimp only at hSw); go_simp <;> with_reducible rfl)
                try (simp only [Act.put]; (try simp only [List.setIfInBounds_toArray]); (try simp only [List.set_cons_succ]); (try simp only [List.set_cons_zero]))
                refine wpAnyH_ready (rs := [17]) (by kernel_rfl) (by simp) ?_
                refine AllReadyH.cons rfl (fun K hK => ?_) AllReadyH.nil
                go_simp
                refine hK.out _ _ ?_ (fun hHeld => ?_)
                · ((try dsimp only); all_goals trivial)
                clear hK K
                try (simp only [Act.put]; (try simp only [List.setIfInBounds_toArray]); (try simp only [List.set_cons_succ]); (try simp only [List.set_cons_zero]))
                refine wpAnyH_ready (rs := [18]) (by kernel_rfl) (by simp) ?_
                refine AllReadyH.cons rfl (fun K hK => ?_) AllReadyH.nil
                go_simp
                refine hK.out _ _ ?_ (fun hHeld => ?_)
                · ((try dsimp only); all_goals trivial)
                clear hK K
                try (simp only [Act.put]; (try simp only [List.setIfInBounds_toArray]); (try simp only [List.set_cons_succ]); (try simp only [List.set_cons_zero]))
                refine wpAnyH_done (by kernel_rfl) ?_ _
                go_wp2
                go_roundw
                case rel => exact ⟨k + 1, hlt, by go_num, (by first | (rw [good_step HQ.out, HGD.out, good1_more HF.out HL1.out hq0]; done) | (rw [good_step HQ.out, HGD.out, good1_more HF.out HL1.out hq0]; rfl)), Lib.hid (NumSt.step (NumSt.drew HI.out) hlt HQ.out HCL.out HV.out)⟩
                case measure => simp [intOf]; omega
    · have hk3 : k = 3 := by omega
      have HBW := Lib.hid (HB.out.trans (HI.out.bel.mono (Nat.le_succ _)))
      have hcl := HI.out.clean
      have harr := HI.out.arr
      rw [hk3] at hcl harr
      have HCA : Hid (M.clean (M.bs a) ∧ M.clean (M.bs b) ∧ M.clean (M.bs c)) := Lib.hid ⟨hcl _ (by simp), hcl _ (by simp), hcl _ (by simp)⟩
      generalize hgd : ([M.bs a, M.bs b, M.bs c].take k).all M.good1 = gd
      have HGD : Hid ([M.bs a, M.bs b, M.bs c].all M.good1 = gd) := Lib.hid (by rw [← hgd, hk3]; rfl)
      have HST := Lib.hid (M.strict_numbers HCA.out.1 HCA.out.2.1 HCA.out.2.2 HL.out)
      rw [← bs_join3] at HST
      clear hgd hcl
      rcases gd with _ | _
      · have HN : Hid (M.strict (M.bs (joinB [a, b, c] 3)) = none) := Lib.hid (by rw [HST.out, HGD.out]; rfl)
        have HZR : Hid (M.strict (M.bs ⟨#[48, 46, 48, 46, 48]⟩) = some ⟨0, 0, 0, M.toB [], M.toB []⟩) := Lib.hid M.strict_zero
        have ee : (⟨#[]⟩ : ByteArray).toList = [] := by rw [toList_bs]; rfl
        clear harr
        go_wp2_with (first
          | (go_at_call 37; (with_reducible refine (strictVersion_none (joinB [a, b, c] 3) _ (HE.out.below HBW.out) HJZ.out HN).mono ?_); rintro e w5 ⟨rfl, hb⟩; have HB5 := Lib.hid (Below.up HBW.out hb); clear hb)
          | (go_at_call 37; (with_reducible refine (strictVersion_some ⟨#[48, 46, 48, 46, 48]⟩ ⟨0, 0, 0, M.toB [], M.toB []⟩ _ (HE.out.below (Below.up HB5.out (by (repeat (first | exact Below.refl _ _ | apply Below.drew | (apply below_alloc_on (Nat.le_refl _))))))) (by decide) HZR).mono ?_); rintro e w6 ⟨rfl, hb⟩; have HB6 := Lib.hid (Below.up HB5.out (Below.up (w := w5) (by (repeat (first | exact Below.refl _ _ | apply Below.drew | (apply below_alloc_on (Nat.le_refl _))))) hb)); have hz : AtP w6 w5.heap.size V.zero := AtP.below (alloc_at _ _ _ rfl) hb; obtain ⟨v0, v1, v2, v3, v4⟩ := hz.cells; simp only [V.zero] at v0 v1 v2 v3 v4; have p0 := fun o : Obj => cell_alloc_some (o := o) v0; have p1 := fun o : Obj => cell_alloc_some (o := o) v1; have p2 := fun o : Obj => cell_alloc_some (o := o) v2; have p3 := fun o : Obj => cell_alloc_some (o := o) v3; have p4 := fun o : Obj => cell_alloc_some (o := o) v4; clear hb hz))
        go_ret
        exact ⟨rfl, Below.up HB6.out (below_alloc _ _)⟩
      · have hg3 : M.good1 (M.bs a) = true ∧ M.good1 (M.bs b) = true ∧ M.good1 (M.bs c) = true := by
          have := HGD.out
          simp only [List.all_cons, List.all_nil, Bool.and_true, Bool.and_eq_true] at this
          exact this
        have fa : M.fits (M.bs a) = true := by have := hg3.1; unfold M.good1 at this; rw [Bool.and_eq_true] at this; exact this.1
        have fb : M.fits (M.bs b) = true := by have := hg3.2.1; unfold M.good1 at this; rw [Bool.and_eq_true] at this; exact this.1
        have fc : M.fits (M.bs c) = true := by have := hg3.2.2; unfold M.good1 at this; rw [Bool.and_eq_true] at this; exact this.1
        have HAR : Hid (AtN wr (w.heap.size + 1) (M.val (M.bs a)) (M.val (M.bs b)) (M.val (M.bs c))) := Lib.hid (by
          have e0 : nv [M.bs a, M.bs b, M.bs c] 0 3 = M.val (M.bs a) := by simp [nv, M.numv, fa]
          have e1 : nv [M.bs a, M.bs b, M.bs c] 1 3 = M.val (M.bs b) := by simp [nv, M.numv, fb]
          have e2 : nv [M.bs a, M.bs b, M.bs c] 2 3 = M.val (M.bs c) := by simp [nv, M.numv, fc]
          rw [e0, e1, e2] at harr
          exact harr)
        have HN : Hid (M.strict (M.bs (joinB [a, b, c] 3)) = some ⟨M.val (M.bs a), M.val (M.bs b), M.val (M.bs c), ⟨#[]⟩, ⟨#[]⟩⟩) := Lib.hid (by rw [HST.out, HGD.out]; rfl)
        clear harr hg3 fa fb fc
        go_wp2_with (go_at_call 37; (with_reducible refine (strictVersion_some (joinB [a, b, c] 3) ⟨M.val (M.bs a), M.val (M.bs b), M.val (M.bs c), ⟨#[]⟩, ⟨#[]⟩⟩ _ (HE.out.below HBW.out) HJZ.out HN).mono ?_); rintro e w5 ⟨rfl, hb⟩; have HB5 := Lib.hid (Below.up HBW.out hb); obtain ⟨v0, v1, v2⟩ := (HAR.out.below hb).cells; have p0 := fun o : Obj => cell_alloc_some (o := o) v0; have p1 := fun o : Obj => cell_alloc_some (o := o) v1; have p2 := fun o : Obj => cell_alloc_some (o := o) v2; clear hb)
        go_ret
        exact ⟨rfl, Below.up HB5.out (below_alloc _ _)⟩
theorem strictNumbers_walk (a b c : ByteArray) (w : World) (hE : SErrs w) (z1 : a.size ≤ 140737488351232) (z2 : b.size ≤ 140737488351232) (z3 : c.size ≤ 140737488351232) :
    Calls Tryd.prog 9 #[.string a, .string b, .string c] w fun e w' => e = .returned (.bool true) ∧ Below w.heap.size w w' := strictNumbers_law a b c w hE z1 z2 z3
end Go.Proofs.YtopaileliohpdaaDoor
