/-
  spec.cronEnds: what stands ahead of an item's step.
-/
import Derived.Test.YtjipjhpehfbpkaaDoorCSpecW
namespace Go.Proofs.YtjipjhpehfbpkaaDoor
open Go.RowKit
set_option maxRecDepth 100000
set_option linter.unusedVariables false

/-- cronPieces: one piece at least, in memory -/
theorem pieces_at (x : UInt8) (n : Int) (hn : (x.toNat : Int) = n) (s : ByteArray) (w : World) (hs : s.size ≤ 2147483647) :
    Calls Tryd.prog 17 #[.string s, .int .u8 n] w fun e w' => ∃ g c p L, e = .returned (.slice (some ⟨g, 0, none⟩) (L.length + 1) c) ∧ Hid (M.bs p :: L.map M.bs = M.splitOn x (M.bs s)) ∧ SlAt w' g (p :: L) ∧ Below w.heap.size w w' :=
  (cronPieces_any x n hn s w hs).mono fun e w' h => by
    obtain ⟨v, L, rfl, hL, hown, hb⟩ := h
    cases L with
    | nil => exact absurd hL.symm (M.splitOn_ne _ _)
    | cons p L =>
      obtain ⟨g, c, rfl, hsl⟩ := hown.at (by simp)
      exact ⟨g, c, p, L, by simp, Lib.hid hL, hsl, hb⟩
/-- what cronEnds tells is right where it tells it as fine: numbers beyond 2^40 are left alone -/
def EndOk (k : Nat) (s : ByteArray) (lo hi vd : Nat) (st sg : Bool) : Prop :=
  (vd ≤ 2 ∧ (sg = true → st = false → hi = lo)) ∧ (vd = 1 → lo < 1099511627776 → hi < 1099511627776 → M.ends (M.bdOf k) (M.splitOn 45 (M.bs s)) = some (lo, hi, st) ∧ sg = decide ((M.splitOn 45 (M.bs s)).length = 1))
theorem endOk_bad (k : Nat) (s : ByteArray) : EndOk k s 0 0 0 false false := ⟨⟨by omega, fun h => by cases h⟩, fun h => by cases h⟩
theorem endOk_open (k : Nat) (s : ByteArray) (lo hi : Nat) (sg : Bool) : EndOk k s lo hi 2 true sg := ⟨⟨by omega, fun _ h => by cases h⟩, fun h => by cases h⟩
theorem endOk_star (k : Nat) {s : ByteArray} {a : M.Bs} (h : M.splitOn 45 (M.bs s) = [a]) (ha : a = [42] ∨ a = [63]) : EndOk k s (M.bdOf k).mn (M.bdOf k).mx 1 true true := by
  refine ⟨⟨by omega, fun _ h => by cases h⟩, fun _ _ _ => ?_⟩
  rw [h]
  refine ⟨?_, by simp⟩
  unfold M.ends
  simp only
  rw [if_pos ha]
theorem endOk_one {k n v : Nat} {s a : ByteArray} (h : M.splitOn 45 (M.bs s) = [M.bs a]) (ha : ¬ (M.bs a = [42] ∨ M.bs a = [63])) (hv : ValOk k a n v) : EndOk k s n n v false true := by
  refine ⟨⟨hv.1, fun _ _ => rfl⟩, fun h1 h2 _ => ?_⟩
  rw [h]
  exact ⟨M.ends_1 ha (hv.2 h1 h2), by simp⟩
theorem worseN_le {a b : Nat} (ha : a ≤ 2) (hb : b ≤ 2) : worseN a b ≤ 2 := by unfold worseN; split <;> omega
theorem worseN_one {a b : Nat} (h : worseN a b = 1) : a ≤ 1 ∧ b ≤ 1 ∧ a ≠ 0 ∧ b ≠ 0 := by
  unfold worseN at h
  split at h
  · omega
  · omega
theorem endOk_two {k n v m u : Nat} {s a c : ByteArray} (h : M.splitOn 45 (M.bs s) = [M.bs a, M.bs c]) (ha : ¬ (M.bs a = [42] ∨ M.bs a = [63])) (hv : ValOk k a n v) (hu : ValOk k c m u) : EndOk k s n m (worseN v u) false false := by
  refine ⟨⟨worseN_le hv.1 hu.1, fun h => by cases h⟩, fun h1 h2 h3 => ?_⟩
  obtain ⟨b1, b2, b3, b4⟩ := worseN_one h1
  rw [h]
  refine ⟨?_, by simp⟩
  rw [M.ends_2 ha (hv.2 (by omega) h2), hu.2 (by omega) h3]
/-- bounds in memory -/
structure BxAt (w : World) (N : Nat) (mn mx k : Nat) : Prop where
  c0 : w.cell? ⟨N, 0, none⟩ = some (.int .i64 (mn : Int))
  c1 : w.cell? ⟨N, 1, none⟩ = some (.int .i64 (mx : Int))
  c2 : w.cell? ⟨N, 2, none⟩ = some (.int .i64 (k : Int))
  lt : N < w.heap.size
theorem BxAt.below {w w' : World} {N mn mx k : Nat} (h : BxAt w N mn mx k) (b : Below w.heap.size w w') : BxAt w' N mn mx k :=
  ⟨(b.cell (p := ⟨N, 0, none⟩) h.lt).trans h.c0, (b.cell (p := ⟨N, 1, none⟩) h.lt).trans h.c1, (b.cell (p := ⟨N, 2, none⟩) h.lt).trans h.c2, Nat.lt_of_lt_of_le h.lt b.size⟩
theorem BxAt.mk0 (w : World) (mn mx k : Nat) (t : TypeId) : BxAt (w.alloc (.cells #[.int .i64 (mn : Int), .int .i64 (mx : Int), .int .i64 (k : Int)] t)) w.heap.size mn mx k := by
  have h : (w.alloc (.cells #[.int .i64 (mn : Int), .int .i64 (mx : Int), .int .i64 (k : Int)] t)).heap[w.heap.size]? = some (.cells #[.int .i64 (mn : Int), .int .i64 (mx : Int), .int .i64 (k : Int)] t (0, 0)) := Array.getElem?_push_size
  exact ⟨row_cell h _ _ rfl, row_cell h _ _ rfl, row_cell h _ _ rfl, (Array.getElem?_eq_some_iff.1 h).1⟩
set_option maxHeartbeats 4000000 in
theorem cronEnds_any (k : Nat) (s : ByteArray) (w : World) (hk : k ≤ 5) (hs : s.size ≤ 2147483647) :
    Calls Tryd.prog 27 #[.agg #[.int .i64 ((M.bdOf k).mn : Int), .int .i64 ((M.bdOf k).mx : Int), .int .i64 (k : Int)], .string s] w fun e w' => (∃ (lo hi vd : Nat) (st sg : Bool), e = .returned (.tuple #[.int .i64 (lo : Int), .int .i64 (hi : Int), .bool st, .bool sg, .int .i64 (vd : Int)]) ∧ EndOk k s lo hi vd st sg) ∧ Below w.heap.size w w' := by
  have HS := Lib.hid hs
  have HK := Lib.hid hk
  obtain ⟨mn, hmn⟩ : ∃ n, (M.bdOf k).mn = n := ⟨_, rfl⟩
  obtain ⟨mx, hmx⟩ : ∃ n, (M.bdOf k).mx = n := ⟨_, rfl⟩
  rw [hmn, hmx]
  have HMN := Lib.hid hmn
  have HMX := Lib.hid hmx
  have I0 := Lib.hid (BxAt.mk0 w mn mx k 31)
  have B0 : Hid (Below w.heap.size w (w.alloc (.cells #[.int .i64 (mn : Int), .int .i64 (mx : Int), .int .i64 (k : Int)] 31))) := Lib.hid (below_alloc _ _)
  clear hk hs hmn hmx
  go_enter Tryd.func27, Tryd.ntmps27
  go_upto_region 2 with (go_at_call 17; (with_reducible refine (pieces_at 45 45 rfl s _ HS.out).mono ?_); rintro e w1 ⟨g, c, p, L, rfl, HL, hsl, hb⟩; have I1 := Lib.hid (I0.out.below hb); have B1 := Lib.hid (Below.up B0.out hb); have HSL := Lib.hid hsl; clear hsl hb)
  clear I0 B0
  have hp : w1.cell? ⟨g, 0, none⟩ = some (.string p) := HSL.out.2 0 (Nat.zero_lt_succ _)
  obtain ⟨c0, c1, c2, hlt⟩ := I1.out
  by_cases hst : M.bs p = [42] ∨ M.bs p = [63]
  · have he : ((p.toList == [42]) = true ∧ (p.toList == [63]) = false) ∨ ((p.toList == [42]) = false ∧ (p.toList == [63]) = true) := by
      rw [lit_eq, lit_eq]
      rcases hst with h | h
      · left; rw [h]; decide
      · right; rw [h]; decide
    have hkk : ((((k : Int) != 3) = false) ∨ (((k : Int) != 3) = true ∧ ((k : Int) != 5) = false)) ∨ (((k : Int) != 3) = true ∧ ((k : Int) != 5) = true) := by
      have := HK.out
      obtain rfl | rfl | rfl | rfl | rfl | rfl : k = 0 ∨ k = 1 ∨ k = 2 ∨ k = 3 ∨ k = 4 ∨ k = 5 := by omega
      all_goals decide
    have HST := Lib.hid hst
    clear hst
    cases L with
    | nil =>
      have HOK := Lib.hid (endOk_star k HL.out.symm HST.out)
      rw [HMN.out, HMX.out] at HOK
      rcases he with ⟨e1, e2⟩ | ⟨e1, e2⟩
      · clear hkk
        go_wp2
        go_region
        all_goals
          go_wp2
          refine bodyPost_ret (v := .tuple #[.int .i64 (mn : Int), .int .i64 (mx : Int), .bool true, .bool true, .int .i64 1]) (by simp [results, Tryd.results27, go_sem]) rfl ?_
          exact ⟨⟨mn, mx, 1, true, true, rfl, HOK.out⟩, by first | exact B1.out.drew | exact B1.out⟩
      · rcases hkk with hkk | ⟨y1, y2⟩
        · rcases hkk with y1 | ⟨y1, y2⟩
          all_goals
            go_wp2
            go_region
          all_goals
            go_wp2
            refine bodyPost_ret (v := .tuple #[.int .i64 (mn : Int), .int .i64 (mx : Int), .bool true, .bool true, .int .i64 1]) (by simp [results, Tryd.results27, go_sem]) rfl ?_
            exact ⟨⟨mn, mx, 1, true, true, rfl, HOK.out⟩, by first | exact B1.out.drew | exact B1.out⟩
        · go_wp2
          go_region
          all_goals
            go_wp2
            refine bodyPost_ret (v := .tuple #[.int .i64 (mn : Int), .int .i64 (mx : Int), .bool true, .bool true, .int .i64 2]) (by simp [results, Tryd.results27, go_sem]) rfl ?_
            exact ⟨⟨mn, mx, 2, true, true, rfl, endOk_open _ _ _ _ _⟩, by first | exact B1.out.drew | exact B1.out⟩
    | cons a L =>
      obtain ⟨n, hn⟩ : ∃ n, (a :: L).length + 1 = n := ⟨_, rfl⟩
      rw [hn]
      have hn2 : 2 ≤ n := by rw [← hn]; simp
      have m1 : (1 : Int) < (n : Int) := by omega
      have m2 : ((n : Int) == 1) = false := by rw [beq_eq_false_iff_ne]; omega
      have m3 : 0 < n := by omega
      clear hn hn2
      rcases he with ⟨e1, e2⟩ | ⟨e1, e2⟩
      all_goals
        go_wp2
        go_region
      all_goals
        go_wp2
        refine bodyPost_ret (v := .tuple #[.int .i64 (mn : Int), .int .i64 (mx : Int), .bool true, .bool false, .int .i64 2]) (by simp [results, Tryd.results27, go_sem]) rfl ?_
        exact ⟨⟨mn, mx, 2, true, false, rfl, endOk_open _ _ _ _ _⟩, by first | exact B1.out.drew | exact B1.out⟩
  · have e1 : (p.toList == [42]) = false := by rw [lit_eq]; simpa using fun h => hst (.inl h)
    have e2 : (p.toList == [63]) = false := by rw [lit_eq]; simpa using fun h => hst (.inr h)
    have HST := Lib.hid hst
    have HPS := Lib.hid (show p.size ≤ 2147483647 by
      have h1 : M.bs p ∈ M.splitOn 45 (M.bs s) := by rw [← HL.out]; exact List.mem_cons_self
      have := M.piece_le 45 _ _ h1
      rw [M.bs_length, M.bs_length] at this
      have := HS.out
      omega)
    have HK5 := HK
    clear hst
    obtain ⟨n, hn⟩ : ∃ n, L.length + 1 = n := ⟨_, rfl⟩
    have HN := Lib.hid hn
    rw [hn]
    have m3 : 0 < n := by omega
    clear hn
    go_upto_region 7 with fail
    go_region_with (first
      | (go_at_call 41; (with_reducible refine (specValue_any k p _ HK5.out HPS.out).mono ?_); rintro e w2 ⟨⟨n1, v1, rfl, hv⟩, hb0⟩; have hb : Below w1.heap.size w1 w2 := Below.up (Below.refl _ _).drew hb0; have HV1 := Lib.hid hv; clear hb0; have HKP := Lib.hid (And.intro ((I1.out.below hb).c2) (And.intro ((HSL.out.below hb).2 0 (Nat.zero_lt_succ _)) (And.intro (I1.out.below hb) (And.intro (HSL.out.below hb) (Below.up B1.out hb))))); clear hv hb)
      | fail)
    all_goals
      rcases L with _ | ⟨a, L⟩
      · have z1 : ((n : Int) == 1) = true := by rw [beq_iff_eq, ← HN.out]; rfl
        go_wp2
        refine bodyPost_ret (v := .tuple #[.int .i64 (n1 : Int), .int .i64 (n1 : Int), .bool false, .bool true, .int .i64 (v1 : Int)]) (by simp [results, Tryd.results27, go_sem]) rfl ?_
        exact ⟨⟨n1, n1, v1, false, true, rfl, endOk_one HL.out.symm HST.out HV1.out⟩, HKP.out.2.2.2.2⟩
      · have z1 : ((n : Int) == 1) = false := by
          have := HN.out
          rw [List.length_cons] at this
          rw [beq_eq_false_iff_ne]
          omega
        rcases L with _ | ⟨b, L⟩
        · have z2 : ((n : Int) == 2) = true := by rw [beq_iff_eq, ← HN.out]; rfl
          have m4 : 1 < n := by rw [← HN.out]; simp
          have m5 : (1 : Int) < (n : Int) := by omega
          obtain ⟨k2, kp, kb, ks, kw⟩ := HKP.out
          have ha : w2.cell? ⟨g, 1, none⟩ = some (.string a) := ks.2 1 (by simp)
          have HAS := Lib.hid (show a.size ≤ 2147483647 by
            have h1 : M.bs a ∈ M.splitOn 45 (M.bs s) := by rw [← HL.out]; simp
            have := M.piece_le 45 _ _ h1
            rw [M.bs_length, M.bs_length] at this
            have := HS.out
            omega)
          have KW := Lib.hid kw
          have y1 : v1 ≤ 2 := HV1.out.1
          clear kp kb ks kw hp c0 c1 c2
          go_wp2
          go_region_with (first
            | (go_at_call 41; (with_reducible refine (specValue_any k a _ HK5.out HAS.out).mono ?_); rintro e w3 ⟨⟨n2, v2, rfl, hv⟩, hb0⟩; have HV2 := Lib.hid hv; have y2 : v2 ≤ 2 := hv.1; have HB3 := Lib.hid (Below.up KW.out (Below.up (Below.refl _ _).drew hb0)); clear hv hb0)
            | fail)
          all_goals
            go_wp2_with (go_at_call 18; (with_reducible refine (worse_any v1 v2 y1 y2 _).mono ?_); rintro e w4 ⟨rfl, rfl⟩)
            refine bodyPost_ret (v := .tuple #[.int .i64 (n1 : Int), .int .i64 (n2 : Int), .bool false, .bool false, .int .i64 ((worseN v1 v2 : Nat) : Int)]) (by simp [results, Tryd.results27, go_sem]) rfl ?_
            exact ⟨⟨n1, n2, worseN v1 v2, false, false, rfl, endOk_two HL.out.symm HST.out HV1.out HV2.out⟩, HB3.out⟩
        · have z2 : ((n : Int) == 2) = false := by
            have := HN.out
            rw [List.length_cons, List.length_cons] at this
            rw [beq_eq_false_iff_ne]
            omega
          go_wp2
          refine bodyPost_ret (v := .tuple #[.int .i64 0, .int .i64 0, .bool false, .bool false, .int .i64 0]) (by simp [results, Tryd.results27, go_sem]) rfl ?_
          exact ⟨⟨0, 0, 0, false, false, rfl, endOk_bad _ _⟩, HKP.out.2.2.2.2⟩
end Go.Proofs.YtjipjhpehfbpkaaDoor
