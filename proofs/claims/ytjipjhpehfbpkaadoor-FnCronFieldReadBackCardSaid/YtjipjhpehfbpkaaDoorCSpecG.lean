/-
  spec.CronBoundsOf, spec.CronField: what it reads as fine is a list of items.
-/
import Derived.Test.YtjipjhpehfbpkaaDoorCSpecI
import Derived.Test.YtjipjhpehfbpkaaDoorCUnion
namespace Go.Proofs.YtjipjhpehfbpkaaDoor
open Go.RowKit
set_option maxRecDepth 100000
set_option linter.unusedVariables false

theorem SetIs.or {f g : Nat → Bool} {n m : Nat} (h : SetIs f n) (h2 : SetIs g m) : SetIs (fun i => f i || g i) (n ||| m) :=
  ⟨by show (f 0 || g 0) = _; rw [Nat.testBit_or, h.1, h2.1], fun i hi => by show (f (i + 1) || g (i + 1)) = _; rw [Nat.testBit_or, h.2 i hi, h2.2 i hi]⟩
theorem SetIs.none : SetIs noneF 0 := ⟨by rw [Nat.zero_testBit]; rfl, fun i _ => by rw [Nat.zero_testBit]; rfl⟩
/-- what spec.CronField tells is right where it tells it as fine -/
def FieldOk (k : Nat) (s : ByteArray) (f : Nat → Bool) (v : Nat) : Prop := v ≤ 2 ∧ (v = 1 → ∃ n, M.field (M.bdOf k) (M.bs s) = some n ∧ SetIs f n)
def FieldRes (k : Nat) (s : ByteArray) (w : World) (e : Ending) (w' : World) : Prop :=
  (∃ (f : Nat → Bool) (v : Nat), e = .returned (.tuple #[setV f, .int .i64 (v : Int)]) ∧ FieldOk k s f v) ∧ Below w.heap.size w w'
theorem FieldRes.mk1 {k : Nat} {s : ByteArray} {w w' : World} {f : Nat → Bool} {v : Nat} {x : Value} (hx : x = .int .i64 (v : Int)) (h : FieldOk k s f v) (hb : Below w.heap.size w w') : FieldRes k s w (.returned (.tuple #[setV f, x])) w' := ⟨⟨f, v, by rw [hx], h⟩, hb⟩
/-- .. of the first pieces -/
def PartOk (k : Nat) (L : List ByteArray) (j : Nat) (f : Nat → Bool) (v : Nat) : Prop :=
  v ≤ 2 ∧ (v = 1 → ∃ n, M.fieldL (M.bdOf k) 0 (((L.take j).map M.bs).filter fun p => !p.isEmpty) = some n ∧ SetIs f n)
theorem PartOk.start (k : Nat) (L : List ByteArray) : PartOk k L 0 noneF 1 := ⟨by omega, fun _ => ⟨0, rfl, SetIs.none⟩⟩
theorem worseN_two (v : Nat) : worseN v 2 ≠ 1 := by unfold worseN; split <;> omega
theorem PartOk.empty {k : Nat} {L : List ByteArray} {j : Nat} {f : Nat → Bool} {v : Nat} (h : PartOk k L j f v) : PartOk k L (j + 1) f (worseN v 2) := ⟨worseN_le h.1 (by omega), fun e => absurd e (worseN_two v)⟩
theorem PartOk.item {k : Nat} {L : List ByteArray} {j : Nat} {f g : Nat → Bool} {v u : Nat} {p : ByteArray} (h : PartOk k L j f v) (hj : L[j]? = some p) (hp : M.bs p ≠ []) (hi : ItemOk k p g u) : PartOk k L (j + 1) (fun i => f i || g i) (worseN v u) := by
  refine ⟨worseN_le h.1 hi.1, fun e => ?_⟩
  obtain ⟨b1, b2, b3, b4⟩ := worseN_one e
  obtain ⟨n, h1, h2⟩ := h.2 (by omega)
  obtain ⟨m, h3, h4⟩ := hi.2 (by omega)
  refine ⟨n ||| m, ?_, h2.or h4⟩
  rw [List.take_add_one, hj, List.map_append, List.filter_append, M.fieldL_append, h1]
  have e : ((Option.some p).toList.map M.bs).filter (fun p => !p.isEmpty) = [M.bs p] := by
    show ([M.bs p]).filter _ = _
    rw [List.filter_cons]
    cases hq : M.bs p with
    | nil => exact absurd hq hp
    | cons _ _ => rfl
  rw [e]
  show M.fieldL _ n [M.bs p] = _
  rw [M.fieldL, h3]
  rfl
theorem PartOk.all {k : Nat} {s : ByteArray} {L : List ByteArray} {f : Nat → Bool} {v : Nat} (h : PartOk k L L.length f v) (hL : L.map M.bs = M.splitOn 44 (M.bs s)) : FieldOk k s f v := by
  refine ⟨h.1, fun e => ?_⟩
  obtain ⟨n, h1, h2⟩ := h.2 e
  refine ⟨n, ?_, h2⟩
  rw [List.take_length, hL] at h1
  exact h1
theorem boundsOf_any (k : Nat) (w : World) (hk : k ≤ 5) : Calls Tryd.prog 7 #[.int .i64 (k : Int)] w fun e w' => e = .returned (.agg #[.int .i64 ((M.bdOf k).mn : Int), .int .i64 ((M.bdOf k).mx : Int), .int .i64 (k : Int)]) ∧ Below w.heap.size w w' := by
  have HK := Lib.hid hk
  obtain ⟨mn, hmn⟩ : ∃ n, (M.bdOf k).mn = n := ⟨_, rfl⟩
  obtain ⟨mx, hmx⟩ : ∃ n, (M.bdOf k).mx = n := ⟨_, rfl⟩
  rw [hmn, hmx]
  have HLO : Hid (∀ w : World, Calls Tryd.prog 21 #[.int .i64 (k : Int)] w fun e w' => e = .returned (.int .i64 (mn : Int)) ∧ w = w') := Lib.hid (fun w => by have := low_any k hk w; rw [hmn] at this; exact this)
  have HHI : Hid (∀ w : World, Calls Tryd.prog 22 #[.int .i64 (k : Int)] w fun e w' => e = .returned (.int .i64 (mx : Int)) ∧ w = w') := Lib.hid (fun w => by have := high_any k hk w; rw [hmx] at this; exact this)
  clear hmn hmx hk
  go_enter Tryd.func7, Tryd.ntmps7
  go_wp2_with (first
    | (go_at_call 21; (with_reducible refine (HLO.out _).mono ?_); rintro e w1 ⟨rfl, rfl⟩)
    | (go_at_call 22; (with_reducible refine (HHI.out _).mono ?_); rintro e w1 ⟨rfl, rfl⟩))
  refine bodyPost_ret (v := .agg #[.int .i64 (mn : Int), .int .i64 (mx : Int), .int .i64 (k : Int)]) (by simp [results, Tryd.results7, go_sem]) rfl ⟨rfl, ?_⟩
  exact below_alloc _ _
/-- the walk's state -/
structure FSt (k N0 g : Nat) (L : List ByteArray) (w wr : World) (mn mx : Nat) (f : Nat → Bool) : Prop where
  bx : BxAt wr N0 mn mx k
  s1 : SetAt wr (N0 + 1) noneF
  s2 : SetAt wr (N0 + 1 + 1) f
  sl : SlAt wr g L
  bel : Below w.heap.size w wr
  low : w.heap.size ≤ N0
  gne : g ≠ N0 + 1 + 1
theorem FSt.below {k N0 g : Nat} {L : List ByteArray} {w wr wr' : World} {mn mx : Nat} {f : Nat → Bool} (h : FSt k N0 g L w wr mn mx f) (b : Below wr.heap.size wr wr') : FSt k N0 g L w wr' mn mx f :=
  ⟨h.bx.below b, h.s1.below b, h.s2.below b, h.sl.below b, Below.up h.bel b, h.low, h.gne⟩
theorem FSt.sum {k N0 g : Nat} {L : List ByteArray} {w wr W : World} {mn mx : Nat} {f f2 : Nat → Bool} (h : FSt k N0 g L w wr mn mx f) (p : PutAt wr (N0 + 1 + 1) f2 W) : FSt k N0 g L w W mn mx f2 := by
  have hl := h.low
  refine ⟨⟨p.cell (by omega) h.bx.c0, p.cell (by omega) h.bx.c1, p.cell (by omega) h.bx.c2, by rw [p.size]; exact h.bx.lt⟩, p.other (by omega) h.s1, p.it, ⟨by rw [p.size]; exact h.sl.1, fun i hi => ?_⟩, p.bel (by omega) h.bel, hl, h.gne⟩
  exact p.cell h.gne (h.sl.2 i hi)
theorem union_set (f g : Nat → Bool) (w : World) : Calls Tryd.prog 20 #[setV f, setV g] w fun e w' => e = .returned (setV (fun i => f i || g i)) ∧ Below w.heap.size w w' := union_any f g w
theorem worse_two (a : Nat) (ha : a ≤ 2) (w : World) : Calls Tryd.prog 18 #[.int .i64 (a : Int), .int .i64 2] w fun e w' => e = .returned (.int .i64 ((worseN a 2 : Nat) : Int)) ∧ w = w' := worse_any a 2 ha (Nat.le_refl 2) w
theorem pieces_new (x : UInt8) (n : Int) (hn : (x.toNat : Int) = n) (s : ByteArray) (w : World) (hs : s.size ≤ 2147483647) :
    Calls Tryd.prog 17 #[.string s, .int .u8 n] w fun e w' => ∃ g c p L, e = .returned (.slice (some ⟨g, 0, none⟩) (L.length + 1) c) ∧ Hid (M.bs p :: L.map M.bs = M.splitOn x (M.bs s)) ∧ SlAt w' g (p :: L) ∧ w.heap.size ≤ g ∧ Below w.heap.size w w' :=
  (cronPieces_any x n hn s w hs).mono fun e w' h => by
    obtain ⟨v, L, rfl, hL, hown, hb⟩ := h
    cases L with
    | nil => exact absurd hL.symm (M.splitOn_ne _ _)
    | cons p L =>
      obtain ⟨g, c, hv, hsl⟩ := hown.at (by simp)
      refine ⟨g, c, p, L, by rw [hv]; simp, Lib.hid hL, hsl, ?_, hb⟩
      rcases hown.2 with ⟨h, _⟩ | ⟨g', cap, cur, h, hg, _⟩
      · rw [hv] at h; cases h
      · rw [hv] at h
        injection h with h1 _ _
        injection h1 with h1
        injection h1 with h1 _ _
        omega
set_option maxHeartbeats 40000000 in
theorem specField_any (k : Nat) (s : ByteArray) (w : World) (hk : k ≤ 5) (hs : s.size ≤ 2147483647) :
    Calls Tryd.prog 6 #[.agg #[.int .i64 ((M.bdOf k).mn : Int), .int .i64 ((M.bdOf k).mx : Int), .int .i64 (k : Int)], .string s] w (FieldRes k s w) := by
  have HS := Lib.hid hs
  have HK := Lib.hid hk
  obtain ⟨mn, hmn⟩ : ∃ n, (M.bdOf k).mn = n := ⟨_, rfl⟩
  obtain ⟨mx, hmx⟩ : ∃ n, (M.bdOf k).mx = n := ⟨_, rfl⟩
  rw [hmn, hmx]
  have HIT : Hid (∀ (p : ByteArray) (w : World), p.size ≤ 2147483647 → Calls Tryd.prog 19 #[.agg #[.int .i64 (mn : Int), .int .i64 (mx : Int), .int .i64 (k : Int)], .string p] w (ItemRes k p w)) := Lib.hid (fun p w hp => by have := specItem_any k p w hk hp; rw [hmn, hmx] at this; exact this)
  clear hk hs hmn hmx
  go_enter Tryd.func6, Tryd.ntmps6
  go_upto_region 2 with fail
  have I0 : Hid (BxAt (((w.alloc (.cells #[.int .i64 (mn : Int), .int .i64 (mx : Int), .int .i64 (k : Int)] 31)).alloc (.cells (setL noneF).toArray 27)).alloc (.cells (setL noneF).toArray 27)) w.heap.size mn mx k) := Lib.hid (((BxAt.mk0 w mn mx k _).below (below_alloc _ _)).below (below_alloc _ _))
  have S0 : Hid (SetAt (((w.alloc (.cells #[.int .i64 (mn : Int), .int .i64 (mx : Int), .int .i64 (k : Int)] 31)).alloc (.cells (setL noneF).toArray 27)).alloc (.cells (setL noneF).toArray 27)) (w.heap.size + 1) noneF) := Lib.hid ((by have := SetAt.new (w.alloc (.cells #[.int .i64 (mn : Int), .int .i64 (mx : Int), .int .i64 (k : Int)] 31)) noneF 27 rfl; rw [heap_size_alloc] at this; exact this : SetAt _ (w.heap.size + 1) noneF).alloc _)
  have S2 : Hid (SetAt (((w.alloc (.cells #[.int .i64 (mn : Int), .int .i64 (mx : Int), .int .i64 (k : Int)] 31)).alloc (.cells (setL noneF).toArray 27)).alloc (.cells (setL noneF).toArray 27)) (w.heap.size + 1 + 1) noneF) := Lib.hid (by have := SetAt.new ((w.alloc (.cells #[.int .i64 (mn : Int), .int .i64 (mx : Int), .int .i64 (k : Int)] 31)).alloc (.cells (setL noneF).toArray 27)) noneF 27 rfl; rw [heap_size_alloc, heap_size_alloc] at this; exact this)
  have B0 : Hid (Below w.heap.size w (((w.alloc (.cells #[.int .i64 (mn : Int), .int .i64 (mx : Int), .int .i64 (k : Int)] 31)).alloc (.cells (setL noneF).toArray 27)).alloc (.cells (setL noneF).toArray 27))) := Lib.hid (((below_alloc _ _).alloc (by rw [heap_size_alloc]; omega) _).alloc (by rw [heap_size_alloc, heap_size_alloc]; omega) _)
  have HZ : Hid ((((w.alloc (.cells #[.int .i64 (mn : Int), .int .i64 (mx : Int), .int .i64 (k : Int)] 31)).alloc (.cells (setL noneF).toArray 27)).alloc (.cells (setL noneF).toArray 27)).heap.size = w.heap.size + 1 + 1 + 1) := Lib.hid (by rw [heap_size_alloc, heap_size_alloc, heap_size_alloc])
  generalize hw3 : (((w.alloc (.cells #[.int .i64 (mn : Int), .int .i64 (mx : Int), .int .i64 (k : Int)] 31)).alloc (.cells (setL noneF).toArray 27)).alloc (.cells (setL noneF).toArray 27)) = w0 at *
  simp only [zero_set] at *
  rw [hw3]
  clear hw3
  obtain ⟨N0, h0⟩ : ∃ n, w.heap.size = n := ⟨_, rfl⟩
  rw [h0] at I0 S0 S2 HZ ⊢
  have H0 := Lib.hid h0
  clear h0
  go_wp2_with (go_at_call 17; (with_reducible refine (pieces_new 44 44 rfl s _ HS.out).mono ?_); rintro e w1 ⟨g, c, p, L, rfl, HL, hsl, hge, hb⟩; have I1 : Hid (FSt k N0 g (p :: L) w w1 mn mx noneF) := Lib.hid ⟨I0.out.below hb, S0.out.below hb, S2.out.below hb, hsl, Below.up B0.out hb, by rw [H0.out]; exact Nat.le_refl _, by have := HZ.out; omega⟩; clear hsl hge hb)
  clear I0 S0 S2 B0 HZ
  obtain ⟨LL, hLL⟩ : ∃ LL, p :: L = LL := ⟨_, rfl⟩
  have HL2 : Hid (LL.map M.bs = M.splitOn 44 (M.bs s)) := Lib.hid (by rw [← hLL]; exact HL.out)
  rw [hLL] at I1
  have hlen : L.length + 1 = LL.length := by rw [← hLL]; rfl
  have HPS : Hid (∀ i (hi : i < LL.length), (LL[i]).size ≤ 2147483647) := Lib.hid (fun i hi => by
    have h1 : M.bs LL[i] ∈ M.splitOn 44 (M.bs s) := by rw [← HL2.out]; exact List.mem_map.2 ⟨_, List.getElem_mem hi, rfl⟩
    have h2 := M.piece_le 44 _ _ h1
    have := HS.out
    rw [M.bs_length, M.bs_length] at h2
    omega)
  have hll : LL.length ≤ 2147483648 := by
    have h1 : LL.length = (M.splitOn 44 (M.bs s)).length := by rw [← HL2.out, List.length_map]
    have h3 := M.splitOn_length 44 (M.bs s)
    have := HS.out
    rw [M.bs_length] at h3
    omega
  obtain ⟨n, hn⟩ : ∃ n, LL.length = n := ⟨_, rfl⟩
  have HN := Lib.hid hn
  have hlen2 : (L.length : Int) + 1 = (n : Int) := by omega
  rw [hn] at hll hlen
  rw [hlen2, hlen]
  clear hLL hlen HL hn hlen2
  go_loopw [7, 15] (fun v i wr => ∃ (j vd : Nat) (f : Nat → Bool), j ≤ n ∧ i = .int .i64 (j : Int) ∧ v = .int .i64 (vd : Int) ∧ Hid (PartOk k LL j f vd) ∧ Hid (FSt k N0 g LL w wr mn mx f)) (fun _ i _ => n - (intOf i).toNat)
  case atStart => exact ⟨0, 1, noneF, Nat.zero_le _, rfl, rfl, Lib.hid (PartOk.start _ _), I1⟩
  case round =>
    obtain ⟨j, vd, f, hj, rfl, rfl, HP, IX⟩ := hrel
    clear I1
    by_cases hlt : j < n
    · have hjn : (j : Int) < (n : Int) := by omega
      have hj0 : (0 : Int) ≤ (j : Int) := by omega
      have hjl : j < LL.length := by rw [HN.out]; exact hlt
      obtain ⟨q, hq⟩ : ∃ q, LL[j] = q := ⟨_, rfl⟩
      have hc := IX.out.sl.2 j hjl
      rw [hq] at hc
      have hqs := HPS.out j hjl
      rw [hq] at hqs
      have HQ : Hid (LL[j]? = some q) := Lib.hid (by rw [List.getElem?_eq_getElem hjl, hq])
      have HQS := Lib.hid hqs
      have hv2 : vd ≤ 2 := HP.out.1
      clear hq hqs hjl
      by_cases he : M.bs q = []
      · have e2 : q.toList = [] := by rw [toList_bs]; exact he
        have e1 : (q.toList == []) = true := by rw [e2]; rfl
        have HS2 := Lib.hid (PartOk.empty HP.out)
        clear he
        go_wp2_with (go_at_call 18; (with_reducible refine (worse_two vd hv2 _).mono ?_); rintro e w4 ⟨rfl, rfl⟩)
        refine ⟨⟨j + 1, worseN vd 2, f, by omega, by go_num, rfl, Lib.hid ?_, IX⟩, by simp [intOf]; omega⟩
        exact HS2.out
      · have e2 : ¬ q.toList = [] := by rw [toList_bs]; exact he
        have e1 : (q.toList == []) = false := by rw [beq_eq_false_iff_ne]; exact e2
        have HE := Lib.hid he
        clear he
        obtain ⟨c0, c1, c2, -⟩ := IX.out.bx
        go_upto_region 9 with (first
          | (go_at_call 19; (with_reducible refine (HIT.out q _ HQS.out).mono ?_); rintro e w4 ⟨⟨f', u, rfl, hi⟩, hb⟩; have HI := Lib.hid hi; have HU : u ≤ 2 := hi.1; have I4 := Lib.hid (IX.out.below hb); clear hi hb c0 c1 c2 hc)
          | (refine wpList_set_store rfl _ _ rfl _ noneF f' (by kernel_rfl) (by kernel_rfl) (SetAt.new w4 noneF 27 zero_set) ?_; intro W hW; have HW := Lib.hid (And.intro hW.it (I4.out.below (hW.bel (Nat.le_refl _) (below_alloc _ _)))); clear hW))
        obtain ⟨W3, hw3⟩ : ∃ W3, w4.heap.size = W3 := ⟨_, rfl⟩
        rw [hw3] at HW ⊢
        clear hw3
        go_wp2_with (first
          | (with_reducible refine wpList_set_load rfl _ rfl (N0 + 1 + 1) f rfl HW.out.2.s2 ?_)
          | (with_reducible refine wpList_set_load rfl _ rfl W3 f' rfl HW.out.1 ?_)
          | (go_at_call 20; (with_reducible refine (union_set f f' _).mono ?_); rintro e w5 ⟨rfl, hb⟩; have I5 := Lib.hid (HW.out.2.below hb); clear hb)
          | (go_at_call 18; (with_reducible refine (worse_any vd u hv2 HU _).mono ?_); rintro e w6 ⟨rfl, rfl⟩)
          | (refine wpList_set_store rfl _ _ rfl (N0 + 1 + 1) f (fun i => f i || f' i) (by kernel_rfl) (by kernel_rfl) I5.out.s2 ?_; intro W2 hW2; have I6 := Lib.hid (I5.out.sum hW2); clear hW2))
        refine ⟨⟨j + 1, worseN vd u, (fun i => f i || f' i), by omega, by go_num, rfl, Lib.hid ?_, I6⟩, by simp [intOf]; omega⟩
        exact HP.out.item HQ.out HE.out HI.out
    · have hjn : j = n := by omega
      subst hjn
      have HF := Lib.hid (show FieldOk k s f vd from (by have := HP.out; rw [← HN.out] at this; exact this.all HL2.out))
      have HB := Lib.hid IX.out.bel
      have HNE := Lib.hid (show w.heap.size ≤ N0 + 1 by rw [H0.out]; omega)
      have hjj : ¬ (j : Int) < (j : Int) := by omega
      clear hlt hj hll
      by_cases hv : vd = 1
      · subst hv
        go_wp2_with (first
          | (with_reducible refine wpList_set_load rfl _ rfl (N0 + 1 + 1) f rfl IX.out.s2 ?_)
          | (refine wpList_set_store rfl _ _ rfl (N0 + 1) noneF f (by kernel_rfl) (by kernel_rfl) IX.out.s1 ?_; intro W hW; have HW := Lib.hid (And.intro hW.it (hW.bel HNE.out HB.out)); clear hW))
        exact bodyPost_ret (results_set2 rfl _ _ (N0 + 1) f rfl HW.out.1) rfl (FieldRes.mk1 (v := 1) rfl HF.out HW.out.2)
      · have hv1 : ((vd : Int) != 1) = true := by simp; omega
        have HV := Lib.hid hv
        clear hv
        go_wp2_with (refine wpList_set_store rfl _ _ rfl (N0 + 1) noneF noneF (by kernel_rfl) (by kernel_rfl) IX.out.s1 ?_; intro W hW; have HW := Lib.hid (And.intro hW.it (hW.bel HNE.out HB.out)); clear hW)
        exact bodyPost_ret (results_set2 rfl _ _ (N0 + 1) noneF rfl HW.out.1) rfl (FieldRes.mk1 (v := vd) rfl ⟨HF.out.1, fun e => absurd e HV.out⟩ HW.out.2)
end Go.Proofs.YtjipjhpehfbpkaaDoor
