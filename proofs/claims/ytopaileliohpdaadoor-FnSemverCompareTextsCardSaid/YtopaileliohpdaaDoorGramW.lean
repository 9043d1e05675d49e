/-
  spec.grammar, spec.StrictVersion.
-/
import Derived.Test.YtopaileliohpdaaDoorGram
namespace Go.Proofs.YtopaileliohpdaaDoor
open Go.RowKit
set_option maxRecDepth 100000
set_option linter.unusedVariables false

/-- what spec.grammar gives -/
def optRes : Option V → Value
  | some x => .tuple #[x.v, .bool true]
  | none => .tuple #[V.zero.v, .bool false]
def gramRes (l : M.Bs) : Value := optRes (M.gram l)
theorem gramRes_none {l : M.Bs} (h : M.gram l = none) : gramRes l = .tuple #[V.zero.v, .bool false] := by unfold gramRes; rw [h]; rfl
theorem gramRes_some {l : M.Bs} {x : V} (h : M.gram l = some x) : gramRes l = .tuple #[x.v, .bool true] := by unfold gramRes; rw [h]; rfl
theorem gram_ok {l : M.Bs} (h : M.tailsOk l = false) : M.gram l = none := by unfold M.gram; rw [h]; rfl
theorem gram_len {l : M.Bs} (h : (M.splitOn 46 (M.coreOf l)).length ≠ 3) : M.gram l = none := by unfold M.gram; rw [decide_eq_false h, Bool.and_false]; rfl
theorem gram_num {l a b c q : M.Bs} {k : Nat} (h : M.splitOn 46 (M.coreOf l) = [a, b, c]) (hk : [a, b, c][k]? = some q) (hq : M.gnum q = false) : M.gram l = none := by
  have : (M.splitOn 46 (M.coreOf l)).all M.gnum = false := by
    rw [h, List.all_eq_false]
    exact ⟨q, List.mem_of_getElem? hk, by rw [hq]; simp⟩
  unfold M.gram
  rw [this, Bool.and_false]
  rfl
theorem gram_good {l a b c : M.Bs} {p m : ByteArray} (ht : M.tailsOk l = true) (h : M.splitOn 46 (M.coreOf l) = [a, b, c]) (hq : [a, b, c].all M.gnum = true) (hp : M.bs p = M.cut2 45 (M.cut1 43 l)) (hm : M.bs m = M.cut2 43 l) :
    M.gram l = some ⟨M.val a, M.val b, M.val c, p, m⟩ := by
  unfold M.gram
  rw [h, ht, hq, ← hp, ← hm, M.toB_bs, M.toB_bs]
  rfl
/-- what the loop over the three numbers keeps -/
structure GSt (A B C : M.Bs) (M' : Nat) (W wr : World) (k : Nat) : Prop where
  good : ([A, B, C].take k).all M.gnum = true
  arr : AtN wr M' (nv [A, B, C] 0 k) (nv [A, B, C] 1 k) (nv [A, B, C] 2 k)
  bel : Below M' W wr
theorem GSt.step {A B C : M.Bs} {M' : Nat} {W wr : World} {k v : Nat} {q : M.Bs} (h : GSt A B C M' W wr k) (hk : k < 3) (hq : [A, B, C][k]? = some q) (hc : M.gnum q = true) (hv : v = M.numv q) : GSt A B C M' W (wr.setCell ⟨M', k, none⟩ (.int .u64 v)) (k + 1) := by
  refine ⟨?_, ?_, h.bel.setCell (Nat.le_refl _) _⟩
  · rw [List.take_add_one, hq, List.all_append, h.good]
    simp [hc]
  · have h1 := h.arr.set k v hk
    obtain rfl | rfl | rfl : k = 0 ∨ k = 1 ∨ k = 2 := by omega
    all_goals
      simp at hq
      subst hq
      simpa [nv, hv] using h1
theorem gnum_no {q : M.Bs} (h : M.fits q = false) : M.gnum q = false := by unfold M.gnum; rw [h]; rfl
theorem gnum_one {q : ByteArray} (h : M.fits (M.bs q) = true) (hl : ¬ 1 < q.size) : M.gnum (M.bs q) = true := by unfold M.gnum; rw [h, M.bs_length, decide_eq_false hl]; rfl
theorem gnum_zero {q : ByteArray} (h : M.fits (M.bs q) = true) (hl : 1 < q.size) (h0 : 0 < q.size) (hb : (((q[0]'h0).toNat : Int) == 48) = true) : M.gnum (M.bs q) = false := by
  unfold M.gnum
  rw [h, M.bs_length, decide_eq_true hl, head_eq q h0, byte_eq 48 rfl hb]
  rfl
theorem gnum_two {q : ByteArray} (h : M.fits (M.bs q) = true) (h0 : 0 < q.size) (hb : (((q[0]'h0).toNat : Int) == 48) = false) : M.gnum (M.bs q) = true := by
  unfold M.gnum
  rw [h, head_eq q h0]
  simp [byte_ne 48 rfl hb]
theorem Below.lift {B : Nat} {a b c : World} (h : Below B a b) (k : Below b.heap.size b c) (hB : B ≤ a.heap.size) : Below B a c := h.trans (k.mono (Nat.le_trans hB h.size))
set_option maxHeartbeats 4000000 in
theorem grammar_any (s : ByteArray) (w : World) (hs : s.size ≤ 2147483647) :
    Calls Tryd.prog 64 #[.string s] w fun e w' => e = .returned (gramRes (M.bs s)) ∧ Below w.heap.size w w' := by
  go_enter Tryd.func64, Tryd.ntmps64
  go_upto_region 3 with (first
    | (go_at_call 92; (with_reducible refine (tails_any s _ hs).mono ?_); rintro e w1 ⟨c, p, m, rfl, hc, hp, hm, hb⟩; have HP := Lib.hid hp; have HM := Lib.hid hm; have HB1 := Lib.hid (Below.up (w := w) (by (repeat (first | exact Below.refl _ _ | apply Below.drew | (apply below_alloc_on (Nat.le_refl _))))) hb); have HC := Lib.hid hc; have HT1 := Lib.hid (AtP.below (x := V.zero) (N := w.heap.size) (alloc_at _ _ _ rfl) hb); have zc : c.size ≤ 2147483647 := (by have h1 := cut1_len 45 (M.cut1 43 (M.bs s)); have h2 := cut1_len 43 (M.bs s); have h3 : (M.bs c).length = (M.cut1 45 (M.cut1 43 (M.bs s))).length := congrArg List.length hc; rw [M.bs_length] at h3 h2; omega); clear hc hp hm hb)
    | (go_at_call 44; (with_reducible refine (identifiers_any c _ zc).mono ?_); rintro e w2 ⟨v, L, rfl, hL, hown, hb⟩; rw [HC.out] at hL; have HL := Lib.hid hL; have HO := Lib.hid hown; obtain ⟨A, cap0, rfl, _⟩ := hown.read; have HB2 := Lib.hid (Below.up HB1.out hb); have HT := Lib.hid (HT1.out.below hb); clear hL hown hb))
  obtain ⟨v0, v1, v2, v3, v4⟩ := HT.out.cells
  have l0 := HT.out.loose 0; have l1 := HT.out.loose 1; have l2 := HT.out.loose 2; have l3 := HT.out.loose 3; have l4 := HT.out.loose 4
  rcases ho : M.tailsOk (M.bs s) with _ | _
  · have H0 := Lib.hid ho
    clear ho
    go_wp2
    refine post_ver rfl w.heap.size V.zero (.bool false) rfl rfl rfl ?_ ⟨?_, ?_⟩
    · exact AtP.store5 HT.out V.zero
    · rw [gramRes_none (gram_ok H0.out)]
    · exact up_store5 HB2.out (Nat.le_refl _) _ _ _ _ _
  have H0 := Lib.hid ho
  clear ho
  by_cases h3 : L.length = 3
  case neg =>
    have H3 := Lib.hid h3
    have h9 : ((L.length : Int) != 3) = true := by simp; omega
    go_wp2
    refine post_ver rfl w.heap.size V.zero (.bool false) rfl rfl rfl ?_ ⟨?_, ?_⟩
    · exact AtP.store5 HT.out V.zero
    · rw [gramRes_none (gram_len (by rw [← HL.out, List.length_map]; exact H3.out))]
    · exact up_store5 HB2.out (Nat.le_refl _) _ _ _ _ _
  obtain ⟨a, b, c', rfl⟩ := three_of h3
  obtain ⟨g, cap, hv, hg, hgl⟩ := HO.out.slice3
  obtain ⟨rfl, rfl⟩ : A = some ⟨g, 0, none⟩ ∧ cap0 = cap := by
    simp at hv
    exact ⟨hv.1, hv.2⟩
  have HG := Lib.hid hgl
  have H3 : Hid (M.splitOn 46 (M.coreOf (M.bs s)) = [M.bs a, M.bs b, M.bs c']) := Lib.hid HL.out.symm
  have HZ : Hid (a.size ≤ 2147483647 ∧ b.size ≤ 2147483647 ∧ c'.size ≤ 2147483647) := Lib.hid (by
    have k := M.piece_le 46 (M.bs c)
    rw [HC.out, ← HL.out] at k
    have ka := k (M.bs a) (by simp)
    have kb := k (M.bs b) (by simp)
    have kc := k (M.bs c') (by simp)
    rw [← HC.out, M.bs_length, M.bs_length] at ka kb kc
    omega)
  clear hv hg hgl h3 l0 l1 l2 l3 l4 v0 v1 v2 v3 v4
  go_wp2_with fail
  change Code.wp _ _ _ _ (w2.alloc (.cells #[.int .u64 0, .int .u64 0, .int .u64 0] 51))
  have RS : Hid (∀ k q, [a, b, c'][k]? = some q → (w2.alloc (.cells #[.int .u64 0, .int .u64 0, .int .u64 0] 51)).cell? ⟨g, k, none⟩ = some (.string q)) := Lib.hid (fun k q hq => by
    refine cell_alloc_some ?_
    have hk := (List.getElem?_eq_some_iff.1 hq).1
    rw [HO.out.cellAt rfl k hk]
    rw [List.getElem?_eq_getElem hk] at hq
    rw [Option.some.inj hq])
  have AN : Hid (AtN (w2.alloc (.cells #[.int .u64 0, .int .u64 0, .int .u64 0] 51)) w2.heap.size 0 0 0) := Lib.hid (alloc_at _ _ _ rfl)
  have HTW : Hid (AtP (w2.alloc (.cells #[.int .u64 0, .int .u64 0, .int .u64 0] 51)) w.heap.size V.zero) := Lib.hid (HT.out.below (below_alloc _ _))
  have HB : Hid (Below w.heap.size w (w2.alloc (.cells #[.int .u64 0, .int .u64 0, .int .u64 0] 51))) := Lib.hid (Below.up HB2.out (below_alloc _ _))
  have HTM : Hid (w.heap.size < w2.heap.size) := Lib.hid HT.out.lt
  generalize (w2.alloc (.cells #[.int .u64 0, .int .u64 0, .int .u64 0] 51)) = W at *
  clear HO HT HB1 HB2 HL HT1
  generalize w2.heap.size = M' at *
  go_loopw [33] (fun i wr => ∃ k : Nat, k ≤ 3 ∧ i = .int .i64 k ∧ Hid (GSt (M.bs a) (M.bs b) (M.bs c') M' W wr k)) (fun i _ => 3 - (intOf i).toNat)
  case atStart => exact ⟨0, Nat.zero_le _, rfl, Lib.hid ⟨rfl, AN.out, Below.refl _ _⟩⟩
  case round =>
    obtain ⟨k, hk, rfl, HI⟩ := hrel
    have HBr := Lib.hid (HB.out.trans (HI.out.bel.mono (Nat.le_of_lt HTM.out)))
    have HTr : Hid (AtP wr w.heap.size V.zero) := Lib.hid (by unfold AtP; rw [HI.out.bel.block _ HTM.out]; exact HTW.out)
    obtain ⟨v0, v1, v2, v3, v4⟩ := HTr.out.cells
    have l0 := HTr.out.loose 0; have l1 := HTr.out.loose 1; have l2 := HTr.out.loose 2; have l3 := HTr.out.loose 3; have l4 := HTr.out.loose 4
    rcases Nat.lt_or_ge k 3 with hlt | hlt
    · obtain ⟨q, hq⟩ := three_at (a := a) (b := b) (c := c') hlt
      have cq : wr.cell? ⟨g, k, none⟩ = some (.string q) := (HI.out.bel.cell (p := ⟨g, k, none⟩) HG.out).trans (RS.out k q hq)
      have zq : q.size ≤ 2147483647 := three_size hq HZ.out.1 HZ.out.2.1 HZ.out.2.2
      have HQ := Lib.hid (three_map hq)
      clear hq
      rcases hf : M.fits (M.bs q) with _ | _
      · have HF := Lib.hid hf
        clear hf
        go_wp2_with (go_at_call 36; (with_reducible refine (number_no q _ (by omega) HF).mono ?_); rintro e w' ⟨rfl, rfl⟩)
        refine post_ver rfl w.heap.size V.zero (.bool false) rfl rfl rfl ?_ ⟨?_, ?_⟩
        · exact AtP.store5 HTr.out V.zero
        · rw [gramRes_none (gram_num H3.out HQ.out (gnum_no HF.out))]
        · exact up_store5 HBr.out (Nat.le_refl _) _ _ _ _ _
      · have HF := Lib.hid hf
        have hq0 := fits_pos hf
        have hq0i : (0 : Int) < q.size := by omega
        have HV := Lib.hid (show M.val (M.bs q) = M.numv (M.bs q) by unfold M.numv; rw [hf]; rfl)
        clear hf
        obtain ⟨u, cu⟩ := HI.out.arr.at hlt
        have lu := HI.out.arr.loose k
        have kb : (k : Int) < 3 := by omega
        by_cases hl1 : 1 < (q.size : Int)
        · have HL1 := Lib.hid (show 1 < q.size by omega)
          rcases h48 : (((q[0]'hq0).toNat : Int) == 48) with _ | _
          · have H48 := Lib.hid h48
            go_wp2_with (go_at_call 36; (with_reducible refine (number_yes q _ (by omega) HF).mono ?_); rintro e w' ⟨rfl, rfl⟩)
            go_roundw
            case rel => first | exact ⟨k + 1, hlt, by go_num, Lib.hid (GSt.step HI.out hlt HQ.out (gnum_two HF.out hq0 H48.out) HV.out)⟩ | ((repeat apply Exists.intro); exact ⟨⟨k + 1, hlt, by go_num, Lib.hid (GSt.step HI.out hlt HQ.out (gnum_two HF.out hq0 H48.out) HV.out)⟩, by first | rfl | ((repeat' apply And.intro) <;> rfl)⟩)
            case measure => simp [intOf]; omega
          · have H48 := Lib.hid h48
            go_wp2_with (go_at_call 36; (with_reducible refine (number_yes q _ (by omega) HF).mono ?_); rintro e w' ⟨rfl, rfl⟩)
            refine post_ver rfl w.heap.size V.zero (.bool false) rfl rfl rfl ?_ ⟨?_, ?_⟩
            · exact AtP.store5 HTr.out V.zero
            · rw [gramRes_none (gram_num H3.out HQ.out (gnum_zero HF.out HL1.out hq0 H48.out))]
            · exact up_store5 HBr.out (Nat.le_refl _) _ _ _ _ _
        · have HL1 := Lib.hid (show ¬ 1 < q.size by omega)
          go_wp2_with (go_at_call 36; (with_reducible refine (number_yes q _ (by omega) HF).mono ?_); rintro e w' ⟨rfl, rfl⟩)
          go_roundw
          case rel => first | exact ⟨k + 1, hlt, by go_num, Lib.hid (GSt.step HI.out hlt HQ.out (gnum_one HF.out HL1.out) HV.out)⟩ | ((repeat apply Exists.intro); exact ⟨⟨k + 1, hlt, by go_num, Lib.hid (GSt.step HI.out hlt HQ.out (gnum_one HF.out HL1.out) HV.out)⟩, by first | rfl | ((repeat' apply And.intro) <;> rfl)⟩)
          case measure => simp [intOf]; omega
    · have hk3 : k = 3 := by omega
      have hgd := HI.out.good
      have harr := HI.out.arr
      rw [hk3] at hgd harr
      have HGD : Hid ([M.bs a, M.bs b, M.bs c'].all M.gnum = true) := Lib.hid hgd
      have hg3 : M.fits (M.bs a) = true ∧ M.fits (M.bs b) = true ∧ M.fits (M.bs c') = true := by
        have := HGD.out
        simp only [List.all_cons, List.all_nil, Bool.and_true, Bool.and_eq_true] at this
        exact ⟨(M.gnum_num this.1).2, (M.gnum_num this.2.1).2, (M.gnum_num this.2.2).2⟩
      have HR : Hid (M.gram (M.bs s) = some ⟨M.val (M.bs a), M.val (M.bs b), M.val (M.bs c'), p, m⟩) := Lib.hid (gram_good H0.out H3.out HGD.out HP.out HM.out)
      have e0 : nv [M.bs a, M.bs b, M.bs c'] 0 3 = M.val (M.bs a) := by simp [nv, M.numv, hg3.1]
      have e1 : nv [M.bs a, M.bs b, M.bs c'] 1 3 = M.val (M.bs b) := by simp [nv, M.numv, hg3.2.1]
      have e2 : nv [M.bs a, M.bs b, M.bs c'] 2 3 = M.val (M.bs c') := by simp [nv, M.numv, hg3.2.2]
      rw [e0, e1, e2] at harr
      obtain ⟨n0, n1, n2⟩ := harr.cells
      clear e0 e1 e2 hg3 harr hgd
      go_wp2
      refine post_ver rfl w.heap.size ⟨M.val (M.bs a), M.val (M.bs b), M.val (M.bs c'), p, m⟩ (.bool true) rfl rfl rfl ?_ ⟨?_, ?_⟩
      · exact AtP.store5 HTr.out ⟨M.val (M.bs a), M.val (M.bs b), M.val (M.bs c'), p, m⟩
      · rw [gramRes_some HR.out]
      · exact up_store5 HBr.out (Nat.le_refl _) _ _ _ _ _
theorem optRes_some {x : V} : optRes (some x) = .tuple #[.agg #[.int .u64 x.a, .int .u64 x.b, .int .u64 x.c, .string x.p, .string x.m], .bool true] := rfl
theorem grammar_some (s : ByteArray) (x : V) (w : World) (hs : s.size ≤ 2147483647) (hx : Hid (M.gram (M.bs s) = some x)) :
    Calls Tryd.prog 64 #[.string s] w fun e w' => e = .returned (.tuple #[.agg #[.int .u64 x.a, .int .u64 x.b, .int .u64 x.c, .string x.p, .string x.m], .bool true]) ∧ Below w.heap.size w w' := by
  have := grammar_any s w hs
  rw [gramRes_some hx.out] at this
  exact this
theorem grammar_none (s : ByteArray) (w : World) (hs : s.size ≤ 2147483647) (hx : Hid (M.gram (M.bs s) = none)) :
    Calls Tryd.prog 64 #[.string s] w fun e w' => e = .returned (.tuple #[.agg #[.int .u64 0, .int .u64 0, .int .u64 0, .string ⟨#[]⟩, .string ⟨#[]⟩], .bool false]) ∧ Below w.heap.size w w' := by
  have := grammar_any s w hs
  rw [gramRes_none hx.out] at this
  exact this
/-- what spec.StrictVersion reads -/
def M.specStrict (s : M.Bs) : Option V := if 256 < s.length then none else M.gram s
theorem specStrict_some (s : ByteArray) (x : V) (w : World) (hs : s.size ≤ 2147483647) (hx : Hid (M.specStrict (M.bs s) = some x)) :
    Calls Tryd.prog 38 #[.string s] w fun e w' => e = .returned (.tuple #[.agg #[.int .u64 x.a, .int .u64 x.b, .int .u64 x.c, .string x.p, .string x.m], .bool true]) ∧ Below w.heap.size w w' := by
  by_cases hl : 256 < (s.size : Int)
  · exfalso
    have := hx.out
    unfold M.specStrict at this
    rw [M.bs_length, if_pos (by omega)] at this
    cases this
  have hx2 : Hid (M.gram (M.bs s) = some x) := Lib.hid (by
    have := hx.out
    unfold M.specStrict at this
    rw [M.bs_length, if_neg (by omega)] at this
    exact this)
  go_enter Tryd.func38, Tryd.ntmps38
  go_wp2_with (go_at_call 64; (with_reducible refine (grammar_some s x _ hs hx2).mono ?_); rintro e w1 ⟨rfl, hb⟩; have HZ := Lib.hid (AtP.below (x := V.zero) (N := w.heap.size) (alloc_at _ _ _ rfl) hb); have HB := Lib.hid (Below.up (w := w) (by (repeat (first | exact Below.refl _ _ | apply Below.drew | (apply below_alloc_on (Nat.le_refl _))))) hb); obtain ⟨z0, z1, z2, z3, z4⟩ := HZ.out.cells; have l0 := HZ.out.loose 0; have l1 := HZ.out.loose 1; have l2 := HZ.out.loose 2; have l3 := HZ.out.loose 3; have l4 := HZ.out.loose 4; clear hb)
  refine post_ver rfl w.heap.size x (.bool true) rfl rfl rfl ?_ ⟨rfl, ?_⟩
  · exact AtP.store5 HZ.out x
  · exact up_store5 HB.out (Nat.le_refl _) _ _ _ _ _
theorem specStrict_none (s : ByteArray) (w : World) (hs : s.size ≤ 2147483647) (hx : Hid (M.specStrict (M.bs s) = none)) :
    Calls Tryd.prog 38 #[.string s] w fun e w' => e = .returned (.tuple #[.agg #[.int .u64 0, .int .u64 0, .int .u64 0, .string ⟨#[]⟩, .string ⟨#[]⟩], .bool false]) ∧ Below w.heap.size w w' := by
  by_cases hl : 256 < (s.size : Int)
  · go_enter Tryd.func38, Tryd.ntmps38
    go_wp2
    refine post_ver rfl w.heap.size V.zero (.bool false) rfl rfl rfl ?_ ⟨rfl, ?_⟩
    · exact alloc_at _ _ _ rfl
    · (repeat (first | exact Below.refl _ _ | apply Below.drew | (apply below_alloc_on (Nat.le_refl _))))
  have hx2 : Hid (M.gram (M.bs s) = none) := Lib.hid (by
    have := hx.out
    unfold M.specStrict at this
    rw [M.bs_length, if_neg (by omega)] at this
    exact this)
  go_enter Tryd.func38, Tryd.ntmps38
  go_wp2_with (go_at_call 64; (with_reducible refine (grammar_none s _ hs hx2).mono ?_); rintro e w1 ⟨rfl, hb⟩; have HZ := Lib.hid (AtP.below (x := V.zero) (N := w.heap.size) (alloc_at _ _ _ rfl) hb); have HB := Lib.hid (Below.up (w := w) (by (repeat (first | exact Below.refl _ _ | apply Below.drew | (apply below_alloc_on (Nat.le_refl _))))) hb); obtain ⟨z0, z1, z2, z3, z4⟩ := HZ.out.cells; have l0 := HZ.out.loose 0; have l1 := HZ.out.loose 1; have l2 := HZ.out.loose 2; have l3 := HZ.out.loose 3; have l4 := HZ.out.loose 4; clear hb)
  refine post_ver rfl w.heap.size V.zero (.bool false) rfl rfl rfl ?_ ⟨rfl, ?_⟩
  · exact AtP.store5 HZ.out V.zero
  · exact up_store5 HB.out (Nat.le_refl _) _ _ _ _ _
end Go.Proofs.YtopaileliohpdaaDoor
