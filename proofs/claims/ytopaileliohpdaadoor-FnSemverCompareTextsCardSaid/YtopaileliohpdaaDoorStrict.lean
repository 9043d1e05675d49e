/-
  semver.StrictNewVersion.
-/
import Derived.Test.YtopaileliohpdaaDoorStrictM
import Derived.Deep.DeepCutAuto
namespace Go.Proofs.YtopaileliohpdaaDoor
open Go.RowKit
set_option maxRecDepth 100000
set_option linter.unusedVariables false

/-- the errors that StrictNewVersion tells lie as their variables' cells -/
structure SErrs (w : World) : Prop where
  e0 : ∃ t p, w.cell? ⟨0, 0, none⟩ = some (.iface t p)
  e1 : ∃ t p, w.cell? ⟨1, 0, none⟩ = some (.iface t p)
  e2 : ∃ t p, w.cell? ⟨2, 0, none⟩ = some (.iface t p)
  e3 : ∃ t p, w.cell? ⟨5, 0, none⟩ = some (.iface t p)
  e4 : ∃ t p, w.cell? ⟨6, 0, none⟩ = some (.iface t p)
  e5 : ∃ t p, w.cell? ⟨4, 0, none⟩ = some (.iface t p)
  e6 : ∃ t p, w.cell? ⟨3, 0, none⟩ = some (.iface t p)
  num : NumErrs w
theorem errCell {w w' : World} {G : Nat} (h : ∃ t p, w.cell? ⟨G, 0, none⟩ = some (.iface t p)) (b : Below w.heap.size w w') : ∃ t p, w'.cell? ⟨G, 0, none⟩ = some (.iface t p) := by
  obtain ⟨t, p, h⟩ := h
  exact ⟨t, p, cell_below b h⟩
theorem SErrs.below {w w' : World} (h : SErrs w) (b : Below w.heap.size w w') : SErrs w' :=
  ⟨errCell h.e0 b, errCell h.e1 b, errCell h.e2 b, errCell h.e3 b, errCell h.e4 b, errCell h.e5 b, errCell h.e6 b, h.num.below b⟩
theorem zzContains_is (s : ByteArray) (x : UInt8) (r : Bool) (w : World) (hs : s.size ≤ 140737488351232) (hr : Hid (M.has x (M.bs s) = r)) :
    Calls Tryd.prog 88 #[.string s, .string ⟨#[x]⟩] w fun e w' => e = .returned (.bool r) ∧ w' = w := by
  have := zzContains_any s x w hs
  rw [show decide (0 ≤ M.idx x (M.bs s)) = r from hr.out] at this
  exact this
theorem only_num_is (s : ByteArray) (r : Bool) (w : World) (hr : Hid ((M.bs s).all M.isDig = r)) :
    Calls Tryd.prog 90 #[.string s, .string ⟨#[48, 49, 50, 51, 52, 53, 54, 55, 56, 57]⟩] w fun e w' => e = .returned (.bool r) ∧ Below w.heap.size w w' := by
  have := only_num_any s w
  rw [hr.out] at this
  exact this
theorem metaNot (s : ByteArray) (w : World) (hs : s.size ≤ 2147483647) (h : SErrs w) (hv : Hid (M.validMeta (M.bs s) = false)) :
    Calls Tryd.prog 68 #[.string s] w fun e w' => (∃ t p, e = .returned (.iface t p)) ∧ Below w.heap.size w w' := by
  obtain ⟨t, p, hg⟩ := h.e3
  exact (validateMetadata_bad s _ w hs hg hv).mono fun e w' h => ⟨⟨t, p, h.1⟩, h.2⟩
theorem metaYes (s : ByteArray) (w : World) (hs : s.size ≤ 2147483647) (h : SErrs w) (hv : Hid (M.validMeta (M.bs s) = true)) :
    Calls Tryd.prog 68 #[.string s] w fun e w' => e = .returned .nilIface ∧ Below w.heap.size w w' := by
  obtain ⟨t, p, hg⟩ := h.e3
  exact validateMetadata_ok s _ w hs hg hv
theorem preNot (s : ByteArray) (w : World) (hs : s.size ≤ 2147483647) (h : SErrs w) (hv : Hid (M.validPre (M.bs s) = false)) :
    Calls Tryd.prog 89 #[.string s] w fun e w' => (∃ t p, e = .returned (.iface t p)) ∧ Below w.heap.size w w' := by
  obtain ⟨t, p, hg⟩ := h.e4
  obtain ⟨t2, p2, hh⟩ := h.e5
  refine (validatePrerelease_any s _ _ w hs hg hh).mono fun e w' h => ?_
  have hne : M.preRes (M.splitOn 46 (M.bs s)) ≠ 0 := fun k => by
    have := (M.preRes_zero _).1 k
    rw [show (M.splitOn 46 (M.bs s)).all (fun p => M.validId p && !M.zeroNum p) = M.validPre (M.bs s) from rfl, hv.out] at this
    cases this
  rcases hk : M.preRes (M.splitOn 46 (M.bs s)) with _ | _ | k
  · exact absurd hk hne
  · exact ⟨⟨t, p, by rw [h.1, hk]; rfl⟩, h.2⟩
  · exact ⟨⟨t2, p2, by rw [h.1, hk]; rfl⟩, h.2⟩
theorem preYes (s : ByteArray) (w : World) (hs : s.size ≤ 2147483647) (h : SErrs w) (hv : Hid (M.validPre (M.bs s) = true)) :
    Calls Tryd.prog 89 #[.string s] w fun e w' => e = .returned .nilIface ∧ Below w.heap.size w w' := by
  obtain ⟨t, p, hg⟩ := h.e4
  obtain ⟨t2, p2, hh⟩ := h.e5
  exact validatePre_0 s _ _ w hs hg hh (Lib.hid ((M.preRes_zero _).2 hv.out))
theorem strict_empty (s : ByteArray) (w : World) (h : SErrs w) (h0 : s.size = 0) (hs : s.size ≤ 2147483647) :
    Calls Tryd.prog 63 #[.string s] w (StrictEnd s w) := by
  obtain ⟨t, p, hg⟩ := h.e0
  have H0 := Lib.hid (M.strict_len (s := M.bs s) (by rw [M.bs_length]; exact .inl h0))
  go_enter Tryd.func63, Tryd.ntmps63
  go_wp2_with fail
  go_region
  all_goals
    go_wp2
    refine bodyPost_ret (results_tmp2 rfl _ _ _) rfl ?_
    exact ⟨by (repeat (first | exact Below.refl _ _ | apply Below.drew | (apply below_alloc_on (Nat.le_refl _)))), .inl ⟨H0.out, t, p, rfl⟩⟩
theorem strict_long (s : ByteArray) (w : World) (h : SErrs w) (h0 : 256 < s.size) (hs : s.size ≤ 2147483647) :
    Calls Tryd.prog 63 #[.string s] w (StrictEnd s w) := by
  obtain ⟨t, p, hg⟩ := h.e1
  have H0 := Lib.hid (M.strict_len (s := M.bs s) (by rw [M.bs_length]; exact .inr h0))
  go_enter Tryd.func63, Tryd.ntmps63
  go_wp2_with fail
  go_region
  all_goals
    go_wp2
    refine bodyPost_ret (results_tmp2 rfl _ _ _) rfl ?_
    exact ⟨by (repeat (first | exact Below.refl _ _ | apply Below.drew | (apply below_alloc_on (Nat.le_refl _)))), .inl ⟨H0.out, t, p, rfl⟩⟩
theorem strict_nosplit (s : ByteArray) (w : World) (h : SErrs w) (h0 : ¬ s.size = 0) (h1 : s.size ≤ 256) (h2 : (M.splitN 46 2 (M.bs s)).length ≠ 3) :
    Calls Tryd.prog 63 #[.string s] w (StrictEnd s w) := by
  have HE := Lib.hid h
  have H0 := Lib.hid (M.strict_split h2)
  have H2 := Lib.hid h2
  clear h h2
  have hs : s.size ≤ 2147483647 := by omega
  have hz1 : ((s.size : Int) == 0) = false := by simpa using h0
  have hz2 : ¬ (256 : Int) < s.size := by omega
  go_enter Tryd.func63, Tryd.ntmps63
  go_wp2_with (go_at_call 87; (with_reducible refine (zzSplitN_3 s 46 _ hs).mono ?_); rintro e w1 ⟨v, L, rfl, hL, hown, hb⟩; obtain ⟨A, cap, rfl, _⟩ := hown.read; have h9 : ((L.length : Int) != 3) = true := (by have := congrArg List.length hL; rw [List.length_map] at this; have := H2.out; simp; omega); have HB1 := Lib.hid hb; obtain ⟨t, p, hg⟩ := (HE.out.below hb).e2; clear hL hown hb)
  go_region
  all_goals
    go_wp2
    refine bodyPost_ret (results_tmp2 rfl _ _ _) rfl ?_
    exact ⟨HB1.out.drew, .inl ⟨H0.out, t, p, rfl⟩⟩
/-- behind the statement that parts the metadata off -/
def MetaDone (w : World) (g cap N : Nat) (a b c s : ByteArray) (wx : World) : Prop :=
  ∃ c1 m, StI w wx g cap N a b c1 ⟨0, 0, 0, ⟨#[]⟩, m⟩ s ∧ M.bs c1 = M.noMeta (M.bs c) ∧ M.bs m = M.metaOf (M.bs c) ∧ (M.has 43 (M.bs c) && !M.validMeta (M.after 43 (M.bs c))) = false ∧ c1.size ≤ 2147483647 ∧ m.size ≤ 2147483647
theorem noMeta_len (c : M.Bs) : (M.noMeta c).length ≤ c.length := by unfold M.noMeta M.before; split <;> simp [List.length_take] <;> omega
theorem metaOf_len (c : M.Bs) : (M.metaOf c).length ≤ c.length := by unfold M.metaOf M.after; split <;> simp [List.length_drop]
theorem noPre_len (c : M.Bs) : (M.noPre c).length ≤ c.length := by unfold M.noPre M.before; split <;> simp [List.length_take] <;> omega
theorem preOf_len (c : M.Bs) : (M.preOf c).length ≤ c.length := by unfold M.preOf M.after; split <;> simp [List.length_drop]
theorem MetaDone.mk {w wx : World} {g cap N : Nat} {a b c s c1 m : ByteArray} (h : StI w wx g cap N a b c1 ⟨0, 0, 0, ⟨#[]⟩, m⟩ s) (h1 : M.bs c1 = M.noMeta (M.bs c)) (h2 : M.bs m = M.metaOf (M.bs c)) (h3 : (M.has 43 (M.bs c) && !M.validMeta (M.after 43 (M.bs c))) = false) (hc : c.size ≤ 2147483647) : MetaDone w g cap N a b c s wx := by
  refine ⟨c1, m, h, h1, h2, h3, ?_, ?_⟩
  · have := noMeta_len (M.bs c); rw [← h1, M.bs_length, M.bs_length] at this; omega
  · have := metaOf_len (M.bs c); rw [← h2, M.bs_length, M.bs_length] at this; omega
theorem metaNone {c : M.Bs} (h : M.has 43 c = true) (hv : M.validMeta (M.after 43 c) = false) (a b : M.Bs) : M.strictParts a b c = none := by
  unfold M.strictParts
  rw [h, hv]
  rfl
/-- behind the statement that parts the prerelease off -/
def PreDone (w : World) (g cap N : Nat) (a b c1 m s : ByteArray) (wx : World) : Prop :=
  ∃ c2 p, StI w wx g cap N a b c2 ⟨0, 0, 0, p, m⟩ s ∧ M.bs c2 = M.noPre (M.bs c1) ∧ M.bs p = M.preOf (M.bs c1) ∧ (M.has 45 (M.bs c1) && !M.validPre (M.after 45 (M.bs c1))) = false ∧ c2.size ≤ 2147483647
theorem PreDone.mk {w wx : World} {g cap N : Nat} {a b c1 m s c2 p : ByteArray} (h : StI w wx g cap N a b c2 ⟨0, 0, 0, p, m⟩ s) (h1 : M.bs c2 = M.noPre (M.bs c1)) (h2 : M.bs p = M.preOf (M.bs c1)) (h3 : (M.has 45 (M.bs c1) && !M.validPre (M.after 45 (M.bs c1))) = false) (hc : c1.size ≤ 2147483647) : PreDone w g cap N a b c1 m s wx := by
  refine ⟨c2, p, h, h1, h2, h3, ?_⟩
  have := noPre_len (M.bs c1); rw [← h1, M.bs_length, M.bs_length] at this; omega
theorem parts_pre {c c1 m : ByteArray} (e1 : M.bs c1 = M.noMeta (M.bs c)) (e3 : (M.has 43 (M.bs c) && !M.validMeta (M.after 43 (M.bs c))) = false) (h : M.has 45 (M.bs c1) = true) (hv : M.validPre (M.after 45 (M.bs c1)) = false) (a b : M.Bs) : M.strictParts a b (M.bs c) = none := by
  unfold M.strictParts
  rw [e3, ← e1, h, hv]
  rfl
theorem parts_eq {c c1 c2 m p : ByteArray} (e1 : M.bs c1 = M.noMeta (M.bs c)) (e2 : M.bs m = M.metaOf (M.bs c)) (e3 : (M.has 43 (M.bs c) && !M.validMeta (M.after 43 (M.bs c))) = false)
    (f1 : M.bs c2 = M.noPre (M.bs c1)) (f2 : M.bs p = M.preOf (M.bs c1)) (f3 : (M.has 45 (M.bs c1) && !M.validPre (M.after 45 (M.bs c1))) = false) (a b : M.Bs) : M.strictParts a b (M.bs c) = M.strictNums a b (M.bs c2) (M.bs p) (M.bs m) := by
  unfold M.strictParts
  rw [e3, ← e1, f3, ← f1, ← f2, ← e2]
  rfl
theorem nums_bad {a b c p m : M.Bs} (h : M.numOk a = false ∨ M.numOk b = false ∨ M.numOk c = false ∨ M.fits a = false ∨ M.fits b = false ∨ M.fits c = false) : M.strictNums a b c p m = none := by
  unfold M.strictNums
  rcases h with h | h | h | h | h | h <;> simp [h]
theorem nums_good {a b c p m : ByteArray} (h : [M.bs a, M.bs b, M.bs c].all M.numOk = true) (fa : M.fits (M.bs a) = true) (fb : M.fits (M.bs b) = true) (fc : M.fits (M.bs c) = true) :
    M.strictNums (M.bs a) (M.bs b) (M.bs c) (M.bs p) (M.bs m) = some ⟨M.val (M.bs a), M.val (M.bs b), M.val (M.bs c), p, m⟩ := by
  unfold M.strictNums
  simp only [List.all_cons, List.all_nil, Bool.and_true] at h
  rw [h, fa, fb, fc, M.toB_bs, M.toB_bs]
  rfl
theorem nth_bad {L : List M.Bs} {a b c p m : M.Bs} {k : Nat} {q : M.Bs} (hL : L = [a, b, c]) (hk : L[k]? = some q) (h : M.numOk q = false) : M.strictNums a b c p m = none := by
  subst hL
  have hm := List.mem_of_getElem? hk
  simp only [List.mem_cons, List.not_mem_nil, or_false] at hm
  rcases hm with rfl | rfl | rfl
  · exact nums_bad (.inl h)
  · exact nums_bad (.inr (.inl h))
  · exact nums_bad (.inr (.inr (.inl h)))
theorem numOk_dig {q : ByteArray} (h : (M.bs q).all M.isDig = false) : M.numOk (M.bs q) = false := by unfold M.numOk; rw [h]; rfl
theorem numOk_zero {q : ByteArray} (hl : 1 < q.size) (h : (((q[0]'(by omega)).toNat : Int) == 48) = true) : M.numOk (M.bs q) = false := by
  have h1 := byte_eq 48 rfl h
  unfold M.numOk
  rw [head_eq q (by omega), h1, M.bs_length, decide_eq_true hl]
  simp
theorem numOk_one {q : ByteArray} (hd : (M.bs q).all M.isDig = true) (hl : ¬ 1 < q.size) : M.numOk (M.bs q) = true := by
  unfold M.numOk
  rw [hd, M.bs_length, decide_eq_false hl]
  rfl
theorem numOk_two {q : ByteArray} (hd : (M.bs q).all M.isDig = true) (hl : 0 < q.size) (h : (((q[0]'hl).toNat : Int) == 48) = false) : M.numOk (M.bs q) = true := by
  have h1 := byte_ne 48 rfl h
  unfold M.numOk
  rw [hd, head_eq q hl]
  simp [h1]
theorem take_all {L : List M.Bs} {k : Nat} {q : M.Bs} (h : (L.take k).all M.numOk = true) (hk : L[k]? = some q) (hq : M.numOk q = true) : (L.take (k + 1)).all M.numOk = true := by
  rw [List.take_add_one, hk, List.all_append, h]
  simp [hq]
theorem three_at {a b c : ByteArray} {k : Nat} (h : k < 3) : ∃ q, [a, b, c][k]? = some q := ⟨_, List.getElem?_eq_getElem (by simpa using h)⟩
theorem three_map {a b c q : ByteArray} {k : Nat} (h : [a, b, c][k]? = some q) : [M.bs a, M.bs b, M.bs c][k]? = some (M.bs q) := by
  have : ([a, b, c].map M.bs)[k]? = some (M.bs q) := by rw [List.getElem?_map, h]; rfl
  exact this
theorem three_size {a b c q : ByteArray} {k : Nat} {B : Nat} (h : [a, b, c][k]? = some q) (ha : a.size ≤ B) (hb : b.size ≤ B) (hc : c.size ≤ B) : q.size ≤ B := by
  have hm := List.mem_of_getElem? h
  simp only [List.mem_cons, List.not_mem_nil, or_false] at hm
  rcases hm with rfl | rfl | rfl <;> assumption
set_option maxHeartbeats 4000000 in
theorem strict_main (s : ByteArray) (w : World) (h : SErrs w) (h0 : ¬ s.size = 0) (h1 : s.size ≤ 256) (h2 : (M.splitN 46 2 (M.bs s)).length = 3) :
    Calls Tryd.prog 63 #[.string s] w (StrictEnd s w) := by
  have HE := Lib.hid h
  have H2 := Lib.hid h2
  have HN0 := Lib.hid (show (M.bs s).length ≠ 0 by rw [M.bs_length]; exact h0)
  have HN1 := Lib.hid (show (M.bs s).length ≤ 256 by rw [M.bs_length]; exact h1)
  clear h h2
  have hs : s.size ≤ 2147483647 := by omega
  have hz1 : ((s.size : Int) == 0) = false := by simpa using h0
  have hz2 : ¬ (256 : Int) < s.size := by omega
  go_enter Tryd.func63, Tryd.ntmps63
  go_upto_region 9 with (go_at_call 87; (with_reducible refine (zzSplitN_3 s 46 _ hs).mono ?_); rintro e w1 ⟨v, L, rfl, hL, hown, hb⟩; obtain ⟨a, b, c, rfl⟩ := three_of (L := L) (by have := congrArg List.length hL; rw [List.length_map] at this; have := H2.out; omega); obtain ⟨g, cap, rfl, hg, hgl⟩ := hown.slice3; have HO := Lib.hid hown; have HG := Lib.hid (And.intro hg hgl); have HL := Lib.hid hL; have HB1 := Lib.hid hb; clear hL hown hb hg hgl)
  have HK : Hid (M.strict (M.bs s) = M.strictParts (M.bs a) (M.bs b) (M.bs c)) := Lib.hid (M.strict_three HN0.out HN1.out HL.out.symm)
  have HZ : Hid (a.size ≤ 2147483647 ∧ b.size ≤ 2147483647 ∧ c.size ≤ 2147483647) := Lib.hid (by
    have k := fun q hq => M.splitN_len 46 2 (M.bs s) q hq
    rw [← HL.out] at k
    have ka := k (M.bs a) (by simp)
    have kb := k (M.bs b) (by simp)
    have kc := k (M.bs c) (by simp)
    rw [M.bs_length, M.bs_length] at ka kb kc
    omega)
  change Code.wp _ _ _ _ (w1.alloc (V.cells V.zero s))
  have I1 : Hid (StI w (w1.alloc (V.cells V.zero s)) g cap w1.heap.size a b c V.zero s) := Lib.hid ⟨HO.out.kept (below_alloc _ _), alloc_at _ _ _ rfl, by have := HG.out; omega, HB1.out.size, HG.out.1, Below.up HB1.out (below_alloc _ _)⟩
  generalize w1.alloc (V.cells V.zero s) = W1 at *
  generalize w1.heap.size = N at *
  clear HO HG HB1 HL
  obtain ⟨r0, r1, r2⟩ := I1.out.row
  have zc : c.size ≤ 140737488351232 := by have := HZ.out; omega
  have zc2 : c.size ≤ 2147483647 := HZ.out.2.2
  have hne := I1.out.ne
  have HNE := Lib.hid hne
  clear hne
  go_upto_if 33 with (go_at_call 88; (with_reducible refine (zzContains_is c 43 (M.has 43 (M.bs c)) _ zc (Lib.hid rfl)).mono ?_); rintro e w' ⟨rfl, rfl⟩)
  go_cut [] (fun wx => MetaDone w g cap N a b c s wx)
  case first =>
    rcases hm : M.has 43 (M.bs c) with _ | _
    · have HM := Lib.hid hm
      clear hm
      go_wp2
      go_meet
      exact MetaDone.mk (c1 := c) (m := ⟨#[]⟩) I1.out (by unfold M.noMeta; rw [HM.out]; rfl) (by unfold M.metaOf; rw [HM.out]; rfl) (by rw [HM.out]; rfl) zc2
    · have HM := Lib.hid hm
      clear hm
      go_upto_region 11 with (go_at_call 87; (with_reducible refine (zzSplitN_2 c 43 _ zc2).mono ?_); rintro e w2 ⟨v, L, rfl, hL, hown, hb⟩; rw [M.split2 HM.out] at hL; obtain ⟨c1, m, rfl⟩ := two_of (L := L) (by have := congrArg List.length hL; rw [List.length_map] at this; exact this); obtain ⟨g2, cap2, rfl, hg2, hgl2⟩ := hown.slice2; have I2 := Lib.hid (I1.out.below hb); have HL2 := Lib.hid hL; have k0 := hown.cellAt rfl 0 (by simp); have k1 := hown.cellAt rfl 1 (by simp); have NE2 := Lib.hid (show g2 ≠ N ∧ g2 ≠ g by have q1 := I1.out.at_.lt; have q2 := Sent.cell_lt r0; simp only at q2; omega); clear hL hown hb hg2 hgl2 r0 r1 r2)
      have hc1 : M.bs c1 = M.before 43 (M.bs c) := by have := HL2.out; simp at this; exact this.1
      have hm1 : M.bs m = M.after 43 (M.bs c) := by have := HL2.out; simp at this; exact this.2
      have HC1 := Lib.hid hc1
      have HM1 := Lib.hid hm1
      clear hc1 hm1
      have fv := I2.out.frv 4
      obtain ⟨v0, v1, v2, v3, v4, v5⟩ := I2.out.at_.cells
      simp only [List.getElem_cons_zero, List.getElem_cons_succ] at k0 k1
      go_upto_region 12 with fail
      change Code.wp _ _ _ _ (w2.setCell ⟨N, 4, none⟩ (.string m))
      have I3 : Hid (StI w (w2.setCell ⟨N, 4, none⟩ (.string m)) g cap N a b c ⟨0, 0, 0, ⟨#[]⟩, m⟩ s) := Lib.hid (I2.out.setv 4 (.string m) ⟨0, 0, 0, ⟨#[]⟩, m⟩ rfl)
      have k0' : (w2.setCell ⟨N, 4, none⟩ (.string m)).cell? ⟨g2, 0, none⟩ = some (.string c1) := cell_past NE2.out.1 k0
      generalize w2.setCell ⟨N, 4, none⟩ (.string m) = W3 at *
      clear k0 k1 fv v0 v1 v2 v3 v4 v5
      have fg := I3.out.frz 2
      obtain ⟨r0, r1, r2⟩ := I3.out.row
      go_upto_region 13 with fail
      change Code.wp _ _ _ _ (W3.setCell ⟨g, 2, none⟩ (.string c1))
      have I4 : Hid (StI w (W3.setCell ⟨g, 2, none⟩ (.string c1)) g cap N a b c1 ⟨0, 0, 0, ⟨#[]⟩, m⟩ s) := Lib.hid (I3.out.setc c1)
      generalize W3.setCell ⟨g, 2, none⟩ (.string c1) = W4 at *
      clear k0' fg r0 r1 r2
      obtain ⟨v0, v1, v2, v3, v4, v5⟩ := I4.out.at_.cells
      have zm : m.size ≤ 2147483647 := by
        have := metaOf_len (M.bs c)
        unfold M.metaOf at this
        rw [HM.out, if_pos rfl, ← HM1.out, M.bs_length, M.bs_length] at this
        omega
      rcases hv : M.validMeta (M.bs m) with _ | _
      · have HV := Lib.hid hv
        clear hv
        go_wp2_with (go_at_call 68; (with_reducible refine (metaNot m _ zm (HE.out.below I4.out.bel) HV).mono ?_); rintro e w5 ⟨⟨t, p, rfl⟩, hb⟩; have HB5 := Lib.hid (Below.up I4.out.bel hb); clear hb)
        refine bodyPost_ret (results_tmp2 rfl _ _ _) rfl ?_
        exact ⟨HB5.out, .inl ⟨by rw [HK.out]; exact metaNone HM.out (by rw [← HM1.out]; exact HV.out) _ _, t, p, rfl⟩⟩
      · have HV := Lib.hid hv
        clear hv
        go_wp2_with (go_at_call 68; (with_reducible refine (metaYes m _ zm (HE.out.below I4.out.bel) HV).mono ?_); rintro e w5 ⟨rfl, hb⟩; have I5 := Lib.hid (I4.out.below hb); clear hb)
        go_meet
        exact MetaDone.mk I5.out (by unfold M.noMeta; rw [HM.out]; exact HC1.out) (by unfold M.metaOf; rw [HM.out]; exact HM1.out) (by rw [← HM1.out, HV.out]; exact Bool.and_false _) zc2
  case rest =>
  clear r0 r1 r2 zc
  obtain ⟨c1, m, i5, e1, e2, e3, zc1, zm1⟩ := hcut
  have HI5 := Lib.hid i5
  have E1 := Lib.hid e1
  have E2 := Lib.hid e2
  have E3 := Lib.hid e3
  clear i5 e1 e2 e3
  obtain ⟨r0, r1, r2⟩ := HI5.out.row
  have zc : c1.size ≤ 140737488351232 := by omega
  go_upto_if 60 with (go_at_call 88; (with_reducible refine (zzContains_is c1 45 (M.has 45 (M.bs c1)) _ zc (Lib.hid rfl)).mono ?_); rintro e w' ⟨rfl, rfl⟩)
  go_cut [] (fun wx => PreDone w g cap N a b c1 m s wx)
  case first =>
    rcases hm : M.has 45 (M.bs c1) with _ | _
    · have HM := Lib.hid hm
      clear hm
      go_wp2
      go_meet
      exact PreDone.mk (c2 := c1) (p := ⟨#[]⟩) HI5.out (by unfold M.noPre; rw [HM.out]; rfl) (by unfold M.preOf; rw [HM.out]; rfl) (by rw [HM.out]; rfl) zc1
    · have HM := Lib.hid hm
      clear hm
      go_upto_region 18 with (go_at_call 87; (with_reducible refine (zzSplitN_2 c1 45 _ zc1).mono ?_); rintro e w2 ⟨v, L, rfl, hL, hown, hb⟩; rw [M.split2 HM.out] at hL; obtain ⟨c2, p, rfl⟩ := two_of (L := L) (by have := congrArg List.length hL; rw [List.length_map] at this; exact this); obtain ⟨g2, cap2, rfl, hg2, hgl2⟩ := hown.slice2; have I2 := Lib.hid (HI5.out.below hb); have HL2 := Lib.hid hL; have k0 := hown.cellAt rfl 0 (by simp); have k1 := hown.cellAt rfl 1 (by simp); have NE2 := Lib.hid (show g2 ≠ N ∧ g2 ≠ g by have q1 := HI5.out.at_.lt; have q2 := Sent.cell_lt r0; simp only at q2; omega); clear hL hown hb hg2 hgl2 r0 r1 r2)
      have hc1 : M.bs c2 = M.before 45 (M.bs c1) := by have := HL2.out; simp at this; exact this.1
      have hm1 : M.bs p = M.after 45 (M.bs c1) := by have := HL2.out; simp at this; exact this.2
      have HC1 := Lib.hid hc1
      have HM1 := Lib.hid hm1
      clear hc1 hm1
      have fv := I2.out.frv 3
      obtain ⟨v0, v1, v2, v3, v4, v5⟩ := I2.out.at_.cells
      simp only [List.getElem_cons_zero, List.getElem_cons_succ] at k0 k1
      go_upto_region 19 with fail
      change Code.wp _ _ _ _ (w2.setCell ⟨N, 3, none⟩ (.string p))
      have I3 : Hid (StI w (w2.setCell ⟨N, 3, none⟩ (.string p)) g cap N a b c1 ⟨0, 0, 0, p, m⟩ s) := Lib.hid (I2.out.setv 3 (.string p) ⟨0, 0, 0, p, m⟩ rfl)
      have k0' : (w2.setCell ⟨N, 3, none⟩ (.string p)).cell? ⟨g2, 0, none⟩ = some (.string c2) := cell_past NE2.out.1 k0
      generalize w2.setCell ⟨N, 3, none⟩ (.string p) = W3 at *
      clear k0 k1 fv v0 v1 v2 v3 v4 v5
      have fg := I3.out.frz 2
      obtain ⟨r0, r1, r2⟩ := I3.out.row
      go_upto_region 20 with fail
      change Code.wp _ _ _ _ (W3.setCell ⟨g, 2, none⟩ (.string c2))
      have I4 : Hid (StI w (W3.setCell ⟨g, 2, none⟩ (.string c2)) g cap N a b c2 ⟨0, 0, 0, p, m⟩ s) := Lib.hid (I3.out.setc c2)
      generalize W3.setCell ⟨g, 2, none⟩ (.string c2) = W4 at *
      clear k0' fg r0 r1 r2
      obtain ⟨v0, v1, v2, v3, v4, v5⟩ := I4.out.at_.cells
      have zm : p.size ≤ 2147483647 := by
        have := preOf_len (M.bs c1)
        unfold M.preOf at this
        rw [HM.out, if_pos rfl, ← HM1.out, M.bs_length, M.bs_length] at this
        omega
      rcases hv : M.validPre (M.bs p) with _ | _
      · have HV := Lib.hid hv
        clear hv
        go_wp2_with (go_at_call 89; (with_reducible refine (preNot p _ zm (HE.out.below I4.out.bel) HV).mono ?_); rintro e w5 ⟨⟨t, q, rfl⟩, hb⟩; have HB5 := Lib.hid (Below.up I4.out.bel hb); clear hb)
        refine bodyPost_ret (results_tmp2 rfl _ _ _) rfl ?_
        exact ⟨HB5.out, .inl ⟨by rw [HK.out]; exact parts_pre (m := m) E1.out E3.out HM.out (by rw [← HM1.out]; exact HV.out) _ _, t, q, rfl⟩⟩
      · have HV := Lib.hid hv
        clear hv
        go_wp2_with (go_at_call 89; (with_reducible refine (preYes p _ zm (HE.out.below I4.out.bel) HV).mono ?_); rintro e w5 ⟨rfl, hb⟩; have I5 := Lib.hid (I4.out.below hb); clear hb)
        go_meet
        exact PreDone.mk I5.out (by unfold M.noPre; rw [HM.out]; exact HC1.out) (by unfold M.preOf; rw [HM.out]; exact HM1.out) (by rw [← HM1.out, HV.out]; exact Bool.and_false _) zc1
  case rest =>
  clear r0 r1 r2 zc
  obtain ⟨c2, p, i6, f1, f2, f3, zc2'⟩ := hcut
  have HI6 := Lib.hid i6
  have HP : Hid (M.strict (M.bs s) = M.strictNums (M.bs a) (M.bs b) (M.bs c2) (M.bs p) (M.bs m)) := Lib.hid (HK.out.trans (parts_eq E1.out E2.out E3.out f1 f2 f3 _ _))
  clear i6 f1 f2 f3 E1 E2 E3 HK
  go_wp2_with fail
  go_loopw [86] (fun i wr => ∃ k : Nat, k ≤ 3 ∧ i = .int .i64 k ∧ Hid (([M.bs a, M.bs b, M.bs c2].take k).all M.numOk = true) ∧ Hid (StI w wr g cap N a b c2 ⟨0, 0, 0, p, m⟩ s)) (fun i _ => 3 - (intOf i).toNat)
  case atStart => exact ⟨0, Nat.zero_le _, rfl, Lib.hid rfl, HI6⟩
  case round =>
    obtain ⟨k, hk, rfl, HA, HI⟩ := hrel
    rcases Nat.lt_or_ge k 3 with hlt | hlt
    · obtain ⟨q, hq⟩ := three_at (a := a) (b := b) (c := c2) hlt
      have cq : wr.cell? ⟨g, k, none⟩ = some (.string q) := by
        have h9 := HI.out.own.cellAt rfl k (by simpa using hlt)
        rw [h9]
        rw [List.getElem?_eq_getElem (by simpa using hlt)] at hq
        rw [Option.some.inj hq]
      have HQ := Lib.hid hq
      have zq : q.size ≤ 2147483647 := three_size hq HZ.out.1 HZ.out.2.1 zc2'
      clear hq
      rcases hd : (M.bs q).all M.isDig with _ | _
      · have HD := Lib.hid hd
        clear hd
        go_wp2_with (go_at_call 90; (with_reducible refine (only_num_is q false _ HD).mono ?_); rintro e w7 ⟨rfl, hb⟩; have HB7 := Lib.hid (Below.up HI.out.bel hb); obtain ⟨t, u, hg⟩ := (HE.out.below HB7.out).e6; clear hb)
        go_region
        all_goals
          go_wp2
          refine bodyPost_ret (results_tmp2 rfl _ _ _) rfl ?_
          exact ⟨HB7.out.drew, .inl ⟨by rw [HP.out]; exact nth_bad rfl (three_map HQ.out) (numOk_dig HD.out), t, u, rfl⟩⟩
      · have HD := Lib.hid hd
        clear hd
        by_cases hl : 1 < (q.size : Int)
        · have hl0 : 0 < q.size := by omega
          rcases h48 : (((q[0]'hl0).toNat : Int) == 48) with _ | _
          · have H48 := Lib.hid h48
            go_wp2_with (go_at_call 90; (with_reducible refine (only_num_is q true _ HD).mono ?_); rintro e w7 ⟨rfl, hb⟩; have HI7 := Lib.hid (HI.out.below hb); clear hb)
            go_roundw
            case rel => exact ⟨k + 1, hlt, by go_num, Lib.hid (take_all HA.out (three_map HQ.out) (numOk_two HD.out hl0 H48.out)), HI7⟩
            case measure => simp [intOf]; omega
          · have H48 := Lib.hid h48
            have HL1 := Lib.hid (show 1 < q.size by omega)
            go_wp2_with (go_at_call 90; (with_reducible refine (only_num_is q true _ HD).mono ?_); rintro e w7 ⟨rfl, hb⟩; have HB7 := Lib.hid (Below.up HI.out.bel hb); obtain ⟨t, u, hg⟩ := (HE.out.below HB7.out).e5; clear hb)
            go_region
            all_goals
              go_wp2
              refine bodyPost_ret (results_tmp2 rfl _ _ _) rfl ?_
              exact ⟨HB7.out.drew, .inl ⟨by rw [HP.out]; exact nth_bad rfl (three_map HQ.out) (numOk_zero HL1.out H48.out), t, u, rfl⟩⟩
        · have HL1 := Lib.hid (show ¬ 1 < q.size by omega)
          go_wp2_with (go_at_call 90; (with_reducible refine (only_num_is q true _ HD).mono ?_); rintro e w7 ⟨rfl, hb⟩; have HI7 := Lib.hid (HI.out.below hb); clear hb)
          go_roundw
          case rel => exact ⟨k + 1, hlt, by go_num, Lib.hid (take_all HA.out (three_map HQ.out) (numOk_one HD.out HL1.out)), HI7⟩
          case measure => simp [intOf]; omega
    · have HAA : Hid ([M.bs a, M.bs b, M.bs c2].all M.numOk = true) := Lib.hid (by
        have h1 := HA.out
        rw [show k = 3 by omega] at h1
        exact h1)
      clear HA
      have za : a.size ≤ 140737488351232 := by have := HZ.out; omega
      have zb : b.size ≤ 140737488351232 := by have := HZ.out; omega
      have zcc : c2.size ≤ 140737488351232 := by omega
      obtain ⟨r0, r1, r2⟩ := HI.out.row
      obtain ⟨v0, v1, v2, v3, v4, v5⟩ := HI.out.at_.cells
      rcases hf : M.fits (M.bs a) with _ | _
      case false =>
        have HF := Lib.hid hf
        clear hf
        go_wp2_with (go_at_call 91; (with_reducible refine (parseUint_err a _ za HF (HE.out.below HI.out.bel).num).mono ?_); rintro e w8 ⟨u, M', rfl, hb⟩; have I8 := Lib.hid (HI.out.below hb); have fv := I8.out.frv 0; obtain ⟨v0, v1, v2, v3, v4, v5⟩ := I8.out.at_.cells; clear hb)
        refine bodyPost_ret (results_tmp2 rfl _ _ _) rfl ?_
        exact ⟨I8.out.bel.setCell I8.out.low _, .inl ⟨by rw [HP.out]; exact nums_bad (.inr (.inr (.inr (.inl HF.out)))), _, _, rfl⟩⟩
      have HF0 := Lib.hid hf
      clear hf
      go_upto_region 33 with (go_at_call 91; (with_reducible refine (parseUint_ok a _ za HF0).mono ?_); rintro e w8 ⟨rfl, hb⟩; have I8 := Lib.hid (HI.out.below hb); have fv := I8.out.frv 0; clear v0 v1 v2 v3 v4 v5; obtain ⟨v0, v1, v2, v3, v4, v5⟩ := I8.out.at_.cells; clear hb)
      change Code.wp _ _ _ _ (w8.setCell ⟨N, 0, none⟩ (.int .u64 (M.val (M.bs a))))
      have J0 : Hid (StI w (w8.setCell ⟨N, 0, none⟩ (.int .u64 (M.val (M.bs a)))) g cap N a b c2 ⟨M.val (M.bs a), 0, 0, p, m⟩ s) := Lib.hid (I8.out.setv 0 (.int .u64 (M.val (M.bs a))) ⟨M.val (M.bs a), 0, 0, p, m⟩ rfl)
      generalize w8.setCell ⟨N, 0, none⟩ (.int .u64 (M.val (M.bs a))) = V0 at *
      clear r0 r1 r2 v0 v1 v2 v3 v4 v5 fv I8
      obtain ⟨r0, r1, r2⟩ := J0.out.row
      obtain ⟨v0, v1, v2, v3, v4, v5⟩ := J0.out.at_.cells
      rcases hf : M.fits (M.bs b) with _ | _
      case false =>
        have HF := Lib.hid hf
        clear hf
        go_wp2_with (go_at_call 91; (with_reducible refine (parseUint_err b _ zb HF (HE.out.below J0.out.bel).num).mono ?_); rintro e w8 ⟨u, M', rfl, hb⟩; have I8 := Lib.hid (J0.out.below hb); have fv := I8.out.frv 1; obtain ⟨v0, v1, v2, v3, v4, v5⟩ := I8.out.at_.cells; clear hb)
        refine bodyPost_ret (results_tmp2 rfl _ _ _) rfl ?_
        exact ⟨I8.out.bel.setCell I8.out.low _, .inl ⟨by rw [HP.out]; exact nums_bad (.inr (.inr (.inr (.inr (.inl HF.out))))), _, _, rfl⟩⟩
      have HF1 := Lib.hid hf
      clear hf
      go_upto_region 36 with (go_at_call 91; (with_reducible refine (parseUint_ok b _ zb HF1).mono ?_); rintro e w8 ⟨rfl, hb⟩; have I8 := Lib.hid (J0.out.below hb); have fv := I8.out.frv 1; clear v0 v1 v2 v3 v4 v5; obtain ⟨v0, v1, v2, v3, v4, v5⟩ := I8.out.at_.cells; clear hb)
      change Code.wp _ _ _ _ (w8.setCell ⟨N, 1, none⟩ (.int .u64 (M.val (M.bs b))))
      have J1 : Hid (StI w (w8.setCell ⟨N, 1, none⟩ (.int .u64 (M.val (M.bs b)))) g cap N a b c2 ⟨M.val (M.bs a), M.val (M.bs b), 0, p, m⟩ s) := Lib.hid (I8.out.setv 1 (.int .u64 (M.val (M.bs b))) ⟨M.val (M.bs a), M.val (M.bs b), 0, p, m⟩ rfl)
      generalize w8.setCell ⟨N, 1, none⟩ (.int .u64 (M.val (M.bs b))) = V1 at *
      clear r0 r1 r2 v0 v1 v2 v3 v4 v5 fv I8
      obtain ⟨r0, r1, r2⟩ := J1.out.row
      obtain ⟨v0, v1, v2, v3, v4, v5⟩ := J1.out.at_.cells
      rcases hf : M.fits (M.bs c2) with _ | _
      case false =>
        have HF := Lib.hid hf
        clear hf
        go_wp2_with (go_at_call 91; (with_reducible refine (parseUint_err c2 _ zcc HF (HE.out.below J1.out.bel).num).mono ?_); rintro e w8 ⟨u, M', rfl, hb⟩; have I8 := Lib.hid (J1.out.below hb); have fv := I8.out.frv 2; obtain ⟨v0, v1, v2, v3, v4, v5⟩ := I8.out.at_.cells; clear hb)
        refine bodyPost_ret (results_tmp2 rfl _ _ _) rfl ?_
        exact ⟨I8.out.bel.setCell I8.out.low _, .inl ⟨by rw [HP.out]; exact nums_bad (.inr (.inr (.inr (.inr (.inr HF.out))))), _, _, rfl⟩⟩
      have HF2 := Lib.hid hf
      clear hf
      go_upto_region 39 with (go_at_call 91; (with_reducible refine (parseUint_ok c2 _ zcc HF2).mono ?_); rintro e w8 ⟨rfl, hb⟩; have I8 := Lib.hid (J1.out.below hb); have fv := I8.out.frv 2; clear v0 v1 v2 v3 v4 v5; obtain ⟨v0, v1, v2, v3, v4, v5⟩ := I8.out.at_.cells; clear hb)
      change Code.wp _ _ _ _ (w8.setCell ⟨N, 2, none⟩ (.int .u64 (M.val (M.bs c2))))
      have J2 : Hid (StI w (w8.setCell ⟨N, 2, none⟩ (.int .u64 (M.val (M.bs c2)))) g cap N a b c2 ⟨M.val (M.bs a), M.val (M.bs b), M.val (M.bs c2), p, m⟩ s) := Lib.hid (I8.out.setv 2 (.int .u64 (M.val (M.bs c2))) ⟨M.val (M.bs a), M.val (M.bs b), M.val (M.bs c2), p, m⟩ rfl)
      generalize w8.setCell ⟨N, 2, none⟩ (.int .u64 (M.val (M.bs c2))) = V2 at *
      clear r0 r1 r2 v0 v1 v2 v3 v4 v5 fv I8
      go_wp2_with fail
      refine bodyPost_ret (results_tmp2 rfl _ _ _) rfl ?_
      exact ⟨J2.out.bel, .inr ⟨_, N, by rw [HP.out]; exact nums_good HAA.out HF0.out HF1.out HF2.out, rfl, J2.out.at_⟩⟩
theorem strict_any (s : ByteArray) (w : World) (h : SErrs w) (hs : s.size ≤ 2147483647) : Calls Tryd.prog 63 #[.string s] w (StrictEnd s w) := by
  by_cases h0 : s.size = 0
  · exact strict_empty s w h h0 hs
  by_cases h1 : 256 < s.size
  · exact strict_long s w h h1 hs
  by_cases h2 : (M.splitN 46 2 (M.bs s)).length = 3
  · exact strict_main s w h h0 (by omega) h2
  · exact strict_nosplit s w h h0 (by omega) h2
end Go.Proofs.YtopaileliohpdaaDoor
