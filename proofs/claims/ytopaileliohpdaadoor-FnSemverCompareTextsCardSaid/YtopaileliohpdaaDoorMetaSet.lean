/-
  impl.VersionSetMeta, and laws.FnSemverSetMeta: it returns true for every version and text (of longer parts it says nothing). Condition: the error that invalid metadata get lies as the variable's cell, and the table of powers of ten lies.
-/
import Derived.Test.YtopaileliohpdaaDoorPlain
import Derived.Test.YtopaileliohpdaaDoorAgg
import Derived.LaidSub
namespace Go.Proofs.YtopaileliohpdaaDoor
open Go.RowKit
set_option maxRecDepth 100000
set_option linter.unusedVariables false

theorem versionSetMeta_ok (x : V) (s : ByteArray) (ev : Value) (w : World) (hs : s.size ≤ 2147483647) (hv : M.bs s = [] ∨ M.validMeta (M.bs s) = true) (hg : w.cell? ⟨5, 0, none⟩ = some ev) (hu : x.u64) (ht : Pow10 w) (hp1 : x.p.size ≤ 2147483647) :
    Calls Tryd.prog 14 #[x.v, .string s] w fun e w' => e = .returned (.tuple #[V.v { x with m := s }, .bool true]) ∧ Below w.heap.size w w' := by
  have hv1 : x.v = .agg #[.int .u64 x.a, .int .u64 x.b, .int .u64 x.c, .string x.p, .string x.m] := rfl
  rw [hv1]
  clear hv1
  have HG := Lib.hid hg
  have HT := Lib.hid ht
  have HU := Lib.hid hu
  have HP := Lib.hid hp1
  have HV := Lib.hid hv
  have HS := Lib.hid hs
  clear hg ht hu hp1 hv hs
  go_enter Tryd.func14, Tryd.ntmps14
  go_wp2_with (first
    | (go_at_call 41; refine (version_any x _).mono ?_; rintro e w1 ⟨N, rfl, hN, hat, hb⟩; have hz : AtP w1 (w.heap.size + 1) V.zero := AtP.below (alloc_at _ _ _ (by simp)) hb; have hB1 : Below w.heap.size w w1 := Below.up (by (repeat (first | exact Below.refl _ _ | apply Below.drew | (apply below_alloc_on (Nat.le_refl _))))) hb; have hat1 : AtV w1 N x ⟨#[]⟩ := hat; obtain ⟨a0, a1, a2, a3, a4, a5⟩ := hat1.cells; have HZ1 := Lib.hid hz; have HB1 := Lib.hid hB1; clear hz hB1 hb hat hat1 hN)
    | (go_at_call 42; refine (setMetadata_ok x s ev _ HS.out HV.out ((HB1.out.cell (Sent.cell_lt HG.out)).trans HG.out) HU.out (HT.out.below HB1.out) HP.out).mono ?_; rintro e w2 ⟨⟨o, rfl⟩, hb⟩; simp only [V.rc]; have HZ2 := Lib.hid (HZ1.out.below hb); have HB2 := Lib.hid (Below.up HB1.out hb); clear hb)
    | (go_at_call 43; refine (read_ok { x with m := s } o _ _ (alloc_at _ _ _ (by simp))).mono ?_; rintro e w3 ⟨rfl, hb⟩; simp only [V.v]; have hz : AtP w3 (w.heap.size + 1) V.zero := AtP.below (heap_alloc_some HZ2.out) hb; have HB3 := Lib.hid (Below.up (Below.up HB2.out (below_alloc _ _)) hb); obtain ⟨g0, g1, g2, g3, g4⟩ := hz.cells; have l0 := hz.loose 0; have l1 := hz.loose 1; have l2 := hz.loose 2; have l3 := hz.loose 3; have l4 := hz.loose 4; have HZ3 := Lib.hid hz; clear hz hb))
  refine post_ver rfl (w.heap.size + 1) { x with m := s } (.bool true) rfl rfl rfl ?_ ⟨rfl, ?_⟩
  · exact AtP.store5 HZ3.out { x with m := s }
  · exact up_store5 HB3.out (Nat.le_succ _) _ _ _ _ _
theorem versionSetMeta_bad (x : V) (s : ByteArray) (et : TypeId) (ep : Value) (w : World) (hs : s.size ≤ 2147483647) (hs0 : 0 < s.size) (hv : M.validMeta (M.bs s) = false) (hg : w.cell? ⟨5, 0, none⟩ = some (.iface et ep)) :
    Calls Tryd.prog 14 #[x.v, .string s] w fun e w' => e = .returned (.tuple #[V.v V.zero, .bool false]) ∧ Below w.heap.size w w' := by
  have hv1 : x.v = .agg #[.int .u64 x.a, .int .u64 x.b, .int .u64 x.c, .string x.p, .string x.m] := rfl
  rw [hv1]
  clear hv1
  have HG := Lib.hid hg
  have HV := Lib.hid hv
  have HS := Lib.hid hs
  have HS0 := Lib.hid hs0
  clear hg hv hs hs0
  go_enter Tryd.func14, Tryd.ntmps14
  go_wp2_with (first
    | (go_at_call 41; refine (version_any x _).mono ?_; rintro e w1 ⟨N, rfl, hN, hat, hb⟩; have hz : AtP w1 (w.heap.size + 1) V.zero := AtP.below (alloc_at _ _ _ (by simp)) hb; have hB1 : Below w.heap.size w w1 := Below.up (by (repeat (first | exact Below.refl _ _ | apply Below.drew | (apply below_alloc_on (Nat.le_refl _))))) hb; have hat1 : AtV w1 N x ⟨#[]⟩ := hat; obtain ⟨a0, a1, a2, a3, a4, a5⟩ := hat1.cells; have HZ1 := Lib.hid hz; have HB1 := Lib.hid hB1; clear hz hB1 hb hat hat1 hN)
    | (go_at_call 42; refine (setMetadata_bad x s et ep _ HS.out HS0.out HV.out ((HB1.out.cell (Sent.cell_lt HG.out)).trans HG.out)).mono ?_; rintro e w2 ⟨⟨y, o, rfl⟩, hb⟩; simp only [V.rc]; have HZ2 := Lib.hid (HZ1.out.below hb); have HB2 := Lib.hid (Below.up HB1.out hb); clear hb)
    | (go_at_call 43; refine (read_err _ et ep _).mono ?_; rintro e w3 ⟨rfl, hb⟩; simp only [V.v]; have hz : AtP w3 (w.heap.size + 1) V.zero := AtP.below (heap_alloc_some HZ2.out) hb; have HB3 := Lib.hid (Below.up (Below.up HB2.out (below_alloc _ _)) hb); obtain ⟨g0, g1, g2, g3, g4⟩ := hz.cells; have l0 := hz.loose 0; have l1 := hz.loose 1; have l2 := hz.loose 2; have l3 := hz.loose 3; have l4 := hz.loose 4; have HZ3 := Lib.hid hz; clear hz hb))
  refine post_ver rfl (w.heap.size + 1) V.zero (.bool false) rfl rfl rfl ?_ ⟨rfl, ?_⟩
  · exact AtP.store5 HZ3.out V.zero
  · exact up_store5 HB3.out (Nat.le_succ _) _ _ _ _ _

theorem ReadV.one (w : World) (t : TypeId) (x : V) : ReadV (w.alloc (.cells #[.int .u64 x.a, .int .u64 x.b, .int .u64 x.c, .string x.p, .string x.m] t)) (.slice (some ⟨w.heap.size, 0, none⟩) 1 1) [x] := by
  refine ⟨some ⟨w.heap.size, 0, none⟩, 1, rfl, fun i hi => ⟨w.heap.size, 0, rfl, by simp, ?_⟩⟩
  obtain rfl : i = 0 := by simpa using hi
  refine ⟨?_, ?_, ?_, ?_, ?_⟩ <;> go_simp
theorem svGood_one_at (n : Nat) (w : World) (t : TypeId) (x : V) (r : Bool) (hn : n = w.heap.size) (hz : Hid (x.p.size ≤ 2147483647 ∧ x.m.size ≤ 2147483647)) (hr : Hid (x.law = r)) :
    Calls Tryd.prog 12 #[.slice (some ⟨n, 0, none⟩) 1 1] (w.alloc (.cells #[.int .u64 x.a, .int .u64 x.b, .int .u64 x.c, .string x.p, .string x.m] t)) fun e w' => e = .returned (.bool r) ∧ Below w.heap.size w w' := by
  subst hn
  have := svGood_any _ [x] _ (ReadV.one w t x) (by simp) (by simpa using hz.out)
  simp only [List.all_cons, List.all_nil, Bool.and_true, hr.out] at this
  exact this.mono fun e w' h => ⟨h.1, Below.up (below_alloc _ _) h.2⟩
theorem zzFits14_is (x : V) (r : Bool) (w : World) (h1 : x.p.size ≤ 140737488351232) (h2 : x.m.size ≤ 140737488351232) (hr : Hid (x.fits = r)) :
    Calls Tryd.prog 11 #[x.v] w fun e w' => e = .returned (.bool r) ∧ Below w.heap.size w w' := by
  have := zzFits14_any x w h1 h2
  rw [hr.out] at this
  exact this
theorem V.fits_le {x : V} (h : x.fits = true) : x.p.size ≤ 2147483647 ∧ x.m.size ≤ 2147483647 := by
  simpa [V.fits] using h

theorem svShort_one_is (n : Nat) (w : World) (t : TypeId) (a : ByteArray) (r : Bool) (hn : n = w.heap.size) (hz : a.size ≤ 140737488351232) (hr : Hid (decide (a.size ≤ 65536) = r)) :
    Calls Tryd.prog 13 #[.slice (some ⟨n, 0, none⟩) 1 1] (w.alloc (.cells #[.string a] t)) fun e w' => e = .returned (.bool r) ∧ Below w.heap.size w w' := by
  subst hn
  have := svShort_one w t a hz
  rw [hr.out] at this
  exact this.mono fun e w' h => ⟨h.1, h.2 ▸ below_alloc _ _⟩

set_option maxHeartbeats 2000000 in
theorem setMeta_law (x : V) (s : ByteArray) (w : World) (et : TypeId) (ep : Value) (hg : w.cell? ⟨5, 0, none⟩ = some (.iface et ep)) (ht : Pow10 w) (hu : x.u64) (h1 : x.p.size ≤ 140737488351232) (h2 : x.m.size ≤ 140737488351232) (h3 : s.size ≤ 140737488351232) :
    Calls Tryd.prog 3 #[x.v, .string s] w fun e w' => e = .returned (.bool true) ∧ Below w.heap.size w w' := by
  have hv1 : x.v = .agg #[.int .u64 x.a, .int .u64 x.b, .int .u64 x.c, .string x.p, .string x.m] := rfl
  rw [hv1]
  clear hv1
  have HG := Lib.hid hg
  have HT := Lib.hid ht
  have HU := Lib.hid hu
  clear hg ht hu
  cases hf : x.fits with
  | false =>
    have HF := Lib.hid hf
    clear hf
    go_enter Tryd.func3, Tryd.ntmps3
    go_wp2_with (go_at_call 11; refine (zzFits14_is x false _ h1 h2 HF).mono ?_; rintro e w1 ⟨rfl, hb⟩; have HB1 := Lib.hid (Below.up (below_alloc _ _) hb); clear hb)
    go_ret
    exact ⟨rfl, HB1.out⟩
  | true =>
    have HF := Lib.hid hf
    have HZ := Lib.hid (V.fits_le hf)
    clear hf
    rcases Nat.lt_or_ge 2147483647 s.size with hb | hs
    · go_enter Tryd.func3, Tryd.ntmps3
      go_wp2_with (go_at_call 11; refine (zzFits14_is x true _ h1 h2 HF).mono ?_; rintro e w1 ⟨rfl, hb⟩; have HB1 := Lib.hid (Below.up (below_alloc _ _) hb); clear hb)
      go_ret
      exact ⟨rfl, HB1.out⟩
    · rcases hg : x.law && decide (s.size ≤ 65536) with _ | _
      · rcases hl : x.law with _ | _
        · have HL := Lib.hid hl
          clear hl hg
          go_enter Tryd.func3, Tryd.ntmps3
          go_wp2_with (first
            | (go_at_call 11; refine (zzFits14_is x true _ h1 h2 HF).mono ?_; rintro e w1 ⟨rfl, hb⟩; have hp : AtP w1 w.heap.size x := AtP.below (alloc_at _ _ _ rfl) hb; obtain ⟨a0, a1, a2, a3, a4⟩ := hp.cells; have HB1 := Lib.hid (Below.up (below_alloc _ _) hb); clear hp hb)
            | (go_at_call 12; refine (svGood_one_at _ _ _ x false rfl HZ HL).mono ?_; rintro e w2 ⟨rfl, hb⟩; have HB2 := Lib.hid (Below.up HB1.out hb); clear hb))
          go_ret
          exact ⟨rfl, HB2.out⟩
        · have HL := Lib.hid hl
          rw [hl, Bool.true_and] at hg
          have HS := Lib.hid hg
          clear hl hg
          go_enter Tryd.func3, Tryd.ntmps3
          go_wp2_with (first
            | (go_at_call 11; refine (zzFits14_is x true _ h1 h2 HF).mono ?_; rintro e w1 ⟨rfl, hb⟩; have hp : AtP w1 w.heap.size x := AtP.below (alloc_at _ _ _ rfl) hb; obtain ⟨a0, a1, a2, a3, a4⟩ := hp.cells; have HB1 := Lib.hid (Below.up (below_alloc _ _) hb); clear hp hb)
            | (go_at_call 12; refine (svGood_one_at _ _ _ x true rfl HZ HL).mono ?_; rintro e w2 ⟨rfl, hb⟩; have HB2 := Lib.hid (Below.up HB1.out hb); clear hb)
            | (go_at_call 13; refine (svShort_one_is _ _ _ s false rfl h3 HS).mono ?_; rintro e w3 ⟨rfl, hb⟩; have HB3 := Lib.hid (Below.up HB2.out hb); clear hb))
          go_ret
          exact ⟨rfl, HB3.out⟩
      · rw [Bool.and_eq_true] at hg
        have HL := Lib.hid hg.1
        have HS := Lib.hid hg.2
        clear hg
        rcases Nat.eq_zero_or_pos s.size with hs0 | hs0
        · have HV : Hid (M.bs s = [] ∨ M.validMeta (M.bs s) = true) := Lib.hid (.inl (bs_nil hs0))
          have hs1 : s.toList = [] := empty_toList (bs_nil hs0)
          go_enter Tryd.func3, Tryd.ntmps3
          go_wp2_with (first
            | (go_at_call 11; refine (zzFits14_is x true _ h1 h2 HF).mono ?_; rintro e w1 ⟨rfl, hb⟩; have hp : AtP w1 w.heap.size x := AtP.below (alloc_at _ _ _ rfl) hb; obtain ⟨a0, a1, a2, a3, a4⟩ := hp.cells; have HB1 := Lib.hid (Below.up (below_alloc _ _) hb); have HP1 := Lib.hid hp; clear hp hb)
            | (go_at_call 12; refine (svGood_one_at _ _ _ x true rfl HZ HL).mono ?_; rintro e w2 ⟨rfl, hb⟩; have HB2 := Lib.hid (Below.up HB1.out hb); have HP2 := Lib.hid (HP1.out.below hb); clear hb)
            | (go_at_call 13; refine (svShort_one_is _ _ _ s true rfl h3 HS).mono ?_; rintro e w3 ⟨rfl, hb⟩; have hp : AtP w3 w.heap.size x := HP2.out.below hb; obtain ⟨b0, b1, b2, b3, b4⟩ := hp.cells; have HB3 := Lib.hid (Below.up HB2.out hb); have HP3 := Lib.hid hp; clear hp hb)
            | (go_at_call 14; refine (versionSetMeta_ok x s (.iface et ep) _ hs HV.out ((HB3.out.cell (Sent.cell_lt HG.out)).trans HG.out) HU.out (HT.out.below HB3.out) HZ.out.1).mono ?_; rintro e w4 ⟨rfl, hb⟩; simp only [V.v]; have HB4 := Lib.hid (Below.up HB3.out hb); have HP4 := Lib.hid (HP3.out.below hb); clear hb))
          clear a0 a1 a2 a3 a4 b0 b1 b2 b3 b4
          generalize hN : w4.heap.size = N5
          have hC : AtP (w4.alloc (V.pc { x with m := s })) N5 { x with m := s } := by subst hN; exact alloc_at _ _ _ rfl
          have hD : AtP (w4.alloc (V.pc { x with m := s })) w.heap.size x := AtP.below HP4.out (below_alloc _ _)
          have HB5 := Lib.hid (Below.up HB4.out (below_alloc _ (V.pc { x with m := s })))
          unfold V.pc at hC hD HB5
          generalize (w4.alloc (.cells #[.int .u64 x.a, .int .u64 x.b, .int .u64 x.c, .string x.p, .string s] 24)) = W at *
          obtain ⟨c0, c1, c2, c3, c4⟩ := hC.cells
          obtain ⟨d0, d1, d2, d3, d4⟩ := hD.cells
          clear hC hD
          go_region_held3 (fun w' => w'.cell? ⟨N5, 0, none⟩ = some (.int .u64 x.a) ∧ w'.cell? ⟨N5, 1, none⟩ = some (.int .u64 x.b) ∧ w'.cell? ⟨N5, 2, none⟩ = some (.int .u64 x.c) ∧ w'.cell? ⟨N5, 3, none⟩ = some (.string x.p) ∧ w'.cell? ⟨N5, 4, none⟩ = some (.string s) ∧
            w'.cell? ⟨w.heap.size, 0, none⟩ = some (.int .u64 x.a) ∧ w'.cell? ⟨w.heap.size, 1, none⟩ = some (.int .u64 x.b) ∧ w'.cell? ⟨w.heap.size, 2, none⟩ = some (.int .u64 x.c) ∧ w'.cell? ⟨w.heap.size, 3, none⟩ = some (.string x.p) ∧ w'.cell? ⟨w.heap.size, 4, none⟩ = some (.string x.m)) (first | (refine ⟨?_, ?_, ?_, ?_, ?_, ?_, ?_, ?_, ?_, ?_⟩ <;> (repeat (first | with_reducible assumption | with_reducible apply cell_alloc_some | with_reducible apply cell_drew_some | with_reducible refine cell_below (by with_reducible assumption) ?_ | with_reducible refine cell_set_other (by omega) ?_))) | fail) (first
            | (go_at_call 16; refine (svMeta_any x s _).mono ?_; rintro e w5 ⟨rfl, rfl⟩; simp only [V.v])
            | fail)
          go_wp2
          go_ret
          refine ⟨rfl, Below.up HB5.out ?_⟩
          (repeat (first | exact Below.refl _ _ | apply Below.drew | (apply below_alloc_on (Nat.le_refl _))))
        · have hs1 : s.toList.isEmpty = false := nonempty_toList (bs_ne hs0)
          rcases hv : M.validMeta (M.bs s) with _ | _
          · have HV0 := Lib.hid hv
            clear hv
            go_enter Tryd.func3, Tryd.ntmps3
            go_wp2_with (first
              | (go_at_call 11; refine (zzFits14_is x true _ h1 h2 HF).mono ?_; rintro e w1 ⟨rfl, hb⟩; have hp : AtP w1 w.heap.size x := AtP.below (alloc_at _ _ _ rfl) hb; obtain ⟨a0, a1, a2, a3, a4⟩ := hp.cells; have HB1 := Lib.hid (Below.up (below_alloc _ _) hb); have HP1 := Lib.hid hp; clear hp hb)
              | (go_at_call 12; refine (svGood_one_at _ _ _ x true rfl HZ HL).mono ?_; rintro e w2 ⟨rfl, hb⟩; have HB2 := Lib.hid (Below.up HB1.out hb); have HP2 := Lib.hid (HP1.out.below hb); clear hb)
              | (go_at_call 13; refine (svShort_one_is _ _ _ s true rfl h3 HS).mono ?_; rintro e w3 ⟨rfl, hb⟩; have hp : AtP w3 w.heap.size x := HP2.out.below hb; obtain ⟨b0, b1, b2, b3, b4⟩ := hp.cells; have HB3 := Lib.hid (Below.up HB2.out hb); have HP3 := Lib.hid hp; clear hp hb)
              | (go_at_call 14; refine (versionSetMeta_bad x s et ep _ hs hs0 HV0.out ((HB3.out.cell (Sent.cell_lt HG.out)).trans HG.out)).mono ?_; rintro e w4 ⟨rfl, hb⟩; simp only [V.v]; have HB4 := Lib.hid (Below.up HB3.out hb); have HP4 := Lib.hid (HP3.out.below hb); clear hb)
              | (go_at_call 15; refine (validMeta_is s false _ hs HV0).mono ?_; rintro e w5 ⟨rfl, hb⟩; have HB5 := Lib.hid (Below.up (Below.up HB4.out (below_alloc _ _)) hb); clear hb))
            go_ret
            exact ⟨rfl, HB5.out⟩
          · have HV0 := Lib.hid hv
            have HV : Hid (M.bs s = [] ∨ M.validMeta (M.bs s) = true) := Lib.hid (.inr hv)
            clear hv
            go_enter Tryd.func3, Tryd.ntmps3
            go_wp2_with (first
              | (go_at_call 11; refine (zzFits14_is x true _ h1 h2 HF).mono ?_; rintro e w1 ⟨rfl, hb⟩; have hp : AtP w1 w.heap.size x := AtP.below (alloc_at _ _ _ rfl) hb; obtain ⟨a0, a1, a2, a3, a4⟩ := hp.cells; have HB1 := Lib.hid (Below.up (below_alloc _ _) hb); have HP1 := Lib.hid hp; clear hp hb)
              | (go_at_call 12; refine (svGood_one_at _ _ _ x true rfl HZ HL).mono ?_; rintro e w2 ⟨rfl, hb⟩; have HB2 := Lib.hid (Below.up HB1.out hb); have HP2 := Lib.hid (HP1.out.below hb); clear hb)
              | (go_at_call 13; refine (svShort_one_is _ _ _ s true rfl h3 HS).mono ?_; rintro e w3 ⟨rfl, hb⟩; have hp : AtP w3 w.heap.size x := HP2.out.below hb; obtain ⟨b0, b1, b2, b3, b4⟩ := hp.cells; have HB3 := Lib.hid (Below.up HB2.out hb); have HP3 := Lib.hid hp; clear hp hb)
              | (go_at_call 14; refine (versionSetMeta_ok x s (.iface et ep) _ hs HV.out ((HB3.out.cell (Sent.cell_lt HG.out)).trans HG.out) HU.out (HT.out.below HB3.out) HZ.out.1).mono ?_; rintro e w4 ⟨rfl, hb⟩; simp only [V.v]; have HB4 := Lib.hid (Below.up HB3.out hb); have HP4 := Lib.hid (HP3.out.below hb); clear hb)
              | (go_at_call 15; refine (validMeta_is s true _ hs HV0).mono ?_; rintro e w5 ⟨rfl, hb⟩; have HC := Lib.hid (AtP.below (x := { x with m := s }) (N := w4.heap.size) (alloc_at _ _ _ rfl) hb); have HD := Lib.hid (AtP.below (AtP.below HP4.out (below_alloc _ _)) hb); have HB5 := Lib.hid (Below.up (Below.up HB4.out (below_alloc _ _)) hb); clear hb))
            clear a0 a1 a2 a3 a4 b0 b1 b2 b3 b4
            have hC := HC.out
            have hD := HD.out
            generalize w4.heap.size = N5 at *
            generalize w5 = W at *
            obtain ⟨c0, c1, c2, c3, c4⟩ := hC.cells
            obtain ⟨d0, d1, d2, d3, d4⟩ := hD.cells
            clear hC hD
            go_region_held3 (fun w' => w'.cell? ⟨N5, 0, none⟩ = some (.int .u64 x.a) ∧ w'.cell? ⟨N5, 1, none⟩ = some (.int .u64 x.b) ∧ w'.cell? ⟨N5, 2, none⟩ = some (.int .u64 x.c) ∧ w'.cell? ⟨N5, 3, none⟩ = some (.string x.p) ∧ w'.cell? ⟨N5, 4, none⟩ = some (.string s) ∧
              w'.cell? ⟨w.heap.size, 0, none⟩ = some (.int .u64 x.a) ∧ w'.cell? ⟨w.heap.size, 1, none⟩ = some (.int .u64 x.b) ∧ w'.cell? ⟨w.heap.size, 2, none⟩ = some (.int .u64 x.c) ∧ w'.cell? ⟨w.heap.size, 3, none⟩ = some (.string x.p) ∧ w'.cell? ⟨w.heap.size, 4, none⟩ = some (.string x.m)) (first | (refine ⟨?_, ?_, ?_, ?_, ?_, ?_, ?_, ?_, ?_, ?_⟩ <;> (repeat (first | with_reducible assumption | with_reducible apply cell_alloc_some | with_reducible apply cell_drew_some | with_reducible refine cell_below (by with_reducible assumption) ?_ | with_reducible refine cell_set_other (by omega) ?_))) | fail) (first
              | (go_at_call 16; refine (svMeta_any x s _).mono ?_; rintro e w5 ⟨rfl, rfl⟩; simp only [V.v])
              | fail)
            go_wp2
            go_ret
            refine ⟨rfl, Below.up HB5.out ?_⟩
            (repeat (first | exact Below.refl _ _ | apply Below.drew | (apply below_alloc_on (Nat.le_refl _))))

/-- an entry that is the table of powers of ten -/
def isPow : String × DataW Unit → Bool
  | (n, _) => n == "internal/strconv.uint64pow10"
theorem pow10_of {W : World} {laid : List (String × DataW Unit)} (h : laidMet Tryd.prog laid W) (hl : laid.filter isPow = [("internal/strconv.uint64pow10", Lib.tabData .u64 Lib.pow10Tab)]) : Pow10 W := by
  have h1 := h.filter isPow
  rw [hl] at h1
  exact Lib.tabIs_of_head (g := 9) (by kernel_rfl) (by kernel_rfl) Tryd.underlying132 Tryd.underlying22 (by kernel_rfl) (by kernel_rfl) h1
def metaG : List Nat := [5]
theorem setMeta_walk (x : V) (s : ByteArray) (w : World) (hE : (∃ et ep, w.cell? ⟨5, 0, none⟩ = some (.iface et ep)) ∧ Pow10 w) (hu : x.u64) (hz : x.p.size ≤ 140737488351232 ∧ x.m.size ≤ 140737488351232) (h3 : s.size ≤ 140737488351232) :
    Calls Tryd.prog 3 #[x.v, .string s] w fun e w' => e = .returned (.bool true) ∧ Below w.heap.size w w' := by
  obtain ⟨⟨et, ep, hg⟩, ht⟩ := hE
  exact setMeta_law x s w et ep hg ht hu hz.1 hz.2 h3
end Go.Proofs.YtopaileliohpdaaDoor
