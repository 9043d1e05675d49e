/-
  path.Match over marks with one star at most.
-/
import Derived.Test.YtmjipdcohkiblaaDoorMatC
import Derived.WalkMore
namespace Go.Proofs.YtmjipdcohkiblaaDoor
open Go.RowKit
set_option maxRecDepth 100000
set_option linter.unusedVariables false

def WF (I : List M.Mk) : Prop := ∀ m ∈ I, m.wf ∧ m.low
def StarOk (B : List M.Mk) (c : UInt8) (b : M.Bs) : Prop := WF B ∧ B.length = b.length ∧ M.matchAll B b = true ∧ c ≠ 47
/-- pattern and name at the head of path.Match's loop -/
def MatSt (P N : M.Bs) : Prop :=
  (P = [] ∧ N = []) ∨ (∃ B c b, P = 42 :: M.enc B ∧ N = c :: b ∧ StarOk B c b) ∨ (∃ A, A ≠ [] ∧ WF A ∧ P = M.enc A ∧ A.length = N.length ∧ M.matchAll A N = true) ∨
    (∃ A B a c b, A ≠ [] ∧ WF A ∧ P = M.enc A ++ 42 :: M.enc B ∧ N = a ++ c :: b ∧ A.length = a.length ∧ M.matchAll A N = true ∧ StarOk B c b)
def MatLoop (w : World) (gf : Nat) (s0 s1 : Value) (wx : World) : Prop :=
  ∃ P N : ByteArray, s0 = .string P ∧ s1 = .string N ∧ Hid ((P.size ≤ 2147483647 ∧ N.size ≤ 2147483647) ∧ P.size ≤ gf) ∧ Hid (∀ x ∈ M.bs N, x.toNat < 128) ∧ Hid (MatSt (M.bs P) (M.bs N)) ∧ Hid (Below w.heap.size w wx)
theorem enc_pos {A : List M.Mk} (h : A ≠ []) : 0 < (M.enc A).length := by
  obtain ⟨m, I, rfl⟩ := List.exists_cons_of_ne_nil h
  rw [M.enc_cons, List.length_append]
  cases m with
  | lit c e => cases e <;> simp [M.Mk.enc] <;> omega
  | any => simp [M.Mk.enc]; omega
  | cls c => simp [M.Mk.enc]; omega
theorem empty_t {s : ByteArray} (h : M.bs s = []) : s.toList = [] := by rw [toList_bs]; exact h
theorem empty_f {s : ByteArray} (h : M.bs s ≠ []) : s.toList.isEmpty = false := by
  rw [toList_bs]
  cases hq : M.bs s with
  | nil => exact absurd hq h
  | cons _ _ => rfl
theorem he_index : Extern.find Tryd.f17 = some Extern.BytealgIndexByte.indexByte := by kernel_rfl
theorem first_none {N : ByteArray} {c : UInt8} (h : M.bs N = [c]) (hc : c ≠ 47) : firstIdx N (Int.toNat 47).toUInt8 = -1 := by
  have hs : N.size = 1 := by rw [← M.bs_length, h]; rfl
  have h0 : 0 < N.size := by omega
  have hg : N[0]! = c := by
    have : N[0]! = N[0] := getElem!_pos N 0 h0
    rw [this]
    exact bs_first h h0
  unfold firstIdx
  have : (List.range N.size).find? (fun i => N[i]! == (Int.toNat 47).toUInt8) = none := by
    rw [List.find?_eq_none]
    intro i hi
    have : i = 0 := by have := List.mem_range.1 hi; omega
    subst this
    rw [hg]
    intro q
    exact hc (by simpa using q)
  rw [this]
def StarLoop (w3 : World) (N : ByteArray) (s1 s11 : Value) (wx : World) : Prop := s1 = .string N ∧ s11 = .int .i64 0 ∧ wx = w3
set_option maxHeartbeats 40000000 in
theorem match_any (P N : ByteArray) (w : World) (hz : P.size ≤ 2147483647) (hz2 : N.size ≤ 2147483647) (hN : ∀ x ∈ M.bs N, x.toNat < 128) (hm : MatSt (M.bs P) (M.bs N)) :
    Calls Tryd.prog 12 #[.string P, .string N] w fun e w' => e = .returned (.tuple #[.bool true, .nilIface]) ∧ Below w.heap.size w w' := by
  have HA : Hid (MatLoop w P.size (.string P) (.string N) w) := Lib.hid ⟨P, N, rfl, rfl, Lib.hid ⟨⟨hz, hz2⟩, Nat.le_refl _⟩, Lib.hid hN, Lib.hid hm, Lib.hid (Below.refl _ _)⟩
  clear hz hz2 hN hm
  go_enter Tryd.func12, Tryd.ntmps12
  go_wp2
  go_step3
  go_wp2
  go_step3
  go_wp2
  go_loopg [0, 1] P.size (fun gf s0 s1 wx => MatLoop w gf s0 s1 wx)
  case atStart => exact HA.out
  case round =>
    obtain ⟨P, N, rfl, rfl, HZ, HL, HM, HB⟩ := hrel
    clear HA
    by_cases hP0 : M.bs P = []
    · have hN0 : M.bs N = [] := by
        rcases HM.out with ⟨_, h⟩ | ⟨B, c, b, h, _⟩ | ⟨A, hA, _, h, _⟩ | ⟨A, B, a, c, b, _, _, h, _⟩
        · exact h
        · rw [hP0] at h; cases h
        · have := enc_pos hA; rw [← h, hP0] at this; cases this
        · rw [hP0] at h; exact absurd h.symm (by simp)
      have hp : P.size = 0 := (size_bs P).2 hP0
      have hn : N.size = 0 := (size_bs N).2 hN0
      have z1 : ((N.size : Int) == 0) = true := by rw [beq_iff_eq]; omega
      have z2 : ¬ (0 : Int) < (P.size : Int) := by omega
      clear hP0 hN0
      go_wp2
      try rw [Exit.noGoto_ret]
      go_ret2
      exact ⟨rfl, HB.out⟩
    · have hp : 0 < P.size := by have : P.size ≠ 0 := fun h => hP0 ((size_bs P).1 h); omega
      obtain ⟨g', rfl⟩ : ∃ g', gk = g' + 1 := ⟨gk - 1, by have := HZ.out.2; omega⟩
      have hpi : (0 : Int) < (P.size : Int) := by omega
      rcases HM.out with ⟨h, _⟩ | ⟨B, c, b, hP, hN, hok⟩ | ⟨A, hA, hwA, hP, hlen, hall⟩ | ⟨A, B, a, c, b, hA, hwA, hP, hN, hlen, hall, hok⟩
      · exact absurd h hP0
      · -- a star
        have HOK := Lib.hid hok
        have HP := Lib.hid hP
        have HN := Lib.hid hN
        have HSC : Hid (∀ w : World, Calls Tryd.prog 16 #[.string P] w (ScanRes true B [] w)) := Lib.hid (fun w => scan_any P true B [] w (by rw [HP.out]; simp) (fun m hm => (HOK.out.1 m hm).1) (.inl rfl) (.inl rfl) HZ.out.1.1)
        have hn0 := bs_pos hN
        have hn47 := first_is hN hn0 47 false (u8_ne (d := 47) hok.2.2.2)
        have hn47' : ((N[0].toNat : Int) != 47) = true := by rw [bne, hn47]; rfl
        obtain ⟨N1, hN1⟩ : ∃ y, N.extract 1 N.size = y := ⟨_, rfl⟩
        have HN1 := Lib.hid (show M.bs N1 = b by rw [← hN1]; exact bs_tail hN)
        have h1n : 1 ≤ N.size := hn0
        clear hP0 hP hN hok
        by_cases hBn : B = []
        · have hbn : b = [] := by have := HOK.out.2.1; rw [hBn] at this; exact List.length_eq_zero_iff.1 this.symm
          have hix : ∀ w : World, (callFunc 17 #[.string N, .int .u8 47]).run Tryd.prog w = .ok (.value (.int .i64 (-1))) w := fun w => by
            rw [run_callFunc_extern Tryd.func17 (by kernel_rfl) (by kernel_rfl) (by kernel_rfl) (he_index) _ w, run_indexByte_string]
            have hfi : firstIdx N (Int.toNat 47).toUInt8 = -1 := first_none (by rw [HN.out, hbn]) HOK.out.2.2.2
            rw [hfi]
            rfl
          go_upto_region 5 with (go_at_call 16; (with_reducible refine (HSC.out _).mono ?_); rintro e w2 ⟨⟨ch, r, rfl, hch, hr⟩, hb⟩; have HCH := Lib.hid hch; have HRR := Lib.hid hr; have HB2 := Lib.hid (Below.up HB.out hb); clear hch hr hb)
          have hc0 : ch.toList = [] := empty_t (by rw [HCH.out, hBn]; rfl)
          clear hBn hbn
          go_wp2
          try rw [Exit.noGoto_ret]
          go_ret2
          exact ⟨rfl, HB2.out⟩
        · have HBN := Lib.hid hBn
          clear hBn
          obtain ⟨fb, hfb⟩ : ∃ x, M.matchAll B (M.bs N) = x := ⟨_, rfl⟩
          have HFB := Lib.hid hfb
          clear hfb
          go_upto_region 5 with (go_at_call 16; (with_reducible refine (HSC.out _).mono ?_); rintro e w2 ⟨⟨ch, r, rfl, hch, hr⟩, hb⟩; have HCH := Lib.hid hch; have HRR := Lib.hid hr; have HB2 := Lib.hid (Below.up HB.out hb); clear hch hr hb)
          have hc0 : ch.toList.isEmpty = false := empty_f (by rw [HCH.out]; intro e; have := enc_pos HBN.out; rw [e] at this; cases this)
          have hr0 : r.size = 0 := (size_bs r).2 HRR.out
          have hri : ¬ (0 : Int) < (r.size : Int) := by omega
          have hrz : ((r.size : Int) == 0) = true := by rw [beq_iff_eq]; omega
          have HCZ := Lib.hid (show ch.size ≤ 2147483647 by
            have h1 := HZ.out.1.1
            have h2 := congrArg List.length HP.out
            have h3 := congrArg List.length HCH.out
            rw [M.bs_length, List.length_cons] at h2
            rw [M.bs_length] at h3
            omega)
          have HM1 : Hid (∀ w : World, Calls Tryd.prog 18 #[.string ch, .string N] w (McRes B (M.bs N) w)) := Lib.hid (fun w => matchChunk_any ch N B w HCH.out HOK.out.1 HL.out HCZ.out HZ.out.1.2)
          have HN1S := Lib.hid (show N1.size ≤ 2147483647 by have := HZ.out.1.2; rw [← hN1, ByteArray.size_extract]; omega)
          have HL1 := Lib.hid (show ∀ x ∈ M.bs N1, x.toNat < 128 from fun x hx => HL.out x (by rw [HN.out]; rw [HN1.out] at hx; exact List.mem_cons_of_mem _ hx))
          have HM2 : Hid (∀ w : World, Calls Tryd.prog 18 #[.string ch, .string N1] w (McRes B (M.bs N1) w)) := Lib.hid (fun w => matchChunk_any ch N1 B w HCH.out HOK.out.1 HL1.out HCZ.out HN1S.out)
          go_upto_region 8 with (go_at_call 18; (with_reducible refine (HM1.out _).mono ?_); rintro e w3 ⟨⟨t1, b1, rfl, hb1, ht1⟩, hb⟩; have HB3 := Lib.hid (Below.up HB2.out hb); have HT1 := Lib.hid ht1; have HB1 := Lib.hid hb1; clear hb hb1 ht1)
          rcases b1 with _ | _
          · go_wp2
            go_loopg [1, 11] 1 (fun gf s1 s11 wx => StarLoop w3 N s1 s11 wx)
            case atStart => exact ⟨rfl, rfl, rfl⟩
            case round =>
              obtain ⟨rfl, rfl, rfl⟩ := hrel
              go_upto_region 17 with (go_at_call 18; (with_reducible refine (HM2.out _).mono ?_); rintro e w5 ⟨⟨t2, b2, rfl, hb2, ht2'⟩, hb⟩; have HB5 := Lib.hid (Below.up HB3.out hb); obtain rfl : b2 = true := (hb2.symm.trans (by rw [HN1.out]; exact HOK.out.2.2.1)); have HT2 := Lib.hid (show M.bs t2 = [] by rw [ht2' rfl, HN1.out, HOK.out.2.1]; simp); clear hb hb2 ht2')
              have hts : t2.size = 0 := (size_bs t2).2 HT2.out
              have htz : ¬ (0 : Int) < (t2.size : Int) := by omega
              have HTS := Lib.hid hts
              clear hts
              go_wp2
              go_roundg g'
              case measure => omega
              case rel => exact ⟨r, t2, rfl, rfl, Lib.hid ⟨⟨by rw [(size_bs r).2 HRR.out]; omega, by rw [HTS.out]; omega⟩, by rw [(size_bs r).2 HRR.out]; omega⟩, Lib.hid (fun x hx => by rw [HT2.out] at hx; cases hx), Lib.hid (.inl ⟨HRR.out, HT2.out⟩), HB5⟩
          · have ht1 : t1.size = 1 := by
              have h1 := congrArg List.length (HT1.out rfl)
              rw [M.bs_length, List.length_drop, HN.out, List.length_cons, HOK.out.2.1] at h1
              omega
            have ht2 : ((t1.size : Int) == 0) = false := by rw [beq_eq_false_iff_ne]; omega
            clear ht1
            go_wp2
            go_loopg [1, 11] 1 (fun gf s1 s11 wx => StarLoop w3 N s1 s11 wx)
            case atStart => exact ⟨rfl, rfl, rfl⟩
            case round =>
              obtain ⟨rfl, rfl, rfl⟩ := hrel
              go_upto_region 17 with (go_at_call 18; (with_reducible refine (HM2.out _).mono ?_); rintro e w5 ⟨⟨t2, b2, rfl, hb2, ht2'⟩, hb⟩; have HB5 := Lib.hid (Below.up HB3.out hb); obtain rfl : b2 = true := (hb2.symm.trans (by rw [HN1.out]; exact HOK.out.2.2.1)); have HT2 := Lib.hid (show M.bs t2 = [] by rw [ht2' rfl, HN1.out, HOK.out.2.1]; simp); clear hb hb2 ht2')
              have hts : t2.size = 0 := (size_bs t2).2 HT2.out
              have htz : ¬ (0 : Int) < (t2.size : Int) := by omega
              have HTS := Lib.hid hts
              clear hts
              go_wp2
              go_roundg g'
              case measure => omega
              case rel => exact ⟨r, t2, rfl, rfl, Lib.hid ⟨⟨by rw [(size_bs r).2 HRR.out]; omega, by rw [HTS.out]; omega⟩, by rw [(size_bs r).2 HRR.out]; omega⟩, Lib.hid (fun x hx => by rw [HT2.out] at hx; cases hx), Lib.hid (.inl ⟨HRR.out, HT2.out⟩), HB5⟩
      · -- marks to the end
        have HP := Lib.hid hP
        have HSC : Hid (∀ w : World, Calls Tryd.prog 16 #[.string P] w (ScanRes false A [] w)) := Lib.hid (fun w => scan_any P false A [] w (by rw [HP.out]; simp) (fun m hm => (hwA m hm).1) (.inl rfl) (.inl rfl) HZ.out.1.1)
        have HWA := Lib.hid hwA
        have HLA := Lib.hid (And.intro hlen hall)
        clear hP0 hP hlen hall hwA hA
        go_upto_region 5 with (go_at_call 16; (with_reducible refine (HSC.out _).mono ?_); rintro e w2 ⟨⟨ch, r, rfl, hch, hr⟩, hb⟩; have HCH := Lib.hid hch; have HRR := Lib.hid hr; have HB2 := Lib.hid (Below.up HB.out hb); clear hch hr hb)
        have HCZ := Lib.hid (show ch.size ≤ 2147483647 by
          have h1 := HZ.out.1.1
          have h2 := congrArg List.length HP.out
          have h3 := congrArg List.length HCH.out
          rw [M.bs_length] at h2 h3
          omega)
        have HM1 : Hid (∀ w : World, Calls Tryd.prog 18 #[.string ch, .string N] w (McRes A (M.bs N) w)) := Lib.hid (fun w => matchChunk_any ch N A w HCH.out HWA.out HL.out HCZ.out HZ.out.1.2)
        go_upto_region 8 with (go_at_call 18; (with_reducible refine (HM1.out _).mono ?_); rintro e w3 ⟨⟨t1, b1, rfl, hb1, ht1⟩, hb⟩; have HB3 := Lib.hid (Below.up HB2.out hb); obtain rfl : b1 = true := (hb1.symm.trans HLA.out.2); have HT1 := Lib.hid (show M.bs t1 = [] by rw [ht1 rfl, HLA.out.1]; simp); clear hb hb1 ht1)
        have ht1 : t1.size = 0 := (size_bs t1).2 HT1.out
        have ht2 : ((t1.size : Int) == 0) = true := by rw [beq_iff_eq]; omega
        have HTS := Lib.hid ht1
        clear ht1
        go_wp2
        go_roundg g'
        case measure => omega
        case rel => exact ⟨r, t1, rfl, rfl, Lib.hid ⟨⟨by rw [(size_bs r).2 HRR.out]; omega, by rw [HTS.out]; omega⟩, by rw [(size_bs r).2 HRR.out]; omega⟩, Lib.hid (fun x hx => by rw [HT1.out] at hx; cases hx), Lib.hid (.inl ⟨HRR.out, HT1.out⟩), HB3⟩
      · -- marks ahead of a star
        have HP := Lib.hid hP
        have HN := Lib.hid hN
        have HOK := Lib.hid hok
        have hAne := hA
        have HSC : Hid (∀ w : World, Calls Tryd.prog 16 #[.string P] w (ScanRes false A (42 :: M.enc B) w)) := Lib.hid (fun w => scan_any P false A (42 :: M.enc B) w (by rw [HP.out]; simp) (fun m hm => (hwA m hm).1) (.inr ⟨_, rfl⟩) (.inr hAne) HZ.out.1.1)
        have HWA := Lib.hid hwA
        have HAP := Lib.hid (enc_pos hA)
        have HLA := Lib.hid (And.intro hlen hall)
        clear hP0 hP hlen hall hwA hA hAne hN hok
        go_upto_region 5 with (go_at_call 16; (with_reducible refine (HSC.out _).mono ?_); rintro e w2 ⟨⟨ch, r, rfl, hch, hr⟩, hb⟩; have HCH := Lib.hid hch; have HRR := Lib.hid hr; have HB2 := Lib.hid (Below.up HB.out hb); clear hch hr hb)
        have hsum := congrArg List.length HP.out
        rw [M.bs_length, List.length_append] at hsum
        have hchl := congrArg List.length HCH.out
        rw [M.bs_length] at hchl
        have hrl := congrArg List.length HRR.out
        rw [M.bs_length] at hrl
        have hrp : (0 : Int) < (r.size : Int) := by rw [List.length_cons] at hrl; omega
        have HCZ := Lib.hid (show ch.size ≤ 2147483647 ∧ r.size ≤ g' ∧ r.size ≤ 2147483647 by
          have h1 := HZ.out.1.1
          have h2 := HZ.out.2
          have h3 := HAP.out
          omega)
        have HM1 : Hid (∀ w : World, Calls Tryd.prog 18 #[.string ch, .string N] w (McRes A (M.bs N) w)) := Lib.hid (fun w => matchChunk_any ch N A w HCH.out HWA.out HL.out HCZ.out.1 HZ.out.1.2)
        clear hsum hchl hrl
        go_upto_region 8 with (go_at_call 18; (with_reducible refine (HM1.out _).mono ?_); rintro e w3 ⟨⟨t1, b1, rfl, hb1, ht1⟩, hb⟩; have HB3 := Lib.hid (Below.up HB2.out hb); obtain rfl : b1 = true := (hb1.symm.trans HLA.out.2); have HT1 := Lib.hid (show M.bs t1 = c :: b by rw [ht1 rfl, HLA.out.1, HN.out]; simp); clear hb hb1 ht1)
        have ht1 := bs_pos HT1.out
        have ht2 : ((t1.size : Int) == 0) = false := by rw [beq_eq_false_iff_ne]; omega
        have HTS := Lib.hid (show t1.size ≤ 2147483647 by
          have h1 := congrArg List.length HT1.out
          have h2 := congrArg List.length HN.out
          have h3 := HZ.out.1.2
          rw [M.bs_length] at h1 h2
          rw [List.length_append] at h2
          omega)
        clear ht1
        go_wp2
        go_roundg g'
        case measure => omega
        case rel => exact ⟨r, t1, rfl, rfl, Lib.hid ⟨⟨HCZ.out.2.2, HTS.out⟩, HCZ.out.2.1⟩, Lib.hid (fun x hx => HL.out x (by rw [HN.out]; rw [HT1.out] at hx; exact List.mem_append_right _ hx)), Lib.hid (.inr (.inl ⟨B, c, b, HRR.out, HT1.out, HOK.out⟩)), HB3⟩
end Go.Proofs.YtmjipdcohkiblaaDoor
