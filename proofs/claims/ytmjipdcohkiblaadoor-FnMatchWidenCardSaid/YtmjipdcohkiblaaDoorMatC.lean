/-
  path's matchChunk over marks of ASCII.
-/
import Derived.Test.YtmjipdcohkiblaaDoorMatW
namespace Go.Proofs.YtmjipdcohkiblaaDoor
open Go.RowKit
set_option maxRecDepth 100000
set_option linter.unusedVariables false

def McRes (I : List M.Mk) (S0 : M.Bs) (w : World) (e : Ending) (w' : World) : Prop :=
  (∃ (r : ByteArray) (b : Bool), e = .returned (.tuple #[.string r, .bool b, .nilIface]) ∧ M.matchAll I S0 = b ∧ (b = true → M.bs r = S0.drop I.length)) ∧ Below w.heap.size w w'
/-- at the loop's head -/
structure McSt (I : List M.Mk) (S0 : M.Bs) (C S : ByteArray) (J : List M.Mk) (f : Bool) : Prop where
  ch : M.bs C = M.enc J
  wf : ∀ m ∈ J, m.wf ∧ m.low
  low : ∀ c ∈ M.bs S, c.toNat < 128
  good : f = false → M.matchAll I S0 = M.matchAll J (M.bs S) ∧ (M.bs S).drop J.length = S0.drop I.length
  bad : f = true → M.matchAll I S0 = false
theorem McSt.fails {I : List M.Mk} {S0 : M.Bs} {C C' S S' : ByteArray} {m : M.Mk} {J : List M.Mk} {f : Bool} (h : McSt I S0 C S (m :: J) f) (hC : M.bs C' = M.enc J) (hS : ∀ c ∈ M.bs S', c.toNat < 128) (hb : M.matchAll I S0 = false) : McSt I S0 C' S' J true :=
  ⟨hC, fun x hx => h.wf x (List.mem_cons_of_mem _ hx), hS, (fun e => by cases e), fun _ => hb⟩
theorem McSt.ends {I : List M.Mk} {S0 : M.Bs} {C S : ByteArray} {m : M.Mk} {J : List M.Mk} (h : McSt I S0 C S (m :: J) false) (hS : M.bs S = []) : M.matchAll I S0 = false := by
  rw [(h.good rfl).1, hS]
  rfl
theorem McSt.next {I : List M.Mk} {S0 : M.Bs} {C C' S S' : ByteArray} {m : M.Mk} {J : List M.Mk} {x : UInt8} {s : M.Bs} (h : McSt I S0 C S (m :: J) false) (hS : M.bs S = x :: s) (hC : M.bs C' = M.enc J) (hS' : M.bs S' = s) (b : Bool) (hb : m.ok x = !b) : McSt I S0 C' S' J b := by
  obtain ⟨h1, h2⟩ := h.good rfl
  rw [hS] at h1 h2
  have h1' : M.matchAll I S0 = (m.ok x && M.matchAll J s) := h1
  refine ⟨hC, fun y hy => h.wf y (List.mem_cons_of_mem _ hy), fun c hc => h.low c (by rw [hS]; rw [hS'] at hc; exact List.mem_cons_of_mem _ hc), fun e => ?_, fun e => ?_⟩
  · subst e
    rw [hS', h1', hb]
    refine ⟨by simp, ?_⟩
    rw [List.length_cons, List.drop_succ_cons] at h2
    exact h2
  · subst e
    rw [h1', hb]
    rfl
theorem lit_ok {c d x : UInt8} {e : Bool} {y : UInt8} {b : Bool} (h1 : y = c) (h2 : d = x) (h : ((y.toNat : Int) != (d.toNat : Int)) = b) : (M.Mk.lit c e).ok x = !b := by
  subst h1 h2
  show (d == y) = !b
  rw [← h, Bool.eq_iff_iff]
  simp only [beq_iff_eq, Bool.not_eq_true', bne_eq_false_iff_eq]
  constructor
  · intro e; rw [e]
  · intro e; exact UInt8.toNat_inj.1 (by omega)
theorem any_ok {d x : UInt8} {b : Bool} (h2 : d = x) (h : ((d.toNat : Int) == 47) = b) : M.Mk.any.ok x = !b := by
  subst h2
  show (d != 47) = !b
  rw [← h, Bool.eq_iff_iff]
  simp only [bne_iff_ne, Bool.not_eq_true', beq_eq_false_iff_ne]
  constructor
  · intro e q; exact e (UInt8.toNat_inj.1 (by show d.toNat = 47; omega))
  · intro e q; exact e (by rw [q]; rfl)
theorem cls_ok {c x : UInt8} {cn n : Nat} {b : Bool} (h1 : c.toNat = cn) (h2 : x.toNat = n) (h : (decide (cn ≤ n) && decide (n ≤ cn)) = b) : (M.Mk.cls c).ok x = !!b := by
  show (x == c) = !!b
  rw [← h, Bool.not_not, Bool.eq_iff_iff]
  simp only [beq_iff_eq, Bool.and_eq_true, decide_eq_true_eq]
  constructor
  · intro e; rw [e] at h2; omega
  · intro e; exact UInt8.toNat_inj.1 (by omega)
/-- at the head of a class's loop -/
def ClsLoop (C1 : ByteArray) (J : List M.Mk) (mt : Bool) (wr : World) (s0 s11 s12 : Value) (wx : World) : Prop :=
  (s0 = .string C1 ∧ s11 = .bool false ∧ s12 = .int .i64 0 ∧ wx = wr) ∨ ∃ Cy : ByteArray, s0 = .string Cy ∧ s11 = .bool mt ∧ s12 = .int .i64 1 ∧ Hid (M.bs Cy = 93 :: M.enc J) ∧ wx = wr
def McLoop (I : List M.Mk) (S0 : M.Bs) (w : World) (s0 s1 s7 : Value) (wx : World) : Prop :=
  ∃ (C S : ByteArray) (J : List M.Mk) (f : Bool), s0 = .string C ∧ s1 = .string S ∧ s7 = .bool f ∧ Hid (C.size ≤ 2147483647 ∧ S.size ≤ 2147483647) ∧ Hid (McSt I S0 C S J f) ∧ Hid (Below w.heap.size w wx)
def strSize : Value → Nat
  | .string s => s.size
  | _ => 0
set_option maxHeartbeats 40000000 in
theorem matchChunk_any (C0 S : ByteArray) (I : List M.Mk) (w : World) (hC : M.bs C0 = M.enc I) (hw : ∀ m ∈ I, m.wf ∧ m.low) (hS : ∀ c ∈ M.bs S, c.toNat < 128) (hz : C0.size ≤ 2147483647) (hz2 : S.size ≤ 2147483647) :
    Calls Tryd.prog 18 #[.string C0, .string S] w (McRes I (M.bs S) w) := by
  have HI := Lib.hid (show McSt I (M.bs S) C0 S I false from ⟨hC, hw, hS, fun _ => ⟨rfl, rfl⟩, fun e => by cases e⟩)
  have HZ := Lib.hid (And.intro hz hz2)
  obtain ⟨S0, hS0⟩ : ∃ x, M.bs S = x := ⟨_, rfl⟩
  rw [hS0] at HI ⊢
  clear hC hw hS hz hz2 hS0
  go_enter Tryd.func18, Tryd.ntmps18
  go_wp2
  go_loopw [0, 1, 7] (fun s0 s1 s7 wx => McLoop I S0 w s0 s1 s7 wx) (fun s0 _ _ _ => strSize s0)
  case atStart => exact ⟨C0, S, I, false, rfl, rfl, rfl, HZ, HI, Lib.hid (Below.refl _ _)⟩
  case round =>
    obtain ⟨C, S, J, f, rfl, rfl, rfl, HZ, HI, HB⟩ := hrel
    cases J with
    | nil =>
      have hc0 : C.size = 0 := by rw [← M.bs_length, HI.out.ch]; rfl
      have hc1 : ¬ (0 : Int) < (C.size : Int) := by omega
      cases f with
      | true =>
        have HX := Lib.hid (HI.out.bad rfl)
        go_wp2
        go_ret3
        exact ⟨⟨⟨#[]⟩, false, rfl, HX.out, (fun e => by cases e)⟩, HB.out⟩
      | false =>
        have HX := Lib.hid (HI.out.good rfl)
        go_wp2
        go_ret3
        exact ⟨⟨S, true, rfl, by rw [HX.out.1]; rfl, fun _ => HX.out.2⟩, HB.out⟩
    | cons m J =>
      have hst : (f = true ∧ Hid (M.matchAll I S0 = false)) ∨ (f = false ∧ ((S.size : Int) == 0) = true ∧ Hid (M.matchAll I S0 = false)) ∨ (f = false ∧ ∃ (x : UInt8) (s : M.Bs) (_ : M.bs S = x :: s) (_ : 0 < S.size), ((S.size : Int) == 0) = false) := by
        cases f with
        | true => exact .inl ⟨rfl, Lib.hid (HI.out.bad rfl)⟩
        | false =>
          cases hs : M.bs S with
          | nil =>
            have : S.size = 0 := by rw [← M.bs_length, hs]; rfl
            exact .inr (.inl ⟨rfl, by rw [beq_iff_eq]; omega, Lib.hid (HI.out.ends hs)⟩)
          | cons x s =>
            have h := bs_pos hs
            exact .inr (.inr ⟨rfl, x, s, rfl, h, by rw [beq_eq_false_iff_ne]; omega⟩)
      have HS := Lib.hid HI.out.low
      cases m with
      | lit c e =>
        cases e with
        | false =>
          have hC : M.bs C = c :: M.enc J := HI.out.ch
          have h0 := bs_pos hC
          have hw0 := (HI.out.wf (.lit c false) List.mem_cons_self).1
          obtain ⟨w42, w63, w91, w92⟩ := M.special_no hw0
          have e91 := first_is hC h0 91 false (u8_ne (d := 91) w91)
          have e63 := first_is hC h0 63 false (u8_ne (d := 63) w63)
          have e92 := first_is hC h0 92 false (u8_ne (d := 92) w92)
          obtain ⟨C1, hC1⟩ : ∃ y, C.extract 1 C.size = y := ⟨_, rfl⟩
          have HCN := Lib.hid (show M.bs C1 = M.enc J by rw [← hC1]; exact bs_tail hC)
          have hc1 : C1.size < C.size := by rw [← hC1, ByteArray.size_extract]; omega
          have h1c : 1 ≤ C.size := h0
          clear hw0 w42 w63 w91 w92
          rcases hst with ⟨rfl, HX⟩ | ⟨rfl, z, HX⟩ | ⟨rfl, x, s, hS, h0s, z⟩
          · go_wp2
            exact ⟨⟨C1, S, J, true, rfl, rfl, rfl, Lib.hid (And.intro (by have := HZ.out.1; omega) HZ.out.2), Lib.hid (HI.out.fails HCN.out HI.out.low HX.out), HB⟩, (by show C1.size < C.size; omega)⟩
          · go_wp2
            exact ⟨⟨C1, S, J, true, rfl, rfl, rfl, Lib.hid (And.intro (by have := HZ.out.1; omega) HZ.out.2), Lib.hid (HI.out.fails HCN.out HI.out.low HX.out), HB⟩, (by show C1.size < C.size; omega)⟩
          · obtain ⟨S1, hS1⟩ : ∃ y, S.extract 1 S.size = y := ⟨_, rfl⟩
            have hb1 : M.bs S1 = s := by rw [← hS1]; exact bs_tail hS
            have hs1 : S1.size < S.size := by rw [← hS1, ByteArray.size_extract]; omega
            have h1s : 1 ≤ S.size := h0s
            obtain ⟨b, hb⟩ : ∃ b, ((C[0].toNat : Int) != (S[0].toNat : Int)) = b := ⟨_, rfl⟩
            have HN := Lib.hid (HI.out.next hS HCN.out hb1 b (lit_ok (bs_first hC h0) (bs_first hS h0s) hb))
            clear hS hb1 HCN HS
            go_wp2
            go_region
            all_goals
              go_wp2
              exact ⟨⟨C1, S1, J, b, rfl, rfl, rfl, Lib.hid (And.intro (by have := HZ.out.1; omega) (by have := HZ.out.2; omega)), Lib.hid HN.out, Lib.hid HB.out.drew⟩, (by show C1.size < C.size; omega)⟩
        | true =>
          have hC : M.bs C = 92 :: c :: M.enc J := HI.out.ch
          have h0 := bs_pos hC
          have e91 := first_is hC h0 91 false rfl
          have e63 := first_is hC h0 63 false rfl
          have e92 := first_is hC h0 92 true rfl
          obtain ⟨C1, hC1⟩ : ∃ y, C.extract 1 C.size = y := ⟨_, rfl⟩
          have hC1b : M.bs C1 = c :: M.enc J := by rw [← hC1]; exact bs_tail hC
          have h1p := bs_pos hC1b
          obtain ⟨C2, hC2⟩ : ∃ y, C1.extract 1 C1.size = y := ⟨_, rfl⟩
          have HCN := Lib.hid (show M.bs C2 = M.enc J by rw [← hC2]; exact bs_tail hC1b)
          have hc1 : C2.size < C.size := by rw [← hC2, ByteArray.size_extract, ← hC1, ByteArray.size_extract]; omega
          have h1c : 1 ≤ C.size := h0
          have h1d : 1 ≤ C1.size := h1p
          have z1 : ((C1.size : Int) == 0) = false := by rw [beq_eq_false_iff_ne]; omega
          rcases hst with ⟨rfl, HX⟩ | ⟨rfl, z, HX⟩ | ⟨rfl, x, s, hS, h0s, z⟩
          · clear hC hC1b
            go_wp2
            exact ⟨⟨C2, S, J, true, rfl, rfl, rfl, Lib.hid (And.intro (by have := HZ.out.1; omega) HZ.out.2), Lib.hid (HI.out.fails HCN.out HI.out.low HX.out), HB⟩, (by show C2.size < C.size; omega)⟩
          · clear hC hC1b
            go_wp2
            exact ⟨⟨C2, S, J, true, rfl, rfl, rfl, Lib.hid (And.intro (by have := HZ.out.1; omega) HZ.out.2), Lib.hid (HI.out.fails HCN.out HI.out.low HX.out), HB⟩, (by show C2.size < C.size; omega)⟩
          · obtain ⟨S1, hS1⟩ : ∃ y, S.extract 1 S.size = y := ⟨_, rfl⟩
            have hb1 : M.bs S1 = s := by rw [← hS1]; exact bs_tail hS
            have hs1 : S1.size < S.size := by rw [← hS1, ByteArray.size_extract]; omega
            have h1s : 1 ≤ S.size := h0s
            obtain ⟨b, hb⟩ : ∃ b, ((C1[0].toNat : Int) != (S[0].toNat : Int)) = b := ⟨_, rfl⟩
            have HN := Lib.hid (HI.out.next hS HCN.out hb1 b (lit_ok (bs_first hC1b h1p) (bs_first hS h0s) hb))
            clear hS hb1 HCN HS hC hC1b
            go_wp2
            go_region
            all_goals
              go_wp2
              exact ⟨⟨C2, S1, J, b, rfl, rfl, rfl, Lib.hid (And.intro (by have := HZ.out.1; omega) (by have := HZ.out.2; omega)), Lib.hid HN.out, Lib.hid HB.out.drew⟩, (by show C2.size < C.size; omega)⟩
      | any =>
        have hC : M.bs C = 63 :: M.enc J := HI.out.ch
        have h0 := bs_pos hC
        have e91 := first_is hC h0 91 false rfl
        have e63 := first_is hC h0 63 true rfl
        obtain ⟨C1, hC1⟩ : ∃ y, C.extract 1 C.size = y := ⟨_, rfl⟩
        have HCN := Lib.hid (show M.bs C1 = M.enc J by rw [← hC1]; exact bs_tail hC)
        have hc1 : C1.size < C.size := by rw [← hC1, ByteArray.size_extract]; omega
        have h1c : 1 ≤ C.size := h0
        rcases hst with ⟨rfl, HX⟩ | ⟨rfl, z, HX⟩ | ⟨rfl, x, s, hS, h0s, z⟩
        · clear hC
          go_wp2
          exact ⟨⟨C1, S, J, true, rfl, rfl, rfl, Lib.hid (And.intro (by have := HZ.out.1; omega) HZ.out.2), Lib.hid (HI.out.fails HCN.out HI.out.low HX.out), HB⟩, (by show C1.size < C.size; omega)⟩
        · clear hC
          go_wp2
          exact ⟨⟨C1, S, J, true, rfl, rfl, rfl, Lib.hid (And.intro (by have := HZ.out.1; omega) HZ.out.2), Lib.hid (HI.out.fails HCN.out HI.out.low HX.out), HB⟩, (by show C1.size < C.size; omega)⟩
        · obtain ⟨S1, hS1⟩ : ∃ y, S.extract 1 S.size = y := ⟨_, rfl⟩
          have hb1 : M.bs S1 = s := by rw [← hS1]; exact bs_tail hS
          have hs1 : S1.size < S.size := by rw [← hS1, ByteArray.size_extract]; omega
          have h1s : 1 ≤ S.size := h0s
          obtain ⟨b, hb⟩ : ∃ b, ((S[0].toNat : Int) == 47) = b := ⟨_, rfl⟩
          have HN := Lib.hid (HI.out.next hS HCN.out hb1 b (any_ok (bs_first hS h0s) hb))
          obtain ⟨n, hn⟩ : ∃ n, x.toNat = n := ⟨_, rfl⟩
          have HD : Hid (∀ w : World, Calls Tryd.prog 19 #[.string S] w fun e w' => e = .returned (.tuple #[.int .i32 (n : Int), .int .i64 1]) ∧ w = w') := Lib.hid (fun w => by have := decode_low S x s hS (HS.out x (by rw [hS]; exact List.mem_cons_self)) w; rw [hn] at this; exact this)
          clear hS hb1 HCN HS hC hn
          go_wp2_with (go_at_call 19; (with_reducible refine (HD.out _).mono ?_); rintro e w4 ⟨rfl, rfl⟩)
          exact ⟨⟨C1, S1, J, b, rfl, rfl, rfl, Lib.hid (And.intro (by have := HZ.out.1; omega) (by have := HZ.out.2; omega)), Lib.hid HN.out, HB⟩, (by show C1.size < C.size; omega)⟩
      | cls c =>
        have hC : M.bs C = 91 :: 92 :: c :: 93 :: M.enc J := HI.out.ch
        have h0 := bs_pos hC
        have e91 := first_is hC h0 91 true rfl
        obtain ⟨C1, hC1⟩ : ∃ y, C.extract 1 C.size = y := ⟨_, rfl⟩
        have HC1 := Lib.hid (show M.bs C1 = 92 :: c :: 93 :: M.enc J by rw [← hC1]; exact bs_tail hC)
        have h1p := bs_pos HC1.out
        have e94 := first_is HC1.out h1p 94 false rfl
        have h1c : 1 ≤ C.size := h0
        have HCC := Lib.hid hC
        obtain ⟨cn, hcn⟩ : ∃ n, c.toNat = n := ⟨_, rfl⟩
        have HCN0 := Lib.hid hcn
        have HLT := Lib.hid (show cn < 128 by rw [← hcn]; exact (HI.out.wf (.cls c) List.mem_cons_self).2)
        clear hC hcn
        rcases hst with ⟨rfl, HX⟩ | ⟨rfl, z, HX⟩ | ⟨rfl, x, s, hS, h0s, z⟩
        · obtain ⟨mt, hmt⟩ : ∃ b, (decide (cn ≤ 0) && decide (0 ≤ cn)) = b := ⟨_, rfl⟩
          have HMT := Lib.hid hmt
          clear hmt
          go_wp2
          go_loopw [0, 11, 12] (fun s0 s11 s12 wx => ClsLoop C1 J mt wr s0 s11 s12 wx) (fun _ _ s12 _ => 1 - (intOf s12).toNat)
          case atStart => exact .inl ⟨rfl, rfl, rfl, rfl⟩
          case round =>
            rcases hrel with ⟨rfl, rfl, rfl, rfl⟩ | ⟨Cy, rfl, rfl, rfl, HY, rfl⟩
            · have g93 := first_is HC1.out h1p 93 false rfl
              have gE : Hid (∀ w : World, Calls Tryd.prog 20 #[.string C1] w (EscRes cn (93 :: M.enc J) w)) := Lib.hid (fun w => getEsc_any C1 c 93 (M.enc J) HC1.out cn HCN0.out HLT.out w)
              go_wp2_with (go_at_call 20; (with_reducible refine (gE.out _).mono ?_); rintro e w5 ⟨Cy, rfl, hy, rfl⟩; have HY := Lib.hid hy; have hyp := bs_pos hy; have g45 := first_is hy hyp 45 false rfl; clear hy)
              all_goals
                first
                  | (refine ⟨.inr ⟨Cy, rfl, ?_, rfl, HY, rfl⟩, ?_⟩
                     · rw [← HMT.out]
                       refine congrArg Value.bool ?_
                       rw [eq_comm, Bool.and_eq_true, decide_eq_true_eq, decide_eq_true_eq]
                       omega
                     · simp [intOf])
                  | (refine ⟨.inr ⟨Cy, rfl, ?_, rfl, HY, rfl⟩, ?_⟩
                     · rw [← HMT.out]
                       refine congrArg Value.bool ?_
                       rw [eq_comm, Bool.and_eq_false_iff, decide_eq_false_iff_not, decide_eq_false_iff_not]
                       omega
                     · simp [intOf])
                  | (refine ⟨.inr ⟨Cy, rfl, ?_, rfl, HY, rfl⟩, ?_⟩
                     · rw [← HMT.out]
                       refine congrArg Value.bool ?_
                       rename_i q
                       rw [decide_eq_true q]
                       rfl
                     · simp [intOf])
            · have hyp := bs_pos HY.out
              have g93 := first_is HY.out hyp 93 true rfl
              obtain ⟨C2, hC2⟩ : ∃ y, Cy.extract 1 Cy.size = y := ⟨_, rfl⟩
              have HCN := Lib.hid (show M.bs C2 = M.enc J by rw [← hC2]; exact bs_tail HY.out)
              have hyl : Cy.size = (M.enc J).length + 1 := by rw [← M.bs_length, HY.out]; rfl
              have hcl : C.size = (M.enc J).length + 4 := by rw [← M.bs_length, HCC.out]; rfl
              have h2l : C2.size = (M.enc J).length := by rw [← M.bs_length, HCN.out]
              have hc1 : C2.size < C.size := by omega
              have h1y : 1 ≤ Cy.size := hyp
              clear hyl hcl h2l
              go_wp2
              exact ⟨⟨C2, S, J, true, rfl, rfl, rfl, Lib.hid (And.intro (by have := HZ.out.1; omega) HZ.out.2), Lib.hid (HI.out.fails HCN.out HI.out.low HX.out), HB⟩, (by show C2.size < C.size; omega)⟩
        · obtain ⟨mt, hmt⟩ : ∃ b, (decide (cn ≤ 0) && decide (0 ≤ cn)) = b := ⟨_, rfl⟩
          have HMT := Lib.hid hmt
          clear hmt
          go_wp2
          go_loopw [0, 11, 12] (fun s0 s11 s12 wx => ClsLoop C1 J mt wr s0 s11 s12 wx) (fun _ _ s12 _ => 1 - (intOf s12).toNat)
          case atStart => exact .inl ⟨rfl, rfl, rfl, rfl⟩
          case round =>
            rcases hrel with ⟨rfl, rfl, rfl, rfl⟩ | ⟨Cy, rfl, rfl, rfl, HY, rfl⟩
            · have g93 := first_is HC1.out h1p 93 false rfl
              have gE : Hid (∀ w : World, Calls Tryd.prog 20 #[.string C1] w (EscRes cn (93 :: M.enc J) w)) := Lib.hid (fun w => getEsc_any C1 c 93 (M.enc J) HC1.out cn HCN0.out HLT.out w)
              go_wp2_with (go_at_call 20; (with_reducible refine (gE.out _).mono ?_); rintro e w5 ⟨Cy, rfl, hy, rfl⟩; have HY := Lib.hid hy; have hyp := bs_pos hy; have g45 := first_is hy hyp 45 false rfl; clear hy)
              all_goals
                first
                  | (refine ⟨.inr ⟨Cy, rfl, ?_, rfl, HY, rfl⟩, ?_⟩
                     · rw [← HMT.out]
                       refine congrArg Value.bool ?_
                       rw [eq_comm, Bool.and_eq_true, decide_eq_true_eq, decide_eq_true_eq]
                       omega
                     · simp [intOf])
                  | (refine ⟨.inr ⟨Cy, rfl, ?_, rfl, HY, rfl⟩, ?_⟩
                     · rw [← HMT.out]
                       refine congrArg Value.bool ?_
                       rw [eq_comm, Bool.and_eq_false_iff, decide_eq_false_iff_not, decide_eq_false_iff_not]
                       omega
                     · simp [intOf])
                  | (refine ⟨.inr ⟨Cy, rfl, ?_, rfl, HY, rfl⟩, ?_⟩
                     · rw [← HMT.out]
                       refine congrArg Value.bool ?_
                       rename_i q
                       rw [decide_eq_true q]
                       rfl
                     · simp [intOf])
            · have hyp := bs_pos HY.out
              have g93 := first_is HY.out hyp 93 true rfl
              obtain ⟨C2, hC2⟩ : ∃ y, Cy.extract 1 Cy.size = y := ⟨_, rfl⟩
              have HCN := Lib.hid (show M.bs C2 = M.enc J by rw [← hC2]; exact bs_tail HY.out)
              have hyl : Cy.size = (M.enc J).length + 1 := by rw [← M.bs_length, HY.out]; rfl
              have hcl : C.size = (M.enc J).length + 4 := by rw [← M.bs_length, HCC.out]; rfl
              have h2l : C2.size = (M.enc J).length := by rw [← M.bs_length, HCN.out]
              have hc1 : C2.size < C.size := by omega
              have h1y : 1 ≤ Cy.size := hyp
              clear hyl hcl h2l
              go_wp2
              exact ⟨⟨C2, S, J, true, rfl, rfl, rfl, Lib.hid (And.intro (by have := HZ.out.1; omega) HZ.out.2), Lib.hid (HI.out.fails HCN.out HI.out.low HX.out), HB⟩, (by show C2.size < C.size; omega)⟩
        · obtain ⟨S1, hS1⟩ : ∃ y, S.extract 1 S.size = y := ⟨_, rfl⟩
          have hb1 : M.bs S1 = s := by rw [← hS1]; exact bs_tail hS
          have hs1 : S1.size < S.size := by rw [← hS1, ByteArray.size_extract]; omega
          have h1s : 1 ≤ S.size := h0s
          obtain ⟨n, hn⟩ : ∃ n, x.toNat = n := ⟨_, rfl⟩
          have HD : Hid (∀ w : World, Calls Tryd.prog 19 #[.string S] w fun e w' => e = .returned (.tuple #[.int .i32 (n : Int), .int .i64 1]) ∧ w = w') := Lib.hid (fun w => by have := decode_low S x s hS (HS.out x (by rw [hS]; exact List.mem_cons_self)) w; rw [hn] at this; exact this)
          obtain ⟨mt, hmt⟩ : ∃ b, (decide (cn ≤ n) && decide (n ≤ cn)) = b := ⟨_, rfl⟩
          have HMT := Lib.hid hmt
          have HXS := Lib.hid (And.intro hS (And.intro hb1 hn))
          clear hmt hS hb1 HS hn
          go_wp2_with (go_at_call 19; (with_reducible refine (HD.out _).mono ?_); rintro e w4 ⟨rfl, rfl⟩)
          go_loopw [0, 11, 12] (fun s0 s11 s12 wx => ClsLoop C1 J mt wr s0 s11 s12 wx) (fun _ _ s12 _ => 1 - (intOf s12).toNat)
          case atStart => exact .inl ⟨rfl, rfl, rfl, rfl⟩
          case round =>
            rcases hrel with ⟨rfl, rfl, rfl, rfl⟩ | ⟨Cy, rfl, rfl, rfl, HY, rfl⟩
            · have g93 := first_is HC1.out h1p 93 false rfl
              have gE : Hid (∀ w : World, Calls Tryd.prog 20 #[.string C1] w (EscRes cn (93 :: M.enc J) w)) := Lib.hid (fun w => getEsc_any C1 c 93 (M.enc J) HC1.out cn HCN0.out HLT.out w)
              go_wp2_with (go_at_call 20; (with_reducible refine (gE.out _).mono ?_); rintro e w5 ⟨Cy, rfl, hy, rfl⟩; have HY := Lib.hid hy; have hyp := bs_pos hy; have g45 := first_is hy hyp 45 false rfl; clear hy)
              all_goals
                first
                  | (refine ⟨.inr ⟨Cy, rfl, ?_, rfl, HY, rfl⟩, ?_⟩
                     · rw [← HMT.out]
                       refine congrArg Value.bool ?_
                       rw [eq_comm, Bool.and_eq_true, decide_eq_true_eq, decide_eq_true_eq]
                       omega
                     · simp [intOf])
                  | (refine ⟨.inr ⟨Cy, rfl, ?_, rfl, HY, rfl⟩, ?_⟩
                     · rw [← HMT.out]
                       refine congrArg Value.bool ?_
                       rw [eq_comm, Bool.and_eq_false_iff, decide_eq_false_iff_not, decide_eq_false_iff_not]
                       omega
                     · simp [intOf])
                  | (refine ⟨.inr ⟨Cy, rfl, ?_, rfl, HY, rfl⟩, ?_⟩
                     · rw [← HMT.out]
                       refine congrArg Value.bool ?_
                       rename_i q
                       rw [decide_eq_true q]
                       rfl
                     · simp [intOf])
            · have hyp := bs_pos HY.out
              have g93 := first_is HY.out hyp 93 true rfl
              obtain ⟨C2, hC2⟩ : ∃ y, Cy.extract 1 Cy.size = y := ⟨_, rfl⟩
              have HCN := Lib.hid (show M.bs C2 = M.enc J by rw [← hC2]; exact bs_tail HY.out)
              have hyl : Cy.size = (M.enc J).length + 1 := by rw [← M.bs_length, HY.out]; rfl
              have hcl : C.size = (M.enc J).length + 4 := by rw [← M.bs_length, HCC.out]; rfl
              have h2l : C2.size = (M.enc J).length := by rw [← M.bs_length, HCN.out]
              have hc1 : C2.size < C.size := by omega
              have h1y : 1 ≤ Cy.size := hyp
              clear hyl hcl h2l
              have HN := Lib.hid (HI.out.next HXS.out.1 HCN.out HXS.out.2.1 (!mt) (cls_ok HCN0.out HXS.out.2.2 HMT.out))
              cases mt
              all_goals
                go_wp2
                first
                  | exact ⟨⟨C2, S1, J, true, rfl, rfl, rfl, Lib.hid (And.intro (by have := HZ.out.1; omega) (by have := HZ.out.2; omega)), Lib.hid HN.out, HB⟩, (by show C2.size < C.size; omega)⟩
                  | exact ⟨⟨C2, S1, J, false, rfl, rfl, rfl, Lib.hid (And.intro (by have := HZ.out.1; omega) (by have := HZ.out.2; omega)), Lib.hid HN.out, HB⟩, (by show C2.size < C.size; omega)⟩
end Go.Proofs.YtmjipdcohkiblaaDoor
