/-
  spec.cronItemText, walked.
-/
import Derived.Test.YtjipjhpehfbpkaaDoorCItemX
import Derived.Deep.DeepCutAuto
import Derived.Deep.CutBlock
import Derived.OwnWalk
namespace Go.Proofs.YtjipjhpehfbpkaaDoor
open Go.RowKit
set_option maxRecDepth 100000
set_option linter.unusedVariables false

theorem SetAt.bar {w w' : World} {N S : Nat} {f : Nat → Bool} (h : SetAt w N f) (hb : Bar w.heap.size S w w') (hne : N ≠ S) : SetAt w' N f :=
  ⟨Nat.lt_of_lt_of_le h.lt hb.size, fun j v hv => by rw [hb.cell h.lt hne]; exact h.has j v hv, fun j => by
    have := h.loose j
    simp only [World.frozen?] at *
    rw [hb.block _ h.lt hne]
    exact this⟩
/-- the state of the printer of an item -/
structure ISt (f : Nat → Bool) (S N0 : Nat) (w wx : World) : Prop where
  set : SetAt wx N0 f
  sty : StyleAt wx S
  bar : Bar w.heap.size S w wx
  pow : PowS S wx
theorem ISt.on {f : Nat → Bool} {S N0 : Nat} {w wx wy : World} (h : ISt f S N0 w wx) (hne : N0 ≠ S) (hs : StyleAt wy S) (hb : Bar wx.heap.size S wx wy) : ISt f S N0 w wy :=
  ⟨h.set.bar hb hne, hs, h.bar.up hb, h.pow.bar h.sty hb⟩
theorem ISt.low {f : Nat → Bool} {S N0 : Nat} {w wx wy : World} (h : ISt f S N0 w wx) (hb : Below wx.heap.size wx wy) : ISt f S N0 w wy :=
  ⟨h.set.below hb, h.sty.below hb, h.bar.up (Bar.of hb), h.pow.below (hb.mono (Nat.le_of_lt h.sty.lt))⟩
theorem run_le {f : Nat → Bool} {v st mx n : Nat} (h : RunIn f v st mx n) (hm : mx ≤ 62) (hs : 1 ≤ st) : n ≤ 63 := by
  by_cases h0 : n = 0
  · omega
  · have := (h (n - 1) (by omega)).1
    have h2 : (n - 1) * 1 ≤ (n - 1) * st := Nat.mul_le_mul_left _ hs
    omega
theorem mul_le756 {n st : Nat} (h1 : n ≤ 63) (h2 : st ≤ 12) : n * st ≤ 756 := Nat.mul_le_mul h1 h2
theorem RunIn.cut {f : Nat → Bool} {v st high n m : Nat} (h : RunIn f v st high n) (hm : m ≤ n) : RunIn f v st high m := fun i hi => h i (by omega)
/-- what is known of the run behind the choice of its length -/
structure LenT (f : Nat → Bool) (v st mx m : Nat) (te : Bool) : Prop where
  run : RunIn f v st mx m
  one : 1 ≤ m
  fin : te = true → mx < v + m * st
theorem LenT.runT {f : Nat → Bool} {k v st mx m : Nat} {te : Bool} (h : LenT f v st mx m te) (hm : (M.bdOf k).mx = mx) (h1 : 1 ≤ st) (h2 : st ≤ 12) {Q last : Nat} (hQ : (m - 1) * st = Q) (hl : v + Q ≤ last) (hl2 : last < v + Q + st) (hl3 : last ≤ mx) : RunT f k v st last :=
  ⟨h1, h2, by omega, by omega, run_sub h.run h.one h1 (by rw [hQ]; exact hl2)⟩
theorem LenT.last {f : Nat → Bool} {v st mx m : Nat} {te : Bool} (h : LenT f v st mx m te) {Q : Nat} (hQ : (m - 1) * st = Q) : v + Q ≤ mx := by
  have := (h.run (m - 1) (by have := h.one; omega)).1
  omega
theorem LenT.ends {f : Nat → Bool} {k v st mx m : Nat} (h : LenT f v st mx m true) (hm : (M.bdOf k).mx = mx) {Q : Nat} (hQ : (m - 1) * st = Q) : EndT k v st (v + Q) := by
  have h3 := h.fin rfl
  have e : (m - 1) * st + st = m * st := by
    obtain ⟨j, rfl⟩ : ∃ j, m = j + 1 := ⟨m - 1, by have := h.one; omega⟩
    rw [Nat.add_mul, Nat.one_mul]; rfl
  refine ⟨?_, by omega⟩
  rw [Nat.add_sub_cancel_left, ← hQ, Nat.mul_mod_left]
theorem bd61 (k : Nat) : (M.bdOf k).mx ≤ 61 := by rcases k with _ | _ | _ | _ | _ | k <;> simp [M.bdOf]
theorem cronRun_set (f : Nat → Bool) (v st high : Nat) (hs : 1 ≤ st) (hs2 : st ≤ 100) (hh : high ≤ 61) (hv : v ≤ 61) (w : World) :
    Calls Tryd.prog 44 #[setV f, .int .i64 (v : Int), .int .i64 (st : Int), .int .i64 (high : Int)] w fun e w' => (∃ n : Nat, e = .returned (.int .i64 (n : Int)) ∧ RunIn f v st high n) ∧ Below w.heap.size w w' :=
  cronRun_any f v st high hs hs2 hh hv w
def ItemText (f : Nat → Bool) (k v S : Nat) (w : World) (e : Ending) (w' : World) : Prop :=
  ∃ (t : ByteArray) (last st : Nat), e = .returned (.tuple #[.string t, .int .i64 (last : Int), .int .i64 (st : Int)]) ∧ ItemT f k v last st t ∧ StyleAt w' S ∧ Bar w.heap.size S w w'
set_option maxHeartbeats 40000000 in
theorem itemText_any (f : Nat → Bool) (k v S : Nat) (hk : k ≤ 5) (h1 : (M.bdOf k).mn ≤ v) (h2 : v ≤ (M.bdOf k).mx) (hv : f (1 + v) = true) (w : World) (h : StyleAt w S) (hp : PowS S w) :
    Calls Tryd.prog 31 #[.int .i64 (k : Int), setV f, .int .i64 (v : Int), .pointer (some ⟨S, 0, none⟩)] w (ItemText f k v S w) := by
  have hx := (bd_le k).1
  obtain ⟨mn, hmn⟩ : ∃ n, (M.bdOf k).mn = n := ⟨_, rfl⟩
  obtain ⟨mx, hmx⟩ : ∃ n, (M.bdOf k).mx = n := ⟨_, rfl⟩
  have HONE : Hid (∀ t, ValT k v t → ItemT f k v v 1 t) := Lib.hid fun t ht => itemT_one ht h1 h2 hv
  have HMN1 : Hid ((M.bdOf k).mn ≤ v) := Lib.hid h1
  have HLO : Hid (∀ w : World, Calls Tryd.prog 21 #[.int .i64 (k : Int)] w fun e w' => e = .returned (.int .i64 (mn : Int)) ∧ w = w') := Lib.hid (fun w => by have := low_any k hk w; rw [hmn] at this; exact this)
  have HHI : Hid (∀ w : World, Calls Tryd.prog 22 #[.int .i64 (k : Int)] w fun e w' => e = .returned (.int .i64 (mx : Int)) ∧ w = w') := Lib.hid (fun w => by have := high_any k hk w; rw [hmx] at this; exact this)
  have HVT : Hid (∀ l W, v ≤ l → l ≤ mx → StyleAt W S → PowS S W → Calls Tryd.prog 45 #[.int .i64 (k : Int), .int .i64 (l : Int), .pointer (some ⟨S, 0, none⟩)] W (ValText k l S W)) := Lib.hid (fun l W a b c d => valText_any k l S hk (by omega) (by omega) W c d (by omega))
  have HRUN : Hid (∀ st : Nat, 1 ≤ st → st ≤ 12 → ∀ W, Calls Tryd.prog 44 #[setV f, .int .i64 (v : Int), .int .i64 (st : Int), .int .i64 (mx : Int)] W fun e w' => (∃ n : Nat, e = .returned (.int .i64 (n : Int)) ∧ RunIn f v st mx n) ∧ Below W.heap.size W w') := Lib.hid (fun st a b W => by have := cronRun_set f v st (M.bdOf k).mx a (by omega) (bd61 k) (by have := bd61 k; omega) W; rw [hmx] at this; exact this)
  have pk12 : ∀ W, StyleAt W S → Calls Tryd.prog 30 #[.pointer (some ⟨S, 0, none⟩), .int .i64 12] W (Picked S 12 W) := fun W hW => pick_any S 12 W hW (by omega) (by omega)
  have pk4 : ∀ W, StyleAt W S → Calls Tryd.prog 30 #[.pointer (some ⟨S, 0, none⟩), .int .i64 4] W (Picked S 4 W) := fun W hW => pick_any S 4 W hW (by omega) (by omega)
  have pk2 : ∀ W, StyleAt W S → Calls Tryd.prog 30 #[.pointer (some ⟨S, 0, none⟩), .int .i64 2] W (Picked S 2 W) := fun W hW => pick_any S 2 W hW (by omega) (by omega)
  rw [hmn] at h1
  rw [hmx] at h2 hx
  have HMX := Lib.hid hmx
  have HVMN : Hid (mn = (M.bdOf k).mn) := Lib.hid hmn.symm
  clear hmn hmx hv hk
  show Calls Tryd.prog 31 #[.int .i64 (k : Int), .agg (setL f).toArray, .int .i64 (v : Int), .pointer (some ⟨S, 0, none⟩)] w (ItemText f k v S w)
  have I0 : Hid (ISt f S w.heap.size w (w.alloc (.cells (setL f).toArray 27))) := Lib.hid ⟨SetAt.new w f _ rfl, h.below (below_alloc _ _), Bar.of (below_alloc _ _), hp.below ((below_alloc _ _).mono (Nat.le_of_lt h.lt))⟩
  have HNE : Hid (w.heap.size ≠ S) := Lib.hid (Nat.ne_of_gt h.lt)
  clear h hp
  go_enter Tryd.func31, Tryd.ntmps31
  go_upto_region 1 with fail
  generalize w.alloc (.cells (setL f).toArray 27) = w3 at *
  obtain ⟨N0, h0⟩ : ∃ n, w.heap.size = n := ⟨_, rfl⟩
  rw [h0] at I0 HNE ⊢
  clear h0
  go_upto_region 4 with (first
    | (go_at_call 22; (with_reducible refine (HHI.out _).mono ?_); rintro e w1 ⟨rfl, rfl⟩)
    | (go_at_call 30; (with_reducible refine (pk12 _ I0.out.sty).mono ?_); rintro e w1 ⟨r, rfl, hr, hs, hb⟩; replace I0 := Lib.hid (I0.out.on HNE.out hs hb); clear hs hb; obtain ⟨st, hst⟩ : ∃ st, 1 + r = st := ⟨_, rfl⟩; have hsti : (1 : Int) + (r : Int) = (st : Int) := (by omega); have st1 : 1 ≤ st := (by omega); have st2 : st ≤ 12 := (by omega); clear hst hr)
    | (with_reducible refine wpList_set_load rfl _ rfl N0 f rfl I0.out.set ?_)
    | (go_at_call 44; (with_reducible refine (HRUN.out st st1 st2 _).mono ?_); rintro e w2 ⟨⟨n, rfl, hn⟩, hb⟩; replace I0 := Lib.hid (I0.out.low hb); clear hb; have hn63 := run_le hn hx st1; have HN := Lib.hid hn; clear hn)
    | fail)
  clear hsti
  by_cases hlt : n < 2
  · have hli : (n : Int) < 2 := by omega
    clear hlt
    go_wp2_with (go_at_call 45; (with_reducible refine (HVT.out v _ (Nat.le_refl v) h2 I0.out.sty I0.out.pow).mono ?_); rintro e w3 ⟨t, rfl, ht, hs, hb⟩; have I1 := Lib.hid (I0.out.on HNE.out hs hb); have HT := Lib.hid (HONE.out t ht); clear ht hs hb)
    refine bodyPost_ret (results_tmp3 rfl _ _ _) rfl ?_
    exact ⟨t, v, 1, rfl, HT.out, I1.out.sty, I1.out.bar⟩
  have hli : ¬ (n : Int) < 2 := by omega
  have hn0 : 1 ≤ n := by omega
  obtain ⟨P, hP⟩ : ∃ P, n * st = P := ⟨_, rfl⟩
  have hPi : (n : Int) * (st : Int) = (P : Int) := by rw [← hP, Int.natCast_mul]
  have hP2 : P ≤ 756 := by rw [← hP]; exact mul_le756 hn63 st2
  obtain ⟨te, hte⟩ : ∃ te, decide ((mx : Int) < (v : Int) + (P : Int)) = te := ⟨_, rfl⟩
  have HTE : Hid (te = true → mx < v + n * st) := Lib.hid (fun e => by
    subst e
    have := of_decide_eq_true hte
    omega)
  clear hlt hP
  go_upto_region 7 with fail
  clear hte hPi
  have pkn : ∀ W, StyleAt W S → Calls Tryd.prog 30 #[.pointer (some ⟨S, 0, none⟩), .int .i64 (n : Int)] W (Picked S n W) := fun W hW => pick_any S n W hW (by omega) (by omega)
  go_cut [46] (fun s46 wx => ∃ b : Bool, s46 = .bool b ∧ Hid (te = false → b = true) ∧ Hid (ISt f S N0 w wx))
  case first =>
    rcases te with _ | _
    · go_wp2
      go_meet
      exact ⟨true, rfl, Lib.hid fun _ => rfl, I0⟩
    · go_wp2_with (go_at_call 30; (with_reducible refine (pk4 _ I0.out.sty).mono ?_); rintro e w4 ⟨q, rfl, hq, hs, hb⟩; replace I0 := Lib.hid (I0.out.on HNE.out hs hb); clear hs hb)
      go_meet
      exact ⟨_, rfl, Lib.hid fun e => by (cases e), I0⟩
  case rest =>
  clear I0
  obtain ⟨b, rfl, HBT, I0⟩ := hcut
  go_upto_if 46 with fail
  go_cut [12, 13] (fun s12 s13 wx => ∃ (m : Nat) (te : Bool), s12 = .int .i64 (m : Int) ∧ s13 = .bool te ∧ m ≤ 63 ∧ Hid (LenT f v st mx m te) ∧ Hid (ISt f S N0 w wx))
  case first =>
    have HLEN2 : Hid (∀ r, r < n → LenT f v st mx (1 + r) false) := Lib.hid fun r hr => ⟨HN.out.cut (by omega), by omega, fun e => by cases e⟩
    have HLEN3 : Hid (LenT f v st mx n te) := Lib.hid ⟨HN.out, hn0, HTE.out⟩
    rcases b with _ | _
    · go_wp2
      go_meet
      exact ⟨n, te, rfl, rfl, hn63, HLEN3, I0⟩
    · go_wp2_with (go_at_call 30; (with_reducible refine (pkn _ I0.out.sty).mono ?_); rintro e w4 ⟨r, rfl, hr, hs, hb⟩; replace I0 := Lib.hid (I0.out.on HNE.out hs hb); clear hs hb; have hr63 : r ≤ 62 := (by omega); have HL := Lib.hid (HLEN2.out r hr); clear hr)
      go_meet
      exact ⟨1 + r, false, rfl, rfl, by omega, HL, I0⟩
  case rest =>
    clear I0 HN HTE HBT
    obtain ⟨m, te, rfl, rfl, hm63, HL, I0⟩ := hcut
    obtain ⟨Q, hQ⟩ : ∃ Q, (m - 1) * st = Q := ⟨_, rfl⟩
    have hm1 := HL.out.one
    have hQi : ((m : Int) - 1) * (st : Int) = (Q : Int) := by
      have e : ((m - 1 : Nat) : Int) = (m : Int) - 1 := by omega
      rw [← hQ, Int.natCast_mul, e]
    have hQl := HL.out.last hQ
    have HR0 : Hid (∀ l, v + Q ≤ l → l < v + Q + st → l ≤ mx → RunT f k v st l) := Lib.hid fun l a b c => HL.out.runT HMX.out st1 st2 hQ a b c
    have HEND : Hid (te = true → EndT k v st (v + Q)) := Lib.hid fun e => by
      subst e
      exact HL.out.ends HMX.out hQ
    obtain ⟨l, hl⟩ : ∃ l, v + Q = l := ⟨_, rfl⟩
    have hl2 : (v : Int) + (Q : Int) = (l : Int) := by omega
    have hvl : v ≤ l := by omega
    have hQ7 : Q ≤ 62 := by omega
    rw [hl] at HR0 HEND hQl
    have HRL := Lib.hid (HR0.out l (Nat.le_refl _) (by omega) hQl)
    clear hQ HL hl
    have HNT : Hid (∀ W, StyleAt W S → PowS S W → Calls Tryd.prog 43 #[.int .i64 (st : Int), .pointer (some ⟨S, 0, none⟩)] W (NumText st S W)) := Lib.hid fun W hW hQ => numText_any st S W hW hQ (by omega)
    go_upto_block 0 with (first
      | (go_at_call 45; (with_reducible refine (HVT.out v _ (Nat.le_refl v) h2 I0.out.sty I0.out.pow).mono ?_); rintro e w3 ⟨t, rfl, ht, hs, hb⟩; replace I0 := Lib.hid (I0.out.on HNE.out hs hb); have HT := Lib.hid ht; clear ht hs hb)
      | (go_at_call 43; (with_reducible refine (HNT.out _ I0.out.sty I0.out.pow).mono ?_); rintro e w3 ⟨z, rfl, hz, hz2, hs, hb⟩; replace I0 := Lib.hid (I0.out.on HNE.out hs hb); have hby := byT_num (st := st) (by omega) hz hz2; have a1 := add_ok (a := ⟨#[47]⟩) (b := z ++ dec st) (by have := dec_twenty st (by omega); rw [ByteArray.size_append]; show 1 + _ ≤ _; omega); obtain ⟨b, hbb⟩ : ∃ b, ⟨#[47]⟩ ++ (z ++ dec st) = b := ⟨_, rfl⟩; rw [hbb] at a1 hby; have HB := Lib.hid hby; clear hby hbb hz hz2 hs hb)
      | fail)
    clear hQi hl2 a1
    have hts := HT.out.small
    have hbs := HB.out.1
    go_cut [9, 10] (fun s9 s10 wx => s9 = .int .i64 (l : Int) ∧ s10 = .int .i64 (st : Int) ∧ Hid (ISt f S N0 w wx))
    case first =>
      rcases te with _ | _
      · go_wp2
        go_meet
        exact ⟨rfl, rfl, I0⟩
      · have HE := Lib.hid (HEND.out rfl)
        clear HEND
        obtain ⟨lo, hlo⟩ : ∃ b, ((v : Int) == (mn : Int)) = b := ⟨_, rfl⟩
        have HLOW : Hid (lo = true → v = (M.bdOf k).mn) := Lib.hid fun e => by
          rw [← HVMN.out]
          have : ((v : Int) == (mn : Int)) = true := hlo.trans e
          have := eq_of_beq this
          omega
        have a1 := add_ok (a := ⟨#[42]⟩) (b := b) (by show 1 + _ ≤ _; omega)
        have a2 := add_ok (a := t) (b := b) (by omega)
        have HSTAR : Hid (lo = true → 1 < st → ItemT f k v l st (⟨#[42]⟩ ++ b)) := Lib.hid fun e h => itemT_star HRL.out HE.out HB.out (HLOW.out e) h
        have HBY := Lib.hid (itemT_by HRL.out HE.out HT.out HB.out HMN1.out)
        clear HLOW HE
        by_cases hs1 : 1 < st
        · have hs1i : (1 : Int) < (st : Int) := by omega
          have HST : Hid (lo = true → ItemT f k v l st (⟨#[42]⟩ ++ b)) := Lib.hid fun e => HSTAR.out e hs1
          clear HSTAR hs1
          rcases lo with _ | _
          all_goals
            go_wp2_with (first
              | (go_at_call 21; (with_reducible refine (HLO.out _).mono ?_); rintro e w1 ⟨rfl, rfl⟩)
              | (go_at_call 30; (with_reducible refine (pk2 _ I0.out.sty).mono ?_); rintro e w4 ⟨q, rfl, hq, hs, hb⟩; replace I0 := Lib.hid (I0.out.on HNE.out hs hb); clear hs hb)
              | fail)
            all_goals
              first
                | (go_meet; exact ⟨rfl, rfl, I0⟩)
                | (refine bodyPost_ret (results_tmp3 rfl _ _ _) rfl ?_; exact ⟨_, l, st, rfl, HBY.out, I0.out.sty, I0.out.bar⟩)
                | (refine bodyPost_ret (results_tmp3 rfl _ _ _) rfl ?_; exact ⟨_, l, st, rfl, HST.out trivial, I0.out.sty, I0.out.bar⟩)
        · have hs1i : ¬ (1 : Int) < (st : Int) := by omega
          clear HSTAR hs1
          rcases lo with _ | _
          all_goals
            go_wp2_with (first
              | (go_at_call 21; (with_reducible refine (HLO.out _).mono ?_); rintro e w1 ⟨rfl, rfl⟩)
              | (go_at_call 30; (with_reducible refine (pk2 _ I0.out.sty).mono ?_); rintro e w4 ⟨q, rfl, hq, hs, hb⟩; replace I0 := Lib.hid (I0.out.on HNE.out hs hb); clear hs hb)
              | fail)
            all_goals
              first
                | (go_meet; exact ⟨rfl, rfl, I0⟩)
                | (refine bodyPost_ret (results_tmp3 rfl _ _ _) rfl ?_; exact ⟨_, l, st, rfl, HBY.out, I0.out.sty, I0.out.bar⟩)
    case rest =>
      clear I0
      obtain ⟨rfl, rfl, I0⟩ := hcut
      clear HEND HLO
      obtain ⟨big, hbig⟩ : ∃ c, decide ((1 : Int) < (st : Int)) = c := ⟨_, rfl⟩
      have HBIG : Hid ((big = true → 1 < st) ∧ (big = false → ¬ 1 < st)) := Lib.hid ⟨fun e => by
        have := of_decide_eq_true (hbig.trans e)
        omega, fun e => by
        have := of_decide_eq_false (hbig.trans e)
        omega⟩
      go_upto_if 99 with fail
      clear hbig
      go_cut [9] (fun s9 wx => ∃ l' : Nat, s9 = .int .i64 (l' : Int) ∧ v ≤ l' ∧ l' ≤ mx ∧ Hid (RunT f k v st l') ∧ Hid (ISt f S N0 w wx))
      case first =>
        rcases big with _ | _
        rotate_left
        · have hs1 := HBIG.out.1 rfl
          have hs1i : (1 : Int) < (st : Int) := by omega
          obtain ⟨mi, hmi, m1, m2, m3⟩ : ∃ mi : Nat, min (st : Int) ((mx : Int) - (l : Int) + 1) = (mi : Int) ∧ 0 < mi ∧ l + mi ≤ mx + 1 ∧ mi ≤ st := ⟨(min (st : Int) ((mx : Int) - (l : Int) + 1)).toNat, by omega, by omega, by omega, by omega⟩
          have pkm : ∀ W, StyleAt W S → Calls Tryd.prog 30 #[.pointer (some ⟨S, 0, none⟩), .int .i64 (mi : Int)] W (Picked S mi W) := fun W hW => pick_any S mi W hW m1 (by omega)
          go_wp2_with (go_at_call 30; (with_reducible refine (pkm _ I0.out.sty).mono ?_); rintro e w4 ⟨r, rfl, hr, hs, hb⟩; replace I0 := Lib.hid (I0.out.on HNE.out hs hb); clear hs hb; have hlr : l + r ≤ mx := (by omega); have HL := Lib.hid (HR0.out (l + r) (by omega) (by omega) hlr); clear hr)
          go_meet
          exact ⟨l + r, rfl, by omega, hlr, HL, I0⟩
        · go_wp2
          go_meet
          exact ⟨l, rfl, hvl, hQl, HRL, I0⟩
      case rest =>
        clear I0 HR0 HRL hvl hQl HBIG big
        obtain ⟨l', rfl, hv', hl', HR, I0⟩ := hcut
        have a1 := add_ok (a := t) (b := ⟨#[45]⟩) (by show _ + 1 ≤ _; omega)
        by_cases hs1 : 1 < st
        · have hs1i : (1 : Int) < (st : Int) := by omega
          clear hs1
          go_wp2_with (first
            | (go_at_call 45; (with_reducible refine (HVT.out l' _ hv' hl' I0.out.sty I0.out.pow).mono ?_); rintro e w3 ⟨q, rfl, ht, hs, hb⟩; replace I0 := Lib.hid (I0.out.on HNE.out hs hb); have hqs := ht.small; have HQ := Lib.hid ht; have a2 := add_ok (a := t ++ ⟨#[45]⟩) (b := q) (by rw [ByteArray.size_append]; show _ + 1 + _ ≤ _; omega); have a3 := add_ok (a := t ++ ⟨#[45]⟩ ++ q) (b := b) (by rw [ByteArray.size_append, ByteArray.size_append]; show _ + 1 + _ + _ ≤ _; omega); clear ht hs hb)
            | fail)
          refine bodyPost_ret (results_tmp3 rfl _ _ _) rfl ?_
          exact ⟨_, l', st, rfl, itemT_step HR.out HT.out HQ.out HB.out HMN1.out, I0.out.sty, I0.out.bar⟩
        · have hs2 : st = 1 := by omega
          subst hs2
          clear hs1
          go_wp2_with (first
            | (go_at_call 45; (with_reducible refine (HVT.out l' _ hv' hl' I0.out.sty I0.out.pow).mono ?_); rintro e w3 ⟨q, rfl, ht, hs, hb⟩; replace I0 := Lib.hid (I0.out.on HNE.out hs hb); have hqs := ht.small; have HQ := Lib.hid ht; have a2 := add_ok (a := t ++ ⟨#[45]⟩) (b := q) (by rw [ByteArray.size_append]; show _ + 1 + _ ≤ _; omega); have a3 := add_ok (a := t ++ ⟨#[45]⟩ ++ q) (b := b) (by rw [ByteArray.size_append, ByteArray.size_append]; show _ + 1 + _ + _ ≤ _; omega); clear ht hs hb)
            | (go_at_call 30; (with_reducible refine (pk4 _ I0.out.sty).mono ?_); rintro e w4 ⟨y, rfl, hy, hs, hb⟩; replace I0 := Lib.hid (I0.out.on HNE.out hs hb); clear hs hb)
            | fail)
          all_goals
            first
              | (refine bodyPost_ret (results_tmp3 rfl _ _ _) rfl ?_; exact ⟨_, l', 1, rfl, itemT_step HR.out HT.out HQ.out HB.out HMN1.out, I0.out.sty, I0.out.bar⟩)
              | (refine bodyPost_ret (results_tmp3 rfl _ _ _) rfl ?_; exact ⟨_, l', 1, rfl, itemT_range HR.out HT.out HQ.out HMN1.out, I0.out.sty, I0.out.bar⟩)
end Go.Proofs.YtjipjhpehfbpkaaDoor
