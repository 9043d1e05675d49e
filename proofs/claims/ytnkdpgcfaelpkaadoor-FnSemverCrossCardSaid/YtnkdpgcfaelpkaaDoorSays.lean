/-
  (*constraint).check by operator; what a check says of a version, for every term.
-/
import Derived.Test.YtnkdpgcfaelpkaaDoorUpgW
import Derived.Test.YtnkdpgcfaelpkaaDoorOpAbove
import Derived.Test.YtnkdpgcfaelpkaaDoorOpLeast
import Derived.Test.YtnkdpgcfaelpkaaDoorOpMost
import Derived.Test.YtnkdpgcfaelpkaaDoorOpEqual
import Derived.Test.YtnkdpgcfaelpkaaDoorOpNot
namespace Go.Proofs.YtnkdpgcfaelpkaaDoor
open Go.RowKit
set_option maxRecDepth 100000
set_option linter.unusedVariables false

theorem check_0 (x y : V) (o o' : ByteArray) (N K M' : Nat) (di mi pa pre : Bool) (w : World) (I : Hid (CSt w w N K M' x y o o' ⟨#[61]⟩ di mi pa)) (GX : Hid x.pGood) (GY : Hid y.pGood) (zx : x.p.size ≤ 2147483647) (zy : y.p.size ≤ 2147483647) (r : Bool) (HR : Hid ((x.inl pre && (if di then tildeV x y mi pa else decide (x.cmp y = 0))) = r)) :
    Calls Tryd.prog 49 #[.pointer (some ⟨K, 0, none⟩), .pointer (some ⟨N, 0, none⟩), .bool pre] w fun e w' => (∃ ev, e = .returned (.tuple #[.bool r, ev])) ∧ Below w.heap.size w w' := by
  obtain ⟨k0, k1, k2, k3, k4, k5⟩ := I.out.cells
  go_enter Tryd.func49, Tryd.ntmps49
  go_wp2_with (go_at_call 55; (with_reducible refine (equalC_any x y o o' ⟨#[61]⟩ N K M' di mi pa pre _ I GX GY zx zy r HR).mono ?_); rintro e w' ⟨⟨ev, rfl⟩, hb⟩; have HB := Lib.hid hb; clear hb)
  refine bodyPost_ret (results_tmp2 rfl _ _ _) rfl ?_
  exact ⟨⟨_, rfl⟩, HB.out⟩
theorem check_1 (x y : V) (o o' : ByteArray) (N K M' : Nat) (di mi pa pre : Bool) (w : World) (I : Hid (CSt w w N K M' x y o o' ⟨#[33, 61]⟩ di mi pa)) (HP : Hid (pa = true → M.bs y.p = [])) (GX : Hid x.pGood) (GY : Hid y.pGood) (zx : x.p.size ≤ 2147483647) (zy : y.p.size ≤ 2147483647) (r : Bool) (HR : Hid ((x.inl pre && notV x y di mi pa) = r)) :
    Calls Tryd.prog 49 #[.pointer (some ⟨K, 0, none⟩), .pointer (some ⟨N, 0, none⟩), .bool pre] w fun e w' => (∃ ev, e = .returned (.tuple #[.bool r, ev])) ∧ Below w.heap.size w w' := by
  obtain ⟨k0, k1, k2, k3, k4, k5⟩ := I.out.cells
  go_enter Tryd.func49, Tryd.ntmps49
  go_wp2_with (go_at_call 56; (with_reducible refine (notC_any x y o o' ⟨#[33, 61]⟩ N K M' di mi pa pre _ I HP GX GY zx zy r HR).mono ?_); rintro e w' ⟨⟨ev, rfl⟩, hb⟩; have HB := Lib.hid hb; clear hb)
  refine bodyPost_ret (results_tmp2 rfl _ _ _) rfl ?_
  exact ⟨⟨_, rfl⟩, HB.out⟩
theorem check_2 (x y : V) (o o' : ByteArray) (N K M' : Nat) (di mi pa pre : Bool) (w : World) (I : Hid (CSt w w N K M' x y o o' ⟨#[62]⟩ di mi pa)) (GX : Hid x.pGood) (GY : Hid y.pGood) (zx : x.p.size ≤ 2147483647) (zy : y.p.size ≤ 2147483647) (r : Bool) (HR : Hid ((x.inl pre && aboveV x y di mi pa) = r)) :
    Calls Tryd.prog 49 #[.pointer (some ⟨K, 0, none⟩), .pointer (some ⟨N, 0, none⟩), .bool pre] w fun e w' => (∃ ev, e = .returned (.tuple #[.bool r, ev])) ∧ Below w.heap.size w w' := by
  obtain ⟨k0, k1, k2, k3, k4, k5⟩ := I.out.cells
  go_enter Tryd.func49, Tryd.ntmps49
  go_wp2_with (go_at_call 57; (with_reducible refine (aboveC_any x y o o' ⟨#[62]⟩ N K M' di mi pa pre _ I GX GY zx zy r HR).mono ?_); rintro e w' ⟨⟨ev, rfl⟩, hb⟩; have HB := Lib.hid hb; clear hb)
  refine bodyPost_ret (results_tmp2 rfl _ _ _) rfl ?_
  exact ⟨⟨_, rfl⟩, HB.out⟩
theorem check_4 (x y : V) (o o' : ByteArray) (N K M' : Nat) (di mi pa pre : Bool) (w : World) (I : Hid (CSt w w N K M' x y o o' ⟨#[62, 61]⟩ di mi pa)) (GX : Hid x.pGood) (GY : Hid y.pGood) (zx : x.p.size ≤ 2147483647) (zy : y.p.size ≤ 2147483647) (r : Bool) (HR : Hid ((x.inl pre && decide (x.cmp y ≥ 0)) = r)) :
    Calls Tryd.prog 49 #[.pointer (some ⟨K, 0, none⟩), .pointer (some ⟨N, 0, none⟩), .bool pre] w fun e w' => (∃ ev, e = .returned (.tuple #[.bool r, ev])) ∧ Below w.heap.size w w' := by
  obtain ⟨k0, k1, k2, k3, k4, k5⟩ := I.out.cells
  go_enter Tryd.func49, Tryd.ntmps49
  go_wp2_with (go_at_call 59; (with_reducible refine (leastC_any x y o o' ⟨#[62, 61]⟩ N K M' di mi pa pre _ I GX GY zx zy r HR).mono ?_); rintro e w' ⟨⟨ev, rfl⟩, hb⟩; have HB := Lib.hid hb; clear hb)
  refine bodyPost_ret (results_tmp2 rfl _ _ _) rfl ?_
  exact ⟨⟨_, rfl⟩, HB.out⟩
theorem check_5 (x y : V) (o o' : ByteArray) (N K M' : Nat) (di mi pa pre : Bool) (w : World) (I : Hid (CSt w w N K M' x y o o' ⟨#[60, 61]⟩ di mi pa)) (GX : Hid x.pGood) (GY : Hid y.pGood) (zx : x.p.size ≤ 2147483647) (zy : y.p.size ≤ 2147483647) (r : Bool) (HR : Hid ((x.inl pre && mostV x y di mi) = r)) :
    Calls Tryd.prog 49 #[.pointer (some ⟨K, 0, none⟩), .pointer (some ⟨N, 0, none⟩), .bool pre] w fun e w' => (∃ ev, e = .returned (.tuple #[.bool r, ev])) ∧ Below w.heap.size w w' := by
  obtain ⟨k0, k1, k2, k3, k4, k5⟩ := I.out.cells
  go_enter Tryd.func49, Tryd.ntmps49
  go_wp2_with (go_at_call 60; (with_reducible refine (mostC_any x y o o' ⟨#[60, 61]⟩ N K M' di mi pa pre _ I GX GY zx zy r HR).mono ?_); rintro e w' ⟨⟨ev, rfl⟩, hb⟩; have HB := Lib.hid hb; clear hb)
  refine bodyPost_ret (results_tmp2 rfl _ _ _) rfl ?_
  exact ⟨⟨_, rfl⟩, HB.out⟩
theorem check_3 (x : V) (t : T) (o : ByteArray) (N K M' : Nat) (pre : Bool) (w : World) (I : Hid (CSt w w N K M' x t.ver o ⟨#[]⟩ ⟨#[60]⟩ t.dirty t.minor t.patch)) (GX : Hid x.pGood) (GY : Hid t.ver.pGood) (zx : x.p.size ≤ 2147483647) (zy : t.ver.p.size ≤ 2147483647) (r : Bool) (HR : Hid ((x.inl pre && decide (x.cmp t.ver < 0)) = r)) :
    Calls Tryd.prog 49 #[.pointer (some ⟨K, 0, none⟩), .pointer (some ⟨N, 0, none⟩), .bool pre] w fun e w' => (∃ ev, e = .returned (.tuple #[.bool r, ev])) ∧ Below w.heap.size w w' := by
  obtain ⟨k0, k1, k2, k3, k4, k5⟩ := I.out.cells
  have hc := lessThanC_any x t.ver o ⟨#[]⟩ ⟨#[60]⟩ t N K M' pre w I.out.atx I.out.aty I.out.atk GX.out GY.out I.out.num zx zy
  rw [HR.out] at hc
  have HC := Lib.hid hc
  clear hc
  go_enter Tryd.func49, Tryd.ntmps49
  go_wp2_with (go_at_call 58; (with_reducible refine (HC.out).mono ?_); rintro e w' ⟨⟨ev, rfl⟩, hb⟩; have HB := Lib.hid hb; clear hb)
  refine bodyPost_ret (results_tmp2 rfl _ _ _) rfl ?_
  exact ⟨⟨_, rfl⟩, HB.out⟩

theorem notV_not (t : T) (x : V) (hp : t.patch = true → M.bs t.p = []) : notV x t.ver t.dirty t.minor t.patch = t.not x := by
  unfold notV T.not
  have ea : t.ver.a = t.a := rfl
  have eb : t.ver.b = t.b := rfl
  have ec : t.ver.c = t.c := rfl
  rw [ea, eb, ec]
  cases hd : t.dirty with
  | false => rfl
  | true =>
    simp only [if_true]
    by_cases h1 : t.a = x.a
    · by_cases h2 : t.b = x.b
      · cases hm : t.minor with
        | true => simp [h1, h2]
        | false =>
          by_cases h3 : t.c = x.c
          · cases hpa : t.patch with
            | false => simp [h1, h2, h3]
            | true =>
              have e := hp hpa
              simp only [h1, h2, h3, e]
              by_cases hx : M.bs x.p = []
              · simp [hx]
              · simp [hx, M.preCmp]
          · cases hpa : t.patch with
            | false => simp [h1, h2, h3]
            | true =>
              have e := hp hpa
              simp only [h1, h2, e]
              by_cases hx : M.bs x.p = []
              · simp [hx]
              · simp [hx, M.preCmp]
      · cases hm : t.minor <;> simp [h1, h2]
    · simp [h1]

/-- what a check says of a version: the term's operator, if the version is let in -/
theorem says_any (t : T) (x : V) (ho : 0 ≤ t.op ∧ t.op < 8) (hp : t.patch = true → M.bs t.p = []) (N M' : Nat) (pre r : Bool) (GX : Hid x.pGood) (GY : Hid t.ver.pGood) (zx : x.p.size ≤ 2147483647) (zy : t.p.size ≤ 2147483647) (hr : Hid ((x.inl pre && t.hold x) = r)) :
    Says x t.ver ⟨#[]⟩ (opText t.op.toNat) N M' t.dirty t.minor t.patch pre r := by
  intro K w I
  have h : t.op = 0 ∨ t.op = 1 ∨ t.op = 2 ∨ t.op = 3 ∨ t.op = 4 ∨ t.op = 5 ∨ t.op = 6 ∨ t.op = 7 := by omega
  have hr0 := hr.out
  unfold T.hold at hr0
  rcases h with h | h | h | h | h | h | h | h
  · rw [h] at I hr0
    exact check_0 x t.ver ⟨#[]⟩ ⟨#[]⟩ N K M' _ _ _ pre w I GX GY zx zy r (Lib.hid hr0)
  · rw [h] at I hr0
    exact check_1 x t.ver ⟨#[]⟩ ⟨#[]⟩ N K M' _ _ _ pre w I (Lib.hid hp) GX GY zx zy r (Lib.hid (by rw [notV_not t x hp]; exact hr0))
  · rw [h] at I hr0
    exact check_2 x t.ver ⟨#[]⟩ ⟨#[]⟩ N K M' _ _ _ pre w I GX GY zx zy r (Lib.hid hr0)
  · rw [h] at I hr0
    exact check_3 x t ⟨#[]⟩ N K M' pre w I GX GY zx zy r (Lib.hid hr0)
  · rw [h] at I hr0
    exact check_4 x t.ver ⟨#[]⟩ ⟨#[]⟩ N K M' _ _ _ pre w I GX GY zx zy r (Lib.hid hr0)
  · rw [h] at I hr0
    exact check_5 x t.ver ⟨#[]⟩ ⟨#[]⟩ N K M' _ _ _ pre w I GX GY zx zy r (Lib.hid hr0)
  · rw [h] at I hr0
    exact check_6 x t.ver ⟨#[]⟩ ⟨#[]⟩ N K M' _ _ _ pre w I GX GY zx zy r (Lib.hid hr0)
  · rw [h] at I hr0
    exact check_7 x t.ver ⟨#[]⟩ ⟨#[]⟩ N K M' _ _ _ pre w I GX GY zx zy r (Lib.hid hr0)
/-- impl.TermHolds, over the parts of a term -/
theorem termHolds_is (t : T) (x : V) (pre r : Bool) (w : World) (ho : 0 ≤ t.op ∧ t.op < 8) (hg : t.g = 0 ∨ t.g = 1 ∨ t.g = 2 ∨ t.g = 3) (hp : t.patch = true → M.bs t.p = []) (gx : x.pGood) (gy : t.ver.pGood) (hn : NumErrs w) (zx : x.p.size ≤ 2147483647) (zy : t.p.size ≤ 2147483647) (hr : Hid ((x.inl pre && t.hold x) = r)) :
    Calls Tryd.prog 25 #[.agg #[.int .i64 t.op, .int .i64 t.g, .int .u64 t.a, .int .u64 t.b, .int .u64 t.c, .string t.p], .agg #[.int .u64 x.a, .int .u64 x.b, .int .u64 x.c, .string x.p, .string x.m], .bool pre] w fun e w' => e = .returned (.bool r) ∧ Below w.heap.size w w' :=
  termHolds_any t x pre r w ho (Lib.hid fun N M' => says_any t x ho hp N M' pre r (Lib.hid gx) (Lib.hid gy) zx zy hr) hg gx gy hn zx zy
end Go.Proofs.YtnkdpgcfaelpkaaDoor
