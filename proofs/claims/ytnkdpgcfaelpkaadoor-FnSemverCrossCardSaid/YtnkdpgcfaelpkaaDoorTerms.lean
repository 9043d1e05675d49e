/-
  impl.terms: lists of terms as the package's own.
-/
import Derived.Test.YtnkdpgcfaelpkaaDoorTermOp
import Derived.Test.YtnkdpgcfaelpkaaDoorRow
import Derived.Deep.DeepCutAuto
namespace Go.Proofs.YtnkdpgcfaelpkaaDoor
open Go.RowKit
set_option maxRecDepth 100000
set_option linter.unusedVariables false

def t6 (t : T) : List Value := [.int .i64 t.op, .int .i64 t.g, .int .u64 t.a, .int .u64 t.b, .int .u64 t.c, .string t.p]
/-- slice v reads as the terms L; as the lists of terms LL -/
def ReadT (w : World) (v : Value) (L : List T) : Prop := ReadG w 6 t6 v L
def ReadTT (w : World) (v : Value) (LL : List (List T)) : Prop :=
  ∃ R : List (Value × List T), R.map (·.2) = LL ∧ ReadG w 1 (fun r => [r.1]) v R ∧ ∀ r ∈ R, ReadT w r.1 r.2
def zc (p : T × Nat) : List Value := [.string (opText p.1.op.toNat), .pointer (some ⟨p.2, 0, none⟩), .bool p.1.dirty, .bool p.1.minor, .bool p.1.patch]
def VersAt (w : World) (P : List (T × Nat)) : Prop := ∀ p ∈ P, AtV w p.2 p.1.ver ⟨#[]⟩
theorem VersAt.below {w w' : World} {P : List (T × Nat)} (h : VersAt w P) (b : Below w.heap.size w w') : VersAt w' P := fun p hp => (h p hp).below b
theorem infoZ : (Tryd.prog.info? 69).map (fun i => (i.zero, i.size, i.bytes)) = some (some (.agg #[.string ⟨#[]⟩, .pointer none, .bool false, .bool false, .bool false]), 5, 32) := by kernel_rfl
theorem infoZr : (Tryd.prog.info? 73).map (fun i => (i.zero, i.size, i.bytes)) = some (some (.slice none 0 0), 1, 24) := by kernel_rfl
/-- a row of terms as the package's own, and their versions -/
def RowZ (w : World) (base : Nat) (v : Value) (P : List (T × Nat)) : Prop := OwnG w base 69 5 zc v P ∧ VersAt w P
def r1 (r : Value × List (T × Nat)) : List Value := [r.1]
def RowsZ (w : World) (base : Nat) (v : Value) (R : List (Value × List (T × Nat))) : Prop := OwnG w base 73 1 r1 v R ∧ ∀ r ∈ R, RowZ w base r.1 r.2
theorem RowZ.below {w w' : World} {base : Nat} {v : Value} {P : List (T × Nat)} (h : RowZ w base v P) (b : Below w.heap.size w w') : RowZ w' base v P := ⟨h.1.kept b, h.2.below b⟩
theorem RowsZ.below {w w' : World} {base : Nat} {v : Value} {R : List (Value × List (T × Nat))} (h : RowsZ w base v R) (b : Below w.heap.size w w') : RowsZ w' base v R := ⟨h.1.kept b, fun r hr => (h.2 r hr).below b⟩
theorem AtV.grown {w w' : World} {N : Nat} {x : V} {o : ByteArray} {row : Option Nat} (h : AtV w N x o) (hg : w.grownBy w' row) (hne : some N ≠ row) : AtV w' N x o :=
  (hg.block N (Array.getElem?_eq_some_iff.1 h).1 hne).trans h
theorem RowZ.snoc {w w' : World} {base : Nat} {v v' : Value} {P : List (T × Nat)} {p : T × Nat} (h : RowZ w base v P) (hp : AtV w p.2 p.1.ver ⟨#[]⟩)
    (h' : OwnG w' base 69 5 zc v' (P ++ [p])) (hg : w.grownBy w' v.ownBlock) : RowZ w' base v' (P ++ [p]) := by
  refine ⟨h', fun q hq => ?_⟩
  have hq' : AtV w q.2 q.1.ver ⟨#[]⟩ := by
    rcases List.mem_append.1 hq with hq | hq
    · exact h.2 q hq
    · obtain rfl := List.mem_singleton.1 hq
      exact hp
  exact hq'.grown hg (h.1.ne_blk hq' (by decide))
theorem RowsZ.snoc {w w' : World} {base : Nat} {v v' : Value} {R : List (Value × List (T × Nat))} {r : Value × List (T × Nat)} (h : RowsZ w base v R) (hr : RowZ w base r.1 r.2)
    (h' : OwnG w' base 73 1 r1 v' (R ++ [r])) (hg : w.grownBy w' v.ownBlock) : RowsZ w' base v' (R ++ [r]) := by
  refine ⟨h', fun q hq => ?_⟩
  have hq' : RowZ w base q.1 q.2 := by
    rcases List.mem_append.1 hq with hq | hq
    · exact h.2 q hq
    · obtain rfl := List.mem_singleton.1 hq
      exact hr
  exact ⟨hq'.1.grown hg (hq'.1.ne h.1 (by decide)), fun p hp => (hq'.2 p hp).grown hg (h.1.ne_blk (hq'.2 p hp) (by decide))⟩
def TermsPost (w : World) (LL : List (List T)) (e : Ending) (w' : World) : Prop :=
  ∃ v' R, e = .returned v' ∧ R.map (fun r => r.2.map (·.1)) = LL ∧ RowsZ w' w.heap.size v' R ∧ Below w.heap.size w w'
def T.ok (t : T) : Prop := (0 ≤ t.op ∧ t.op < 8) ∧ (t.g = 0 ∨ t.g = 1 ∨ t.g = 2 ∨ t.g = 3)

set_option maxHeartbeats 4000000 in
theorem terms_any (v : Value) (LL : List (List T)) (w : World) (hr : ReadTT w v LL) (hl : LL.length ≤ 1000) (hz : ∀ L ∈ LL, L.length ≤ 1000 ∧ ∀ t ∈ L, t.ok) :
    Calls Tryd.prog 31 #[v] w (TermsPost w LL) := by
  obtain ⟨R0, rfl, ⟨A, cap, rfl, hcell⟩, hrow⟩ := hr
  rw [List.length_map] at hl
  have HC := Lib.hid hcell
  have HROW := Lib.hid hrow
  have HZ := Lib.hid hz
  clear hcell hrow hz
  go_enter Tryd.func31, Tryd.ntmps31
  go_wp2
  go_loopw [3, 11] (fun v3 i wr => ∃ (k : Nat) (R : List (Value × List (T × Nat))), k ≤ R0.length ∧ i = .int .i64 k ∧ Hid (R.map (fun r => r.2.map (·.1)) = (R0.take k).map (·.2)) ∧ Hid (RowsZ wr w.heap.size v3 R) ∧ Hid (Below w.heap.size w wr)) (fun _ i _ => R0.length - (intOf i).toNat)
  case atStart => exact ⟨0, [], Nat.zero_le _, rfl, Lib.hid rfl, Lib.hid ⟨OwnG.nil _ _ _ _ _, fun r hr => by cases hr⟩, Lib.hid (Below.refl _ _)⟩
  case round =>
    obtain ⟨k, R, hk, rfl, HM, HR, HB⟩ := hrel
    by_cases hlt : k < R0.length
    · obtain ⟨b, o, rfl, hbl, hc⟩ := HC.out k hlt
      have hread := (HROW.out R0[k] (List.getElem_mem hlt)).kept HB.out
      have hzk := HZ.out R0[k].2 (List.mem_map.2 ⟨_, List.getElem_mem hlt, rfl⟩)
      have c0 : wr.cell? ⟨b, o + k, none⟩ = some R0[k].1 := by rw [HB.out.cell (p := ⟨b, o + k, none⟩) hbl]; simpa using hc 0 _ rfl
      have HTK := Lib.hid (show (R0.take (k + 1)).map (·.2) = (R0.take k).map (·.2) ++ [R0[k].2] by rw [List.take_succ_eq_append_getElem hlt, List.map_append]; rfl)
      generalize R0[k].2 = L at *
      generalize R0[k].1 = rv at *
      obtain ⟨A2, cap2, rfl, hcell2⟩ := hread
      have HC2 := Lib.hid hcell2
      have hl2 := hzk.1
      have HZK := Lib.hid hzk.2
      clear hc hbl hcell2 hzk
      obtain ⟨wo, rfl⟩ : ∃ wo : World, wo = wr := ⟨_, rfl⟩
      go_wp2
      go_loopw [6, 17] (fun v6 j wi => ∃ (m : Nat) (P : List (T × Nat)), m ≤ L.length ∧ j = .int .i64 m ∧ Hid (P.map (·.1) = L.take m) ∧ Hid (RowZ wi wo.heap.size v6 P) ∧ Hid (Below wo.heap.size wo wi)) (fun _ j _ => L.length - (intOf j).toNat)
      case atStart => exact ⟨0, [], Nat.zero_le _, rfl, Lib.hid rfl, Lib.hid ⟨OwnG.nil _ _ _ _ _, fun p hp => by cases hp⟩, Lib.hid (Below.refl _ _)⟩
      case round =>
        obtain ⟨m, P, hm, rfl, HMP, HP, HBI⟩ := hrel
        by_cases hltm : m < L.length
        · obtain ⟨b2, o2, rfl, hbl2, hc2⟩ := HC2.out m hltm
          have hokm := HZK.out L[m] (List.getElem_mem hltm)
          have q0 : wr.cell? ⟨b2, o2 + m * 6, none⟩ = some (.int .i64 L[m].op) := by rw [HBI.out.cell (p := ⟨b2, o2 + m * 6, none⟩) hbl2]; exact hc2 0 _ rfl
          have q1 : wr.cell? ⟨b2, o2 + m * 6 + 1, none⟩ = some (.int .i64 L[m].g) := by rw [HBI.out.cell (p := ⟨b2, o2 + m * 6 + 1, none⟩) hbl2]; exact hc2 1 _ rfl
          have q2 : wr.cell? ⟨b2, o2 + m * 6 + 2, none⟩ = some (.int .u64 L[m].a) := by rw [HBI.out.cell (p := ⟨b2, o2 + m * 6 + 2, none⟩) hbl2]; exact hc2 2 _ rfl
          have q3 : wr.cell? ⟨b2, o2 + m * 6 + 3, none⟩ = some (.int .u64 L[m].b) := by rw [HBI.out.cell (p := ⟨b2, o2 + m * 6 + 3, none⟩) hbl2]; exact hc2 3 _ rfl
          have q4 : wr.cell? ⟨b2, o2 + m * 6 + 4, none⟩ = some (.int .u64 L[m].c) := by rw [HBI.out.cell (p := ⟨b2, o2 + m * 6 + 4, none⟩) hbl2]; exact hc2 4 _ rfl
          have q5 : wr.cell? ⟨b2, o2 + m * 6 + 5, none⟩ = some (.string L[m].p) := by rw [HBI.out.cell (p := ⟨b2, o2 + m * 6 + 5, none⟩) hbl2]; exact hc2 5 _ rfl
          have HTM := Lib.hid (show L.take (m + 1) = L.take m ++ [L[m]] from List.take_succ_eq_append_getElem hltm)
          have HOP := Lib.hid hokm.1
          have HGV := Lib.hid hokm.2
          have hpl : P.length = m := by have := congrArg List.length HMP.out; rw [List.length_map, List.length_take] at this; omega
          have HPL := Lib.hid hpl
          generalize L[m] = t at *
          clear hc2 hbl2 hokm hpl
          go_wp2_with (first
            | (go_at_call 45; (with_reducible refine (termS_any t _ HGV.out HOP.out).mono ?_); rintro e w1 ⟨⟨M', rfl, hat⟩, hb1⟩; have HAT := Lib.hid hat; have HB1 := Lib.hid (Below.up (w := wr) (by (repeat (first | exact Below.refl _ _ | apply Below.drew | (apply below_alloc_on (Nat.le_refl _))))) hb1); clear hat hb1)
            | (at_builtin; refine append_gen rfl _ _ 73 69 _ 5 32 rfl Tryd.underlying73 infoZ rfl (by decide) wo.heap.size zc _ P rfl ((HP.out.1.kept HB1.out).kept (below_alloc _ _)) w1.heap.size 1 (t, M') rfl rfl ?c1 ?c2 ?c3 ?c4 ?c5 ?_; rotate_left 5; intro v2 w2 hown2 hg2; have HO2 := Lib.hid hown2; have HG2 := Lib.hid hg2; clear hown2 hg2))
          case c1 => intro u hu; simp only [zc, List.mem_cons, List.not_mem_nil, or_false] at hu; rcases hu with rfl | rfl | rfl | rfl | rfl <;> rfl
          case c2 =>
            intro j u hu
            rw [cell_of_row _ _ _ _ _ _ (alloc_at _ _ _ rfl)]
            simpa [zc] using hu
          case c3 => have := HPL.out; omega
          case c4 => have := HPL.out; omega
          case c5 => have h1 := HBI.out.size; have h2 := HB1.out.size; simp; omega
          have HO1 := (HP.out.below HB1.out).below (below_alloc w1 (.cells #[.string (opText t.op.toNat), .pointer (some ⟨M', 0, none⟩), .bool t.dirty, .bool t.minor, .bool t.patch] 69))
          have HW1 := Lib.hid (HBI.out.trans ((HB1.out.trans ((below_alloc w1 (.cells #[.string (opText t.op.toNat), .pointer (some ⟨M', 0, none⟩), .bool t.dirty, .bool t.minor, .bool t.patch] 69)).mono HB1.out.size)).mono HBI.out.size))
          have HRZ := Lib.hid (HO1.snoc (p := (t, M')) (HAT.out.below (below_alloc _ _)) HO2.out HG2.out)
          have HBZ := Lib.hid (HW1.out.trans (HO1.1.below HW1.out.size HG2.out))
          clear HO1
          go_wp2
          go_roundw
          case rel => exact ⟨m + 1, P ++ [(t, M')], hltm, by go_num, Lib.hid (by rw [List.map_append, HMP.out, HTM.out]; rfl), HRZ, HBZ⟩
          case measure => simp [intOf]; omega
        · have hme : m = L.length := by omega
          have HPM := Lib.hid (show P.map (·.1) = L by rw [HMP.out, hme, List.take_length])
          clear hme
          obtain ⟨A6, c6, rfl⟩ := HP.out.1.slice
          have hrl : R.length = k := by have := congrArg List.length HM.out; rw [List.length_map, List.length_map, List.length_take] at this; omega
          have HRL := Lib.hid hrl
          clear hrl
          go_wp2_with (at_builtin; refine append_gen rfl _ _ 57 73 _ 1 24 rfl Tryd.underlying57 infoZr rfl (by decide) w.heap.size r1 u3 R rfl ((HR.out.1.kept HBI.out).kept (below_alloc _ _)) wr.heap.size 1 (.slice A6 P.length c6, P) rfl rfl ?d1 ?d2 ?d3 ?d4 ?d5 ?_; rotate_left 5; intro v2 w2 hown2 hg2; have HO2 := Lib.hid hown2; have HG2 := Lib.hid hg2; clear hown2 hg2)
          case d1 => intro u hu; simp only [r1, List.mem_singleton] at hu; rw [hu]; rfl
          case d2 => intro j u hu; rw [cell_of_row _ _ _ _ _ _ (alloc_at _ _ _ rfl)]; simpa [r1] using hu
          case d3 => have := HRL.out; omega
          case d4 => have := HRL.out; omega
          case d5 => have h1 := HBI.out.size; have h2 := HB.out.size; simp; omega
          have HO1 := (HR.out.below HBI.out).below (below_alloc wr (.cells #[.slice A6 P.length c6] 73))
          have HW1 := Lib.hid (HB.out.trans ((HBI.out.trans ((below_alloc wr (.cells #[.slice A6 P.length c6] 73)).mono HBI.out.size)).mono HB.out.size))
          have HP1 := HP.out.below (below_alloc wr (.cells #[.slice A6 P.length c6] 73))
          have HRZ := Lib.hid (HO1.snoc (r := (.slice A6 P.length c6, P)) ⟨HP1.1.lower HB.out.size, HP1.2⟩ HO2.out HG2.out)
          have HBZ := Lib.hid (HW1.out.trans (HO1.1.below HW1.out.size HG2.out))
          clear HO1 HP1
          go_wp2
          go_roundw
          case rel => exact ⟨k + 1, R ++ [(.slice A6 P.length c6, P)], hlt, by go_num, Lib.hid (by rw [List.map_append, HM.out, HTK.out, ← HPM.out]; rfl), HRZ, HBZ⟩
          case measure => simp [intOf]; omega
    · have hke : k = R0.length := by omega
      have HKE := Lib.hid hke
      clear hke
      go_wp2
      go_ret
      exact ⟨_, R, rfl, by rw [HM.out, HKE.out, List.take_length], HR.out, HB.out⟩
end Go.Proofs.YtnkdpgcfaelpkaaDoor
