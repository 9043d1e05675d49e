/-
  spec.Cross: every list of the one with every list of the other.
-/
import Derived.Test.YtnkdpgcfaelpkaaDoorApp
namespace Go.Proofs.YtnkdpgcfaelpkaaDoor
open Go.RowKit
set_option maxRecDepth 100000
set_option linter.unusedVariables false

def rr (r : Value × List T) : List Value := [r.1]
theorem rr_len (r : Value × List T) : (rr r).length = 1 := rfl
theorem rr_one (r : Value × List T) (A : Option Addr) (n c : Nat) (h : r.1 = .slice A n c) : ∀ u ∈ rr r, u.oneCell' = true := by
  intro u hu
  obtain rfl := List.mem_singleton.1 hu
  rw [h]; rfl
theorem t6_len' (t : T) : (t6 t).length = 6 := rfl
theorem t6_one' (t : T) : ∀ u ∈ t6 t, u.oneCell' = true := by
  intro u hu
  simp only [t6, List.mem_cons, List.not_mem_nil, or_false] at hu
  rcases hu with rfl | rfl | rfl | rfl | rfl | rfl <;> rfl
theorem infoTm : (Tryd.prog.info? 35).map (fun i => (i.zero, i.size, i.bytes)) = some (some (.agg #[.int .i64 0, .int .i64 0, .int .u64 0, .int .u64 0, .int .u64 0, .string ⟨#[]⟩]), 6, 56) := by kernel_rfl
theorem infoTs : (Tryd.prog.info? 37).map (fun i => (i.zero, i.size, i.bytes)) = some (some (.slice none 0 0), 1, 24) := by kernel_rfl
/-- a row of the call's own of rows of the call's own -/
def RowsO (w : World) (base : Nat) (v : Value) (R : List (Value × List T)) : Prop := OwnG w base 37 1 rr v R ∧ ∀ r ∈ R, OwnG w base 35 6 t6 r.1 r.2
theorem RowsO.below {w w' : World} {base : Nat} {v : Value} {R : List (Value × List T)} (h : RowsO w base v R) (b : Below w.heap.size w w') : RowsO w' base v R := ⟨h.1.kept b, fun r hr => (h.2 r hr).kept b⟩
theorem RowsO.snoc {w w' : World} {base : Nat} {v v' : Value} {R : List (Value × List T)} {r : Value × List T} (h : RowsO w base v R) (hr : OwnG w base 35 6 t6 r.1 r.2)
    (h' : OwnG w' base 37 1 rr v' (R ++ [r])) (hg : w.grownBy w' v.ownBlock) : RowsO w' base v' (R ++ [r]) := by
  refine ⟨h', fun q hq => ?_⟩
  have hq' : OwnG w base 35 6 t6 q.1 q.2 := by
    rcases List.mem_append.1 hq with hq | hq
    · exact h.2 q hq
    · obtain rfl := List.mem_singleton.1 hq
      exact hr
  exact hq'.grown hg (hq'.ne h.1 (by decide))
theorem RowsO.read {w : World} {base : Nat} {v : Value} {R : List (Value × List T)} (h : RowsO w base v R) : ReadTT w v (R.map (·.2)) :=
  ⟨R, rfl, OwnG.read (f := rr) rr_len h.1, fun r hr => OwnG.read t6_len' (h.2 r hr)⟩
def crossR (LL KK : List (List T)) : List (List T) := LL.flatMap fun L => KK.map fun K => L ++ K
theorem cross_len (LL KK : List (List T)) : (crossR LL KK).length = LL.length * KK.length := by
  unfold crossR
  induction LL with
  | nil => simp
  | cons L r ih => rw [List.flatMap_cons, List.length_append, ih, List.length_map, List.length_cons, Nat.succ_mul]; omega
theorem cross_step (LL KK : List (List T)) (k : Nat) (h : k < LL.length) : crossR (LL.take (k + 1)) KK = crossR (LL.take k) KK ++ KK.map fun K => LL[k] ++ K := by
  unfold crossR
  rw [List.take_succ_eq_append_getElem h, List.flatMap_append]
  simp
theorem OwnG.slice2' {α : Type} {w : World} {base e k : Nat} {f : α → List Value} {v : Value} {ls ys : List α} (h : OwnG w base e k f v (ls ++ ys)) : ∃ A c, v = .slice A (ls.length + ys.length) c := by
  obtain ⟨A, c, hv⟩ := h.slice
  exact ⟨A, c, by rw [hv, List.length_append]⟩
def CrossPost (w : World) (LL KK : List (List T)) (e : Ending) (w' : World) : Prop :=
  ∃ v' R, e = .returned v' ∧ R.map (·.2) = crossR LL KK ∧ RowsO w' w.heap.size v' R ∧ Below w.heap.size w w'
set_option maxHeartbeats 8000000 in
theorem cross_any (v1 v2 : Value) (LL KK : List (List T)) (w : World) (hr1 : ReadTT w v1 LL) (hr2 : ReadTT w v2 KK) (hl1 : LL.length ≤ 1000) (hl2 : KK.length ≤ 1000) (hz1 : ∀ L ∈ LL, L ≠ [] ∧ L.length ≤ 1000) (hz2 : ∀ L ∈ KK, L ≠ [] ∧ L.length ≤ 1000) :
    Calls Tryd.prog 15 #[v1, v2] w (CrossPost w LL KK) := by
  obtain ⟨A1, cap1, rfl, hcell1⟩ := hr1.at_
  obtain ⟨A2, cap2, rfl, hcell2⟩ := hr2.at_
  have HC1 := Lib.hid hcell1
  have HC2 := Lib.hid hcell2
  have HZ1 := Lib.hid hz1
  have HZ2 := Lib.hid hz2
  clear hcell1 hcell2 hr1 hr2 hz1 hz2
  go_enter Tryd.func15, Tryd.ntmps15
  go_wp2
  go_loopw [5, 12] (fun v5 i wr => ∃ (k : Nat) (R : List (Value × List T)), k ≤ LL.length ∧ i = .int .i64 k ∧ Hid (R.map (·.2) = crossR (LL.take k) KK) ∧ Hid (RowsO wr w.heap.size v5 R) ∧ Hid (Below w.heap.size w wr)) (fun _ i _ => LL.length - (intOf i).toNat)
  case atStart => exact ⟨0, [], Nat.zero_le _, rfl, Lib.hid rfl, Lib.hid ⟨OwnG.nil _ _ _ _ _, fun r hr => by cases hr⟩, Lib.hid (Below.refl _ _)⟩
  case round =>
    obtain ⟨k, R, hk, rfl, HM, HR, HB⟩ := hrel
    by_cases hlt : k < LL.length
    · obtain ⟨b, o, rv, rfl, hbl, hc, hrd⟩ := HC1.out k hlt
      have q0 : wr.cell? ⟨b, o + k, none⟩ = some rv := by rw [HB.out.cell (p := ⟨b, o + k, none⟩) hbl]; exact hc
      have hzk := HZ1.out LL[k] (List.getElem_mem hlt)
      have HRL := Lib.hid hrd
      have HST := Lib.hid (cross_step LL KK k hlt)
      obtain ⟨Av, capv, hrv, _⟩ := hrd
      subst hrv
      generalize LL[k] = L at *
      have HLZ := Lib.hid hzk
      clear hc hbl hzk
      obtain ⟨wo, rfl⟩ : ∃ wo : World, wo = wr := ⟨_, rfl⟩
      go_wp2
      go_loopw [5, 18] (fun v5 j wi => ∃ (m : Nat) (Q : List (Value × List T)), m ≤ KK.length ∧ j = .int .i64 m ∧ Hid (Q.map (·.2) = R.map (·.2) ++ (KK.take m).map fun K => L ++ K) ∧ Hid (RowsO wi w.heap.size v5 Q) ∧ Hid (Below w.heap.size w wi)) (fun _ j _ => KK.length - (intOf j).toNat)
      case atStart => exact ⟨0, R, Nat.zero_le _, rfl, Lib.hid (by simp), HR, HB⟩
      case round =>
        obtain ⟨m, Q, hm, rfl, HMQ, HQ, HBW⟩ := hrel
        by_cases hltm : m < KK.length
        · obtain ⟨b2, o2, rv2, rfl, hbl2, hc2, hrd2⟩ := HC2.out m hltm
          have q0 : wr.cell? ⟨b2, o2 + m, none⟩ = some rv2 := by rw [HBW.out.cell (p := ⟨b2, o2 + m, none⟩) hbl2]; exact hc2
          have hzm := HZ2.out KK[m] (List.getElem_mem hltm)
          have hrk := hrd2.below HBW.out
          have hrl := HRL.out.below HBW.out
          have HTM := Lib.hid (show KK.take (m + 1) = KK.take m ++ [KK[m]] from List.take_succ_eq_append_getElem hltm)
          have hql : Q.length ≤ 1000000 := by
            have h1 := congrArg List.length HMQ.out
            have h2 := congrArg List.length HM.out
            simp only [List.length_map, List.length_append, List.length_take, cross_len] at h1 h2
            have h3 : min k LL.length * KK.length ≤ 999 * 1000 := Nat.mul_le_mul (by omega) hl2
            omega
          have HQL := Lib.hid hql
          obtain ⟨Aw, capw, hrv2, _⟩ := hrd2
          subst hrv2
          generalize KK[m] = K at *
          obtain ⟨_, g1, o1, rfl, hgb1, hcc1⟩ := hrl.cellsAt HLZ.out.1
          obtain ⟨_, g2, o3, rfl, hgb2, hcc2⟩ := hrk.cellsAt hzm.1
          have hll := HLZ.out.2
          have hkl := hzm.2
          have HCC1 : Hid (∀ i (_ : i < L.length) j u, (t6 L[i])[j]? = some u → (wr.alloc (.cells #[] 35)).cell? ((⟨g1, o1, none⟩ : Addr).add (i * 6 + j)) = some u) := Lib.hid fun i hi j u hu => by
            rw [add_at]
            exact (World.cell?_alloc_lt _ _ ⟨g1, o1 + (i * 6 + j), none⟩ hgb1).trans (by have := hcc1 i hi j u hu; rw [add_at] at this; exact this)
          have HCC2 := Lib.hid hcc2
          have HGB2 := Lib.hid hgb2
          have HOWN0 : Hid (OwnG (wr.alloc (.cells #[] 35)) wr.heap.size 35 6 t6 (.slice (some ⟨wr.heap.size, 0, none⟩) 0 0) []) := Lib.hid ⟨rfl, .inr ⟨_, 0, #[], rfl, Nat.le_refl _, alloc_at _ _ _ rfl, Nat.le_refl _, Nat.zero_le _, rfl, rfl⟩⟩
          clear hc2 hbl2 hzm hrk hrl hgb1 hcc1 hgb2 hcc2 hql
          go_wp2_with (first
            | (at_builtin; refine append_rows rfl (.tmp 23) (.tmp 24) 37 35 _ 6 56 rfl Tryd.underlying37 infoTm rfl (by decide) wr.heap.size t6 _ [] rfl HOWN0.out ⟨g1, o1, none⟩ _ L rfl t6_len' t6_one' HCC1.out ?e1 ?e2 ?e3 ?_; rotate_left 3; intro v4 w4 hown4 hg4; have hb4 : Below wr.heap.size wr w4 := (below_alloc wr (.cells #[] 35)).trans (OwnG.below HOWN0.out (by simp) hg4); have HB4 := Lib.hid hb4; have HO4 := Lib.hid hown4; have HCC4 : Hid (∀ i (_ : i < K.length) j u, (t6 K[i])[j]? = some u → w4.cell? ((⟨g2, o3, none⟩ : Addr).add (i * 6 + j)) = some u) := Lib.hid (fun i hi j u hu => (hb4.cell (p := (⟨g2, o3, none⟩ : Addr).add (i * 6 + j)) (by rw [add_at]; exact HGB2.out)).trans (HCC2.out i hi j u hu)); have HSZ4 := Lib.hid hb4.size; clear hb4 hown4 hg4)
            | (at_builtin; refine append_rows rfl (.tmp 25) (.tmp 26) 37 35 _ 6 56 rfl Tryd.underlying37 infoTm rfl (by decide) wr.heap.size t6 _ ([] ++ L) rfl HO4.out ⟨g2, o3, none⟩ _ K rfl t6_len' t6_one' HCC4.out ?f1 ?f2 ?f3 ?_; rotate_left 3; intro v6 w6 hown6 hg6; have HB6 := Lib.hid (HB4.out.trans (OwnG.below HO4.out HSZ4.out hg6)); have HO6 : Hid (OwnG w6 w.heap.size 35 6 t6 v6 (L ++ K)) := Lib.hid (OwnG.lower hown6 HBW.out.size); obtain ⟨A9, c9, rfl⟩ := OwnG.slice2' (ls := L) (ys := K) hown6; clear hown6 hg6)
            | (at_builtin; refine append_gen rfl _ _ 28 37 _ 1 24 rfl Tryd.underlying28 infoTs rfl (by decide) w.heap.size rr _ Q rfl ((HQ.out.1.kept HB6.out).kept (below_alloc _ _)) w6.heap.size 1 (.slice A9 (L.length + K.length) c9, L ++ K) rfl rfl ?c1 ?c2 ?c3 ?c4 ?c5 ?_; rotate_left 5; intro v7 w7 hown7 hg7; have HO7 := Lib.hid hown7; have HG7 := Lib.hid hg7; clear hown7 hg7))
          case c1 => exact rr_one _ _ _ _ rfl
          case c2 => intro j u hu; exact hu
          case c3 => have := HQL.out; omega
          case c4 => have := HQL.out; omega
          case c5 => have h1 := HB6.out.size; have h2 := HBW.out.size; omega
          case f1 => omega
          case f2 => omega
          case f3 => exact HSZ4.out
          case e1 => omega
          case e2 => omega
          have HS7 : Hid (w.heap.size ≤ (w6.alloc (.cells #[.slice A9 (L.length + K.length) c9] 37)).heap.size) := Lib.hid (by have h1 := HB6.out.size; have h2 := HBW.out.size; simp; omega)
          have HQ7 := Lib.hid ((HQ.out.below HB6.out).below (below_alloc w6 (.cells #[.slice A9 (L.length + K.length) c9] 37)))
          have HB7 : Hid (Below w.heap.size w w7) := Lib.hid (((Below.up HBW.out HB6.out).trans ((below_alloc w6 (.cells #[.slice A9 (L.length + K.length) c9] 37)).mono (by have h1 := HB6.out.size; have h2 := HBW.out.size; omega))).trans (OwnG.below HQ7.out.1 HS7.out HG7.out))
          go_roundw
          case rel => exact ⟨m + 1, Q ++ [(.slice A9 (L.length + K.length) c9, L ++ K)], hltm, by go_num, Lib.hid (by rw [List.map_append, HMQ.out, HTM.out, List.map_append, List.append_assoc]; rfl), Lib.hid (RowsO.snoc HQ7.out (HO6.out.kept (below_alloc _ _)) HO7.out HG7.out), HB7⟩
          case measure => simp [intOf]; omega
        · have hme : m = KK.length := by omega
          go_wp2
          go_roundw
          case rel => exact ⟨k + 1, Q, hlt, by go_num, Lib.hid (by rw [HMQ.out, HM.out, HST.out, hme, List.take_length]), HQ, HBW⟩
          case measure => simp [intOf]; omega
    · have hke : k = LL.length := by omega
      go_wp2
      go_ret
      exact ⟨_, R, rfl, by rw [HM.out, hke, List.take_length], HR.out, HB.out⟩
end Go.Proofs.YtnkdpgcfaelpkaaDoor
