/-
  impl.TermsHold over lists of good terms.
-/
import Derived.Test.YtnkdpgcfaelpkaaDoorChkAll
namespace Go.Proofs.YtnkdpgcfaelpkaaDoor
open Go.RowKit
set_option maxRecDepth 100000
set_option linter.unusedVariables false

theorem ReadTT.below {w w' : World} {v : Value} {LL : List (List T)} (h : ReadTT w v LL) (b : Below w.heap.size w w') : ReadTT w' v LL := by
  obtain ⟨R, h1, h2, h3⟩ := h
  exact ⟨R, h1, h2.kept b, fun r hr => ReadG.kept (h3 r hr) b⟩
theorem version_k (x : V) (w : World) : Calls Tryd.prog 20 #[.agg #[.int .u64 x.a, .int .u64 x.b, .int .u64 x.c, .string x.p, .string x.m]] w fun e w' => (∃ N, e = .returned (.pointer (some ⟨N, 0, none⟩)) ∧ AtV w' N x ⟨#[]⟩) ∧ Below w.heap.size w w' :=
  (version_below x w).mono fun e w' h => by
    obtain ⟨N, h1, _, h2, h3⟩ := h
    exact ⟨⟨N, h1, h2⟩, h3⟩
theorem T.Good.isOk {t : T} (h : t.Good) : t.ok := ⟨h.2.1, h.1⟩
def LGood (LL : List (List T)) : Prop := LL.length ≤ 1000 ∧ ∀ L ∈ LL, L.length ≤ 1000 ∧ ∀ t ∈ L, t.Good ∧ t.p.size ≤ 2147483647
theorem LGood.rows {LL : List (List T)} (h : LGood LL) : ∀ L ∈ LL, L.length ≤ 1000 ∧ ∀ t ∈ L, t.ok := fun L hL => ⟨(h.2 L hL).1, fun t ht => ((h.2 L hL).2 t ht).1.isOk⟩
theorem LGood.of_zz {LL : List (List T)} {R : List (Value × List (T × Nat))} (h : LGood LL) (e : R.map (fun r => r.2.map (·.1)) = LL) : R.length ≤ 1000 ∧ ∀ r ∈ R, r.2.length ≤ 1000 := by
  subst e
  refine ⟨by simpa using h.1, fun r hr => ?_⟩
  have := (h.2 _ (List.mem_map.2 ⟨r, hr, rfl⟩)).1
  simpa using this
theorem LGood.of_cc {LL : List (List T)} {R : List (Value × List TMK)} (h : LGood LL) (e : R.map (fun r => r.2.map (·.1)) = LL) : R.length ≤ 1000 ∧ (∀ r ∈ R, r.2.length ≤ 1000) ∧ ∀ r ∈ R, ∀ q ∈ r.2, q.1.Good ∧ q.1.p.size ≤ 2147483647 := by
  subst e
  refine ⟨by simpa using h.1, fun r hr => ?_, fun r hr q hq => ?_⟩
  · have := (h.2 _ (List.mem_map.2 ⟨r, hr, rfl⟩)).1
    simpa using this
  · exact (h.2 _ (List.mem_map.2 ⟨r, hr, rfl⟩)).2 q.1 (List.mem_map.2 ⟨q, hq, rfl⟩)
set_option maxHeartbeats 8000000 in
theorem termsHold_any (v : Value) (LL : List (List T)) (x : V) (pre res : Bool) (w : World) (hr : ReadTT w v LL) (hg : LGood LL) (gx : x.pGood) (zx : x.p.size ≤ 2147483647) (hn : NumErrs w) (hres : Hid (termsHold x pre LL = res)) :
    Calls Tryd.prog 18 #[v, .agg #[.int .u64 x.a, .int .u64 x.b, .int .u64 x.c, .string x.p, .string x.m], .bool pre] w fun e w' => e = .returned (.bool res) ∧ Below w.heap.size w w' := by
  have HRD := Lib.hid hr
  have HG := Lib.hid hg
  have HGL := Lib.hid hg.1
  have HGR := Lib.hid hg.rows
  have GX := Lib.hid gx
  have HN := Lib.hid hn
  clear hr hg gx hn
  go_enter Tryd.func18, Tryd.ntmps18
  go_wp2_with fail
  have hX : AtP (w.alloc (.cells #[.int .u64 x.a, .int .u64 x.b, .int .u64 x.c, .string x.p, .string x.m] 24)) w.heap.size x := alloc_at _ _ _ rfl
  have hB : Below w.heap.size w (w.alloc (.cells #[.int .u64 x.a, .int .u64 x.b, .int .u64 x.c, .string x.p, .string x.m] 24)) := below_alloc _ _
  generalize (w.alloc (.cells #[.int .u64 x.a, .int .u64 x.b, .int .u64 x.c, .string x.p, .string x.m] 24)) = W at *
  have HB := Lib.hid hB
  have HRW := Lib.hid (HRD.out.below hB)
  have HNW := Lib.hid (HN.out.below hB)
  have HBT : Hid (Below W.heap.size W W) := Lib.hid (Below.refl _ _)
  obtain ⟨c0, c1, c2, c3, c4⟩ := hX.cells
  clear hX hB
  go_region_held3 (fun w' => w'.cell? ⟨w.heap.size, 0, none⟩ = some (.int .u64 x.a) ∧ w'.cell? ⟨w.heap.size, 1, none⟩ = some (.int .u64 x.b) ∧ w'.cell? ⟨w.heap.size, 2, none⟩ = some (.int .u64 x.c) ∧ w'.cell? ⟨w.heap.size, 3, none⟩ = some (.string x.p) ∧ w'.cell? ⟨w.heap.size, 4, none⟩ = some (.string x.m)) (first | (refine ⟨?_, ?_, ?_, ?_, ?_⟩ <;> (repeat (first | with_reducible assumption | with_reducible apply cell_alloc_some | with_reducible apply cell_drew_some | with_reducible refine cell_below (by with_reducible assumption) ?_ | with_reducible refine cell_set_other (by omega) ?_))) | fail) (first
    | (go_at_call 31; (with_reducible refine (terms_any v LL _ (HRW.out.below (Below.up HBT.out (by (repeat (first | exact Below.refl _ _ | apply Below.drew | (apply below_alloc_on (Nat.le_refl _))))))) HGL.out HGR.out).mono ?_); intro e wT hT; obtain ⟨vz, RZ, rfl, hmz, hrz, hb⟩ := hT; replace HBT := Lib.hid (Below.up HBT.out (Below.up (by (repeat (first | exact Below.refl _ _ | apply Below.drew | (apply below_alloc_on (Nat.le_refl _))))) hb)); (try replace HVN := Lib.hid (HVN.out.below hb)); have HRZ := Lib.hid hrz; have HMZ := Lib.hid hmz; clear hrz hmz)
    | (go_at_call 30; (with_reducible refine (zzConstraints_any vz _ RZ pre _ HRZ.out (HG.out.of_zz HMZ.out).1 (HG.out.of_zz HMZ.out).2).mono ?_); intro e wC hT; obtain ⟨v1, v2, RC, rfl, hmc, hrc, hpc, hb⟩ := hT; replace HBT := Lib.hid (Below.up HBT.out (Below.up (by (repeat (first | exact Below.refl _ _ | apply Below.drew | (apply below_alloc_on (Nat.le_refl _))))) hb)); (try replace HVN := Lib.hid (HVN.out.below hb)); have HRC := Lib.hid hrc; have HPC := Lib.hid hpc; have HMC := Lib.hid hmc; clear hrc hpc hmc)
    | (go_at_call 20; (with_reducible refine (version_k x _).mono ?_); rintro e wV ⟨⟨NV, rfl, hv⟩, hb⟩; replace HBT := Lib.hid (Below.up HBT.out (Below.up (by (repeat (first | exact Below.refl _ _ | apply Below.drew | (apply below_alloc_on (Nat.le_refl _))))) hb)); (try replace HRZ := Lib.hid (HRZ.out.below hb)); (try replace HRC := Lib.hid (HRC.out.below hb)); (try replace HPC := Lib.hid (OwnG.kept HPC.out hb)); have HVN := Lib.hid hv; clear hv)
    | (go_at_call 32; have hmm := HMC.out.trans HMZ.out; have HRES2 : Hid (termsHold x pre (RC.map fun r => r.2.map (·.1)) = res) := Lib.hid (by rw [hmm]; exact hres.out); have HP2 : Hid (Pres _ _ v2 ((RC.map fun r => r.2.map (·.1)).map preOf)) := Lib.hid (by rw [HMC.out]; exact HPC.out); have HCC := Lib.hid (HG.out.of_cc hmm); clear hmm; (with_reducible refine (checkAll_any v1 v2 RC pre x NV _ _ HRC.out HP2.out HVN.out (HNW.out.below HBT.out) HCC.out.2.2 GX.out zx HCC.out.1 HCC.out.2.1 res HRES2).mono ?_); rintro e wK ⟨rfl, hb⟩; replace HBT := Lib.hid (Below.up HBT.out (Below.up (by (repeat (first | exact Below.refl _ _ | apply Below.drew | (apply below_alloc_on (Nat.le_refl _))))) hb)))
    | fail)
  all_goals
    go_wp2
    go_ret
    exact ⟨rfl, Below.up HB.out HBT.out⟩
end Go.Proofs.YtnkdpgcfaelpkaaDoor
