/-
  impl.TermHolds.
-/
import Derived.Test.YtnkdpgcfaelpkaaDoorChk
namespace Go.Proofs.YtnkdpgcfaelpkaaDoor
open Go.RowKit
set_option maxRecDepth 100000
set_option linter.unusedVariables false

set_option maxHeartbeats 2000000 in
theorem termHolds_any (t : T) (x : V) (pre r : Bool) (w : World) (ho : 0 ≤ t.op ∧ t.op < 8) (hs : Hid (∀ N M', Says x t.ver ⟨#[]⟩ (opText t.op.toNat) N M' t.dirty t.minor t.patch pre r)) (hg : t.g = 0 ∨ t.g = 1 ∨ t.g = 2 ∨ t.g = 3) (gx : x.pGood) (gy : t.ver.pGood) (hn : NumErrs w) (zx : x.p.size ≤ 2147483647) (zy : t.ver.p.size ≤ 2147483647) :
    Calls Tryd.prog 25 #[.agg #[.int .i64 t.op, .int .i64 t.g, .int .u64 t.a, .int .u64 t.b, .int .u64 t.c, .string t.p], .agg #[.int .u64 x.a, .int .u64 x.b, .int .u64 x.c, .string x.p, .string x.m], .bool pre] w fun e w' => e = .returned (.bool r) ∧ Below w.heap.size w w' := by
  have HN := Lib.hid hn
  have GX := Lib.hid gx
  have GY := Lib.hid gy
  have HGG := Lib.hid hg
  clear hn gx gy hg
  have HOP := Lib.hid ho
  clear ho
  go_enter Tryd.func25, Tryd.ntmps25
  go_wp2_with fail
  have hX : ((w.alloc (.cells #[.int .i64 t.op, .int .i64 t.g, .int .u64 t.a, .int .u64 t.b, .int .u64 t.c, .string t.p] 35)).alloc (.cells #[.int .u64 x.a, .int .u64 x.b, .int .u64 x.c, .string x.p, .string x.m] 24)).heap[w.heap.size]? = some (.cells #[.int .i64 t.op, .int .i64 t.g, .int .u64 t.a, .int .u64 t.b, .int .u64 t.c, .string t.p] 35 (0, 0)) := heap_alloc_some (alloc_at _ _ _ rfl)
  have hY : AtP ((w.alloc (.cells #[.int .i64 t.op, .int .i64 t.g, .int .u64 t.a, .int .u64 t.b, .int .u64 t.c, .string t.p] 35)).alloc (.cells #[.int .u64 x.a, .int .u64 x.b, .int .u64 x.c, .string x.p, .string x.m] 24)) (w.heap.size + 1) x := alloc_at _ _ _ (by simp)
  have hW : Below w.heap.size w ((w.alloc (.cells #[.int .i64 t.op, .int .i64 t.g, .int .u64 t.a, .int .u64 t.b, .int .u64 t.c, .string t.p] 35)).alloc (.cells #[.int .u64 x.a, .int .u64 x.b, .int .u64 x.c, .string x.p, .string x.m] 24)) := by (repeat (first | exact Below.refl _ _ | apply Below.drew | (apply below_alloc_on (Nat.le_refl _))))
  generalize ((w.alloc (.cells #[.int .i64 t.op, .int .i64 t.g, .int .u64 t.a, .int .u64 t.b, .int .u64 t.c, .string t.p] 35)).alloc (.cells #[.int .u64 x.a, .int .u64 x.b, .int .u64 x.c, .string x.p, .string x.m] 24)) = W at *
  have HW := Lib.hid hW
  have c0 : W.cell? ⟨w.heap.size, 0, none⟩ = some (.int .i64 t.op) := by rw [cell_of_row W _ _ _ _ _ hX]; rfl
  have c1 : W.cell? ⟨w.heap.size, 1, none⟩ = some (.int .i64 t.g) := by rw [cell_of_row W _ _ _ _ _ hX]; rfl
  have c2 : W.cell? ⟨w.heap.size, 2, none⟩ = some (.int .u64 t.a) := by rw [cell_of_row W _ _ _ _ _ hX]; rfl
  have c3 : W.cell? ⟨w.heap.size, 3, none⟩ = some (.int .u64 t.b) := by rw [cell_of_row W _ _ _ _ _ hX]; rfl
  have c4 : W.cell? ⟨w.heap.size, 4, none⟩ = some (.int .u64 t.c) := by rw [cell_of_row W _ _ _ _ _ hX]; rfl
  have c5 : W.cell? ⟨w.heap.size, 5, none⟩ = some (.string t.p) := by rw [cell_of_row W _ _ _ _ _ hX]; rfl
  obtain ⟨d0, d1, d2, d3, d4⟩ := hY.cells
  clear hX hY hW
  go_region_held3 (fun w' => w'.cell? ⟨w.heap.size, 0, none⟩ = some (.int .i64 t.op) ∧ w'.cell? ⟨w.heap.size, 1, none⟩ = some (.int .i64 t.g) ∧ w'.cell? ⟨w.heap.size, 2, none⟩ = some (.int .u64 t.a) ∧ w'.cell? ⟨w.heap.size, 3, none⟩ = some (.int .u64 t.b) ∧ w'.cell? ⟨w.heap.size, 4, none⟩ = some (.int .u64 t.c) ∧ w'.cell? ⟨w.heap.size, 5, none⟩ = some (.string t.p) ∧ w'.cell? ⟨w.heap.size + 1, 0, none⟩ = some (.int .u64 x.a) ∧ w'.cell? ⟨w.heap.size + 1, 1, none⟩ = some (.int .u64 x.b) ∧ w'.cell? ⟨w.heap.size + 1, 2, none⟩ = some (.int .u64 x.c) ∧ w'.cell? ⟨w.heap.size + 1, 3, none⟩ = some (.string x.p) ∧ w'.cell? ⟨w.heap.size + 1, 4, none⟩ = some (.string x.m)) (first | (refine ⟨?_, ?_, ?_, ?_, ?_, ?_, ?_, ?_, ?_, ?_, ?_⟩ <;> (repeat (first | with_reducible assumption | with_reducible apply cell_alloc_some | with_reducible apply cell_drew_some | with_reducible refine cell_below (by with_reducible assumption) ?_ | with_reducible refine cell_set_other (by omega) ?_))) | fail) (first
    | (go_at_call 45; (with_reducible refine (termS_any t _ HGG.out HOP.out).mono ?_); rintro e w1 ⟨⟨M', rfl, hat⟩, hb1⟩; have HT1 := Lib.hid hat; have HB1 := Lib.hid (Below.up (w := W) (by (repeat (first | exact Below.refl _ _ | apply Below.drew | (apply below_alloc_on (Nat.le_refl _))))) hb1); clear hat)
    | (go_at_call 20; (with_reducible refine (version_below x _).mono ?_); rintro e w2 ⟨N, rfl, hN, hat, hb2⟩; have HX2 := Lib.hid (show AtV w2 N x ⟨#[]⟩ from hat); have HT2 := Lib.hid (AtV.below (w := _) (N := M') (x := t.ver) (o := ⟨#[]⟩) (by exact HT1.out) hb2); have HB2 := Lib.hid (Below.up HB1.out (Below.up (w := w1) (by (repeat (first | exact Below.refl _ _ | apply Below.drew | (apply below_alloc_on (Nat.le_refl _))))) hb2)); clear hN hat)
    | (go_at_call 44; (with_reducible refine (zzCheck_any x t.ver ⟨#[]⟩ (opText t.op.toNat) N M' t.dirty t.minor t.patch pre r _ (by exact HX2.out) (by exact HT2.out) (HN.out.below (Below.up HW.out (Below.up HB2.out (by (repeat (first | exact Below.refl _ _ | apply Below.drew | (apply below_alloc_on (Nat.le_refl _)))))))) (Lib.hid (hs.out N M'))).mono ?_); rintro e w3 ⟨⟨ev, rfl⟩, hb3⟩; have HB3 := Lib.hid (Below.up HB2.out (Below.up (w := w2) (by (repeat (first | exact Below.refl _ _ | apply Below.drew | (apply below_alloc_on (Nat.le_refl _))))) hb3)))
    | fail)
  go_wp2
  go_ret
  exact ⟨rfl, Below.up HW.out HB3.out⟩
end Go.Proofs.YtnkdpgcfaelpkaaDoor
