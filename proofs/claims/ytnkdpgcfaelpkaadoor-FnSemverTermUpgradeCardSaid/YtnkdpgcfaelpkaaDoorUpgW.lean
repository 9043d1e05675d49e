/-
  laws.stHolds; what the checks of a tilde and of a caret say, for every term.
-/
import Derived.Test.YtnkdpgcfaelpkaaDoorTermH
import Derived.Test.YtnkdpgcfaelpkaaDoorChk7
import Derived.Test.YtnkdpgcfaelpkaaDoorBaseC
import Derived.Test.YtnkdpgcfaelpkaaDoorUpgPl
namespace Go.Proofs.YtnkdpgcfaelpkaaDoor
open Go.RowKit
set_option maxRecDepth 100000
set_option linter.unusedVariables false

theorem says_6 (t : T) (x : V) (ho : t.op = 6) (N M' : Nat) (pre r : Bool) (GX : Hid x.pGood) (GY : Hid t.ver.pGood) (zx : x.p.size ≤ 2147483647) (zy : t.p.size ≤ 2147483647) (hr : Hid ((x.inl pre && t.tilde x) = r)) :
    Says x t.ver ⟨#[]⟩ (opText t.op.toNat) N M' t.dirty t.minor t.patch pre r := by
  intro K w I
  rw [ho] at I
  exact check_6 x t.ver ⟨#[]⟩ ⟨#[]⟩ N K M' _ _ _ pre w I GX GY zx zy r hr
theorem says_7 (t : T) (x : V) (ho : t.op = 7) (N M' : Nat) (pre r : Bool) (GX : Hid x.pGood) (GY : Hid t.ver.pGood) (zx : x.p.size ≤ 2147483647) (zy : t.p.size ≤ 2147483647) (hr : Hid ((x.inl pre && t.caret x) = r)) :
    Says x t.ver ⟨#[]⟩ (opText t.op.toNat) N M' t.dirty t.minor t.patch pre r := by
  intro K w I
  rw [ho] at I
  exact check_7 x t.ver ⟨#[]⟩ ⟨#[]⟩ N K M' _ _ _ pre w I GX GY zx zy r hr

theorem termHolds_at (op g : Int) (a b c : Nat) (p : ByteArray) (x : V) (pre r : Bool) (w : World) (ho : 0 ≤ op ∧ op < 8) (hs : Hid (∀ N M', Says x (T.ver ⟨op, g, a, b, c, p⟩) ⟨#[]⟩ (opText op.toNat) N M' (T.dirty ⟨op, g, a, b, c, p⟩) (T.minor ⟨op, g, a, b, c, p⟩) (T.patch ⟨op, g, a, b, c, p⟩) pre r)) (hg : g = 0 ∨ g = 1 ∨ g = 2 ∨ g = 3) (gx : x.pGood) (gy : (T.ver ⟨op, g, a, b, c, p⟩).pGood) (hn : NumErrs w) (zx : x.p.size ≤ 2147483647) (zy : p.size ≤ 2147483647) :
    Calls Tryd.prog 25 #[.agg #[.int .i64 op, .int .i64 g, .int .u64 a, .int .u64 b, .int .u64 c, .string p], .agg #[.int .u64 x.a, .int .u64 x.b, .int .u64 x.c, .string x.p, .string x.m], .bool pre] w fun e w' => e = .returned (.bool r) ∧ Below w.heap.size w w' :=
  termHolds_any ⟨op, g, a, b, c, p⟩ x pre r w ho hs hg gx gy hn zx zy
set_option maxHeartbeats 2000000 in
theorem stHolds_any (op : Int) (x y : V) (r : Bool) (w : World) (ho : 0 ≤ op ∧ op < 8) (hs : Hid (∀ N M', Says y (T.ver ⟨op, 3, x.a, x.b, x.c, x.p⟩) ⟨#[]⟩ (opText op.toNat) N M' (T.dirty ⟨op, 3, x.a, x.b, x.c, x.p⟩) (T.minor ⟨op, 3, x.a, x.b, x.c, x.p⟩) (T.patch ⟨op, 3, x.a, x.b, x.c, x.p⟩) true r)) (gx : y.pGood) (gy : x.pGood) (hn : NumErrs w) (zx : y.p.size ≤ 2147483647) (zy : x.p.size ≤ 2147483647) :
    Calls Tryd.prog 11 #[.int .i64 op, .agg #[.int .u64 x.a, .int .u64 x.b, .int .u64 x.c, .string x.p, .string x.m], .int .i64 3, .agg #[.int .u64 y.a, .int .u64 y.b, .int .u64 y.c, .string y.p, .string y.m]] w fun e w' => e = .returned (.bool r) ∧ Below w.heap.size w w' := by
  have HN := Lib.hid hn
  have GX := Lib.hid gx
  have GY : Hid ((T.ver ⟨op, 3, x.a, x.b, x.c, x.p⟩).pGood) := Lib.hid gy
  have HO := Lib.hid ho
  clear hn gx gy ho
  go_enter Tryd.func11, Tryd.ntmps11
  go_wp2_with fail
  have hX : AtP ((w.alloc (.cells #[.int .u64 x.a, .int .u64 x.b, .int .u64 x.c, .string x.p, .string x.m] 24)).alloc (.cells #[.int .u64 y.a, .int .u64 y.b, .int .u64 y.c, .string y.p, .string y.m] 24)) w.heap.size x := heap_alloc_some (alloc_at _ _ _ rfl)
  have hY : AtP ((w.alloc (.cells #[.int .u64 x.a, .int .u64 x.b, .int .u64 x.c, .string x.p, .string x.m] 24)).alloc (.cells #[.int .u64 y.a, .int .u64 y.b, .int .u64 y.c, .string y.p, .string y.m] 24)) (w.heap.size + 1) y := alloc_at _ _ _ (by simp)
  have hW : Below w.heap.size w ((w.alloc (.cells #[.int .u64 x.a, .int .u64 x.b, .int .u64 x.c, .string x.p, .string x.m] 24)).alloc (.cells #[.int .u64 y.a, .int .u64 y.b, .int .u64 y.c, .string y.p, .string y.m] 24)) := by (repeat (first | exact Below.refl _ _ | apply Below.drew | (apply below_alloc_on (Nat.le_refl _))))
  generalize ((w.alloc (.cells #[.int .u64 x.a, .int .u64 x.b, .int .u64 x.c, .string x.p, .string x.m] 24)).alloc (.cells #[.int .u64 y.a, .int .u64 y.b, .int .u64 y.c, .string y.p, .string y.m] 24)) = W at *
  have HW := Lib.hid hW
  obtain ⟨c0, c1, c2, c3, c4⟩ := hX.cells
  obtain ⟨d0, d1, d2, d3, d4⟩ := hY.cells
  clear hX hY hW
  go_region_held3 (fun w' => w'.cell? ⟨w.heap.size, 0, none⟩ = some (.int .u64 x.a) ∧ w'.cell? ⟨w.heap.size, 1, none⟩ = some (.int .u64 x.b) ∧ w'.cell? ⟨w.heap.size, 2, none⟩ = some (.int .u64 x.c) ∧ w'.cell? ⟨w.heap.size, 3, none⟩ = some (.string x.p) ∧ w'.cell? ⟨w.heap.size, 4, none⟩ = some (.string x.m) ∧ w'.cell? ⟨w.heap.size + 1, 0, none⟩ = some (.int .u64 y.a) ∧ w'.cell? ⟨w.heap.size + 1, 1, none⟩ = some (.int .u64 y.b) ∧ w'.cell? ⟨w.heap.size + 1, 2, none⟩ = some (.int .u64 y.c) ∧ w'.cell? ⟨w.heap.size + 1, 3, none⟩ = some (.string y.p) ∧ w'.cell? ⟨w.heap.size + 1, 4, none⟩ = some (.string y.m)) (first | (refine ⟨?_, ?_, ?_, ?_, ?_, ?_, ?_, ?_, ?_, ?_⟩ <;> (repeat (first | with_reducible assumption | with_reducible apply cell_alloc_some | with_reducible apply cell_drew_some | with_reducible refine cell_below (by with_reducible assumption) ?_ | with_reducible refine cell_set_other (by omega) ?_))) | fail) (first
    | (go_at_call 17; (with_reducible refine (stTerm_3 op x _).mono ?_); rintro e w1 ⟨rfl, hb1⟩; simp only [T.val]; have HB1 := Lib.hid (Below.up (w := W) (by (repeat (first | exact Below.refl _ _ | apply Below.drew | (apply below_alloc_on (Nat.le_refl _))))) hb1))
    | (go_at_call 25; (with_reducible refine (termHolds_at op 3 x.a x.b x.c x.p y true r _ HO.out hs (.inr (.inr (.inr rfl))) GX.out GY.out (HN.out.below (Below.up HW.out (Below.up HB1.out (by (repeat (first | exact Below.refl _ _ | apply Below.drew | (apply below_alloc_on (Nat.le_refl _)))))))) zx zy).mono ?_); rintro e w2 ⟨rfl, hb2⟩; have HB2 := Lib.hid (Below.up HB1.out (Below.up (w := w1) (by (repeat (first | exact Below.refl _ _ | apply Below.drew | (apply below_alloc_on (Nat.le_refl _))))) hb2)))
    | fail)
  go_wp2
  go_ret
  exact ⟨rfl, Below.up HW.out HB2.out⟩
end Go.Proofs.YtnkdpgcfaelpkaaDoor
