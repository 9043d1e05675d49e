/-
  A version's printed form: (Version).String; SetMetadata.
-/
import Derived.Test.YtopaileliohpdaaDoorSvGood
namespace Go.Proofs.YtopaileliohpdaaDoor
open Go.RowKit
set_option maxRecDepth 100000

def dec (n : Nat) : ByteArray := ⟨(Lib.decDigits n).toArray⟩
/-- the three numbers as text -/
def V.nums (x : V) : ByteArray := dec x.a ++ ⟨#[46]⟩ ++ dec x.b ++ ⟨#[46]⟩ ++ dec x.c
def V.text (x : V) : ByteArray :=
  let t := if x.p.toList.isEmpty then x.nums else x.nums ++ (⟨#[45]⟩ ++ x.p)
  if x.m.toList.isEmpty then t else t ++ (⟨#[43]⟩ ++ x.m)

theorem rc_after (x : V) (o : ByteArray) {w w1 : World} (h : Below (w.alloc (x.cells o)).heap.size (w.alloc (x.cells o)) w1) : AtV w1 w.heap.size x o := by
  unfold AtV
  rw [h.block _ (by simp)]
  exact alloc_at _ _ _ rfl

/-- a record's numbers are uint64 -/
def V.u64 (x : V) : Prop := x.a < 18446744073709551616 ∧ x.b < 18446744073709551616 ∧ x.c < 18446744073709551616

theorem dec_size {n : Nat} (h : n < 18446744073709551616) : (dec n).size ≤ 20 := by
  show (Lib.decDigits n).toArray.size ≤ 20
  rw [List.size_toArray, Lib.decDigits_length]
  rcases Nat.eq_zero_or_pos n with rfl | hn
  · rw [Lib.nDigits]; simp
  · have := Lib.numDigits_eq n hn h
    split at this <;> omega
theorem formatUint_dec (u : Nat) (w : World) (hu : u < 18446744073709551616) (htab : Pow10 w) :
    Calls Tryd.prog 94 #[.int .u64 u, .int .i64 10] w fun e w' => e = .returned (.string (dec u)) ∧ Below w.heap.size w w' := formatUint_any u w hu htab

theorem add_ok {a b : ByteArray} (h : a.size + b.size ≤ 9223372036854775807) : ∀ w : World, (Op.stringOp .add a b).run Tryd.prog w = .ok (.string (a ++ b)) w := fun w => run_string_add_sum w a b h

theorem Pow10.drew {w : World} (h : Pow10 w) : Pow10 w.drew := h.below (Below.refl _ _).drew

set_option maxHeartbeats 2000000 in
theorem string_any (x : V) (o : ByteArray) (w : World) (hu : x.u64) (ht : Pow10 w) (hp1 : x.p.size ≤ 2147483647) (hm1 : x.m.size ≤ 2147483647) :
    Calls Tryd.prog 70 #[x.rc o] w fun e w' => e = .returned (.string x.text) ∧ Below w.heap.size w w' := by
  have HUa := Lib.hid hu.1
  have HUb := Lib.hid hu.2.1
  have HUc := Lib.hid hu.2.2
  have HT := Lib.hid (ht.below (below_alloc w (x.cells o)))
  have HC := Lib.hid (fun w1 (h : Below (w.alloc (x.cells o)).heap.size (w.alloc (x.cells o)) w1) => (rc_after x o h).cells)
  have h0 := (rc_after x o (Below.refl _ (w.alloc (x.cells o)))).cells
  have da := dec_size hu.1
  have db := dec_size hu.2.1
  have dc := dec_size hu.2.2
  clear hu ht
  have s1 : (⟨#[46]⟩ : ByteArray).size = 1 := rfl
  have s2 : (⟨#[45]⟩ : ByteArray).size = 1 := rfl
  have s3 : (⟨#[43]⟩ : ByteArray).size = 1 := rfl
  have e1 := add_ok (a := dec x.a) (b := ⟨#[46]⟩) (by omega)
  have e2 := add_ok (a := dec x.a ++ ⟨#[46]⟩) (b := dec x.b) (by rw [ByteArray.size_append]; omega)
  have e3 := add_ok (a := dec x.a ++ ⟨#[46]⟩ ++ dec x.b) (b := ⟨#[46]⟩) (by rw [ByteArray.size_append, ByteArray.size_append]; omega)
  have e4 := add_ok (a := dec x.a ++ ⟨#[46]⟩ ++ dec x.b ++ ⟨#[46]⟩) (b := dec x.c) (by rw [ByteArray.size_append, ByteArray.size_append, ByteArray.size_append]; omega)
  have hn : x.nums.size ≤ 62 := by unfold V.nums; rw [ByteArray.size_append, ByteArray.size_append, ByteArray.size_append, ByteArray.size_append]; omega
  have e5 := add_ok (a := ⟨#[45]⟩) (b := x.p) (by omega)
  have e6 := add_ok (a := x.nums) (b := ⟨#[45]⟩ ++ x.p) (by rw [ByteArray.size_append]; omega)
  have e7 := add_ok (a := ⟨#[43]⟩) (b := x.m) (by omega)
  have e8 := add_ok (a := x.nums) (b := ⟨#[43]⟩ ++ x.m) (by rw [ByteArray.size_append]; omega)
  have e9 := add_ok (a := x.nums ++ (⟨#[45]⟩ ++ x.p)) (b := ⟨#[43]⟩ ++ x.m) (by rw [ByteArray.size_append, ByteArray.size_append, ByteArray.size_append]; omega)
  clear s1 s2 s3 hn da db dc
  unfold V.nums at e6 e8 e9
  obtain ⟨c0, c1, c2, c3, c4, c5⟩ := h0
  have hv : x.rc o = .agg #[.int .u64 x.a, .int .u64 x.b, .int .u64 x.c, .string x.p, .string x.m, .string o] := rfl
  rw [hv]
  clear hv
  go_enter Tryd.func70, Tryd.ntmps70
  go_wp2_with fail
  go_region_held3 (fun w' => w'.cell? ⟨w.heap.size, 0, none⟩ = some (.int .u64 x.a) ∧ w'.cell? ⟨w.heap.size, 1, none⟩ = some (.int .u64 x.b) ∧ w'.cell? ⟨w.heap.size, 2, none⟩ = some (.int .u64 x.c) ∧
    w'.cell? ⟨w.heap.size, 3, none⟩ = some (.string x.p) ∧ w'.cell? ⟨w.heap.size, 4, none⟩ = some (.string x.m) ∧ w'.cell? ⟨w.heap.size, 5, none⟩ = some (.string o))
    (first | exact HC.out _ (Below.refl _ _).drew | exact HC.out _ (Below.refl _ _) | exact HC.out _ HB1.out | exact HC.out _ HB2.out | exact HC.out _ HB3.out | fail) (first
    | (go_at_call 94; (with_reducible refine (formatUint_dec x.a _ HUa.out ?_).mono ?_); (first | exact HT.out.drew | exact HT.out | fail); rintro e w1 ⟨rfl, hb⟩; have HB1 := Lib.hid (Below.up (w := w.alloc (x.cells o)) (Below.refl _ _).drew hb); clear hb)
    | (go_at_call 94; (with_reducible refine (formatUint_dec x.b _ HUb.out ?_).mono ?_); (first | exact HT.out.below HB1.out | exact (HT.out.below HB1.out).drew | fail); rintro e w2 ⟨rfl, hb⟩; have HB2 := Lib.hid (Below.up HB1.out hb); clear hb)
    | (go_at_call 94; (with_reducible refine (formatUint_dec x.c _ HUc.out ?_).mono ?_); (first | exact HT.out.below HB2.out | exact (HT.out.below HB2.out).drew | fail); rintro e w3 ⟨rfl, hb⟩; have HB3 := Lib.hid (Below.up HB2.out hb); clear hb)
    | fail)
  obtain ⟨k0, k1, k2, k3, k4, k5⟩ := HC.out _ HB3.out
  clear c0 c1 c2 c3 c4 c5
  have HE := Lib.hid (Below.up (below_alloc w (x.cells o)) HB3.out)
  rcases empty_cases x.p with ⟨hp, _⟩ | ⟨hp, _⟩ <;> rcases empty_cases x.m with ⟨hm, _⟩ | ⟨hm, _⟩
  all_goals
    go_wp2
    go_ret
    refine ⟨?_, HE.out⟩
    first
      | (have hx : x.text = x.nums := by unfold V.text; simp only [hp, hm, List.isEmpty_nil, if_true]
         rw [hx]; rfl)
      | (have hx : x.text = x.nums ++ (⟨#[43]⟩ ++ x.m) := by unfold V.text; simp only [hp, hm, List.isEmpty_nil, if_true]; rfl
         rw [hx]; rfl)
      | (have hx : x.text = x.nums ++ (⟨#[45]⟩ ++ x.p) := by unfold V.text; simp only [hp, hm, List.isEmpty_nil, if_true]; rfl
         rw [hx]; rfl)
      | (have hx : x.text = x.nums ++ (⟨#[45]⟩ ++ x.p) ++ (⟨#[43]⟩ ++ x.m) := by unfold V.text; simp only [hp, hm]; rfl
         rw [hx]; rfl)
end Go.Proofs.YtopaileliohpdaaDoor
