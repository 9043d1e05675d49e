/-
  package cron's getField, for every text, within bounds up to 62; ZZField, ZZFieldIn; impl.CronField, impl.CronFieldIn.
-/
import Derived.Test.YtjipjhpehfbpkaaDoorCAscii
namespace Go.Proofs.YtjipjhpehfbpkaaDoor
open Go.RowKit
set_option maxRecDepth 100000
set_option linter.unusedVariables false

theorem comma_any (r : Nat) (W : World) : Calls Tryd.prog 33 #[.int .i32 (r : Int)] W fun e w' => e = .returned (.bool (M.isComma r)) ∧ w' = W := by
  have h : ((r : Int) == 44) = M.isComma r := by
    unfold M.isComma
    rw [Bool.eq_iff_iff, beq_iff_eq, decide_eq_true_eq]
    omega
  go_enter Tryd.func33, Tryd.ntmps33
  go_wp2
  go_ret
  exact ⟨rfl, rfl⟩
theorem comma_at (w : World) : PredAt Tryd.prog 33 #[] encR M.isComma w := fun W x _ =>
  (comma_any x W).mono fun e w' ⟨he, hw⟩ => ⟨he, 0, hw⟩
theorem fields_at (s : ByteArray) (w : World) (hs : s.size ≤ 2147483647) :
    Calls Tryd.prog 32 #[.string s, .func (.func 33) #[] #[]] w fun e w' => ∃ g n c L, e = .returned (.slice (some ⟨g, 0, none⟩) n c) ∧ Hid (L.map M.bs = M.pieces (M.bs s)) ∧ Hid (n = L.length) ∧ SlAt w' g L ∧ Below w.heap.size w w' := by
  refine (Tryd.strings_FieldsFunc 33 #[] (enters_of Tryd.func33 (by kernel_rfl) rfl) M.isComma s w (by omega) (comma_at w)).mono ?_
  rintro e w' ⟨A, rfl, hA, hown, hb⟩
  refine ⟨A, _, _, Lib.goFieldsP M.isComma s, rfl, Lib.hid (M.fields_pieces s), Lib.hid rfl, ⟨?_, fun i hi => ?_⟩, hb⟩
  · rcases hown.2 with ⟨h, _⟩ | ⟨g, cap, cur, h, _, hbk, _⟩
    · cases h
    · injection h with h1 _ _
      injection h1 with h1
      injection h1 with h1 _ _
      subst h1
      exact (Array.getElem?_eq_some_iff.1 hbk).1
  · have := World.ownsRow.cellAt hown i (by omega)
    rw [this]
    simp [hi]
namespace M
theorem fin_lt {b : Bd} {s e st : Nat} {z : Bool} {n : Nat} (h : fin b s e st z = some n) : n < 18446744073709551616 := by
  unfold fin at h
  split at h
  · cases h
  · obtain rfl := Option.some.inj h
    have : (if z = true then 9223372036854775808 else 0) < 2 ^ 64 := by split <;> decide
    exact Nat.or_lt_two_pow (gbits_lt64 _ _ _) this
theorem item_lt {b : Bd} {l : Bs} {n : Nat} (h : item b l = some n) : n < 18446744073709551616 := by
  unfold item at h
  split at h
  · cases h
  · split at h
    · cases h
    · split at h
      · exact fin_lt h
      · split at h
        · cases h
        · exact fin_lt h
      · cases h
end M
/-- what a field's reading hands back -/
def FldRes (o : Option Nat) (w : World) (e : Ending) (w' : World) : Prop :=
  (match o with
   | some n => e = .returned (.tuple #[.int .u64 (n : Int), .nilIface])
   | none => ∃ n t v, e = .returned (.tuple #[.int .u64 n, .iface t v])) ∧ Below w.heap.size w w'
theorem fldRes_none {w : World} {o : Option Nat} (ho : o = none) {e : Ending} {w' : World} (n : Int) (t : TypeId) (v : Value) (he : e = .returned (.tuple #[.int .u64 n, .iface t v])) (hb : Below w.heap.size w w') : FldRes o w e w' := by
  subst ho
  exact ⟨⟨n, t, v, he⟩, hb⟩
theorem fldRes_some {w : World} {o : Option Nat} {n : Nat} (ho : o = some n) {e : Ending} {w' : World} (he : e = .returned (.tuple #[.int .u64 (n : Int), .nilIface])) (hb : Below w.heap.size w w') : FldRes o w e w' := by
  subst ho
  exact ⟨he, hb⟩
set_option maxHeartbeats 8000000 in
theorem getField_any (s : ByteArray) (b : M.Bd) (v : Value) (o : Option Nat) (w : World) (hs : s.size ≤ 2147483647) (hm : b.mx ≤ 62) (hm2 : b.mn ≤ 62) (hn : NumErrs w) (hv : Nm w v b.nm) (ho : Hid (M.field b (M.bs s) = o)) :
    Calls Tryd.prog 25 #[.string s, .agg #[.int .u64 (b.mn : Int), .int .u64 (b.mx : Int), v]] w (FldRes o w) := by
  have hB0 : RSt w (w.alloc (.cells #[.int .u64 (b.mn : Int), .int .u64 (b.mx : Int), v] 62)) b v := ⟨alloc_at _ _ _ rfl, hv.below (below_alloc _ _), hn.below (below_alloc _ _), below_alloc _ _⟩
  have I := Lib.hid hB0
  clear hB0 hn hv
  go_enter Tryd.func25, Tryd.ntmps25
  go_wp2_with (go_at_call 32; (with_reducible refine (fields_at s _ hs).mono ?_); rintro e w1 ⟨g, n, c, L, rfl, HL, HN, hsl, hb⟩; have hI := I.out.below hb; clear I; have I := Lib.hid hI; have HS := Lib.hid hsl; clear hsl hb hI)
  have HPS : Hid (∀ i (hi : i < L.length), (L[i]).size ≤ 2147483647) := Lib.hid (fun i hi => by
    have h1 : M.bs L[i] ∈ M.pieces (M.bs s) := by rw [← HL.out]; exact List.mem_map.2 ⟨_, List.getElem_mem hi, rfl⟩
    have h2 := M.piece_le 44 _ _ (List.mem_filter.1 h1).1
    rw [M.bs_length, M.bs_length] at h2
    omega)
  have hll : L.length ≤ 2147483648 := by
    have h1 : L.length = (M.pieces (M.bs s)).length := by rw [← HL.out, List.length_map]
    have h2 : (M.pieces (M.bs s)).length ≤ (M.splitOn 44 (M.bs s)).length := List.length_filter_le _ _
    have h3 := M.splitOn_length 44 (M.bs s)
    rw [M.bs_length] at h3
    omega
  go_loopw [6, 16] (fun bt i wr => ∃ k acc : Nat, k ≤ L.length ∧ i = .int .i64 (k : Int) ∧ bt = .int .u64 (acc : Int) ∧ Hid (M.fieldL b acc ((L.map M.bs).drop k) = o) ∧ Hid (acc < 18446744073709551616) ∧ Hid (RSt w wr b v) ∧ Hid (SlAt wr g L)) (fun _ i _ => L.length - (intOf i).toNat)
  case atStart => exact ⟨0, 0, Nat.zero_le _, rfl, rfl, Lib.hid (by rw [List.drop_zero, HL.out]; exact ho.out), Lib.hid (by decide), I, HS⟩
  case round =>
    obtain ⟨k, acc, hk, rfl, rfl, HO, HA, IX, SX⟩ := hrel
    clear I HS
    by_cases hlt : k < L.length
    · have hkn : (k : Int) < (n : Int) := by rw [HN.out]; omega
      have hk0 : (0 : Int) ≤ (k : Int) := by omega
      obtain ⟨k0, k1, k2⟩ := IX.out.cells
      obtain ⟨p, hp⟩ : ∃ p, L[k] = p := ⟨_, rfl⟩
      have hc := SX.out.2 k hlt
      rw [hp] at hc
      have hps := HPS.out k hlt
      rw [hp] at hps
      have HD : Hid (M.fieldL b acc (M.bs p :: (L.map M.bs).drop (k + 1)) = o) := Lib.hid (by
        rw [← HO.out, ← hp]
        have h3 : k < (L.map M.bs).length := by rw [List.length_map]; exact hlt
        rw [List.drop_eq_getElem_cons h3, List.getElem_map])
      clear hp HO
      cases hi : M.item b (M.bs p) with
      | none =>
        have HI := Lib.hid hi
        have HOO := Lib.hid (show o = none by rw [← HD.out, M.fieldL, hi])
        clear hi
        go_wp2_with (go_at_call 34; (with_reducible refine (getRange_none p b v _ hps hm hm2 IX.out.err IX.out.nm HI).mono ?_); rintro e w3 ⟨⟨et, ev, rfl⟩, hb⟩; have HB := Lib.hid (Below.up IX.out.bel hb); clear hb)
        go_ret2
        exact fldRes_none HOO.out _ _ _ rfl HB.out
      | some x =>
        have HI := Lib.hid hi
        have HX := Lib.hid (M.item_lt hi)
        have HD2 := Lib.hid (show M.fieldL b (acc ||| x) ((L.map M.bs).drop (k + 1)) = o by rw [← HD.out, M.fieldL, hi])
        have HOR := Lib.hid (M.or64 HA.out HX.out)
        have HLT : Hid (acc ||| x < 18446744073709551616) := Lib.hid (show acc ||| x < 2 ^ 64 from Nat.or_lt_two_pow HA.out HX.out)
        clear hi
        go_wp2_with (go_at_call 34; (with_reducible refine (getRange_some p b v x _ hps hm hm2 IX.out.err IX.out.nm HI).mono ?_); rintro e w3 ⟨rfl, hb⟩; have I3 := Lib.hid (IX.out.below hb); have S3 := Lib.hid (SX.out.below hb); clear hb)
        go_roundw
        case rel => exact ⟨k + 1, acc ||| x, hlt, by go_num, congrArg _ HOR.out, HD2, HLT, I3, S3⟩
        case measure => simp [intOf]; omega
    · have hkn : ¬ (k : Int) < (n : Int) := by rw [HN.out]; omega
      have HOO := Lib.hid (show o = some acc by
        rw [← HO.out, List.drop_of_length_le (by rw [List.length_map]; omega)]
        rfl)
      go_wp2
      go_ret2
      exact fldRes_some HOO.out rfl IX.out.bel
theorem getField_some (s : ByteArray) (b : M.Bd) (v : Value) (n : Nat) (w : World) (hs : s.size ≤ 2147483647) (hm : b.mx ≤ 62) (hm2 : b.mn ≤ 62) (hn : NumErrs w) (hv : Nm w v b.nm) (ho : Hid (M.field b (M.bs s) = some n)) :
    Calls Tryd.prog 25 #[.string s, .agg #[.int .u64 (b.mn : Int), .int .u64 (b.mx : Int), v]] w fun e w' => e = .returned (.tuple #[.int .u64 (n : Int), .nilIface]) ∧ Below w.heap.size w w' := getField_any s b v _ w hs hm hm2 hn hv ho
theorem getField_none (s : ByteArray) (b : M.Bd) (v : Value) (w : World) (hs : s.size ≤ 2147483647) (hm : b.mx ≤ 62) (hm2 : b.mn ≤ 62) (hn : NumErrs w) (hv : Nm w v b.nm) (ho : Hid (M.field b (M.bs s) = none)) :
    Calls Tryd.prog 25 #[.string s, .agg #[.int .u64 (b.mn : Int), .int .u64 (b.mx : Int), v]] w fun e w' => (∃ n t u, e = .returned (.tuple #[.int .u64 n, .iface t u])) ∧ Below w.heap.size w w' := getField_any s b v _ w hs hm hm2 hn hv ho
theorem bits_bad (n : Int) (t : TypeId) (v : Value) (w : World) : Calls Tryd.prog 15 #[.int .u64 n, .iface t v] w fun e w' => e = .returned (.tuple #[.int .u64 0, .bool false]) ∧ w = w' := by
  go_enter Tryd.func15, Tryd.ntmps15
  go_wp2
  go_ret2
  exact ⟨rfl, rfl⟩
/-- bounds without names -/
def bdIn (lo hi : Nat) : M.Bd := ⟨lo, hi, none⟩
end Go.Proofs.YtjipjhpehfbpkaaDoor
