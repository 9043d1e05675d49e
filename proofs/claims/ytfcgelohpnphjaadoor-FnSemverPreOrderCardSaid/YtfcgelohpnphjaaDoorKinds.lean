/-
  The kinds of errors of versions (impl.versionKind, MetaKind, PreKind, ValidPre, ValidMeta), and laws.svShort.
-/
import Derived.Test.YtfcgelohpnphjaaDoorCheck
import Derived.Test.YtfcgelohpnphjaaDoorIs
namespace Go.Proofs.YtfcgelohpnphjaaDoor
open Go.RowKit
set_option maxRecDepth 100000

/-- the sentinels that impl.versionKind asks for, in its order -/
def semG : List Nat := [0, 1, 2, 3, 4, 5, 6, 7, 8]

theorem sis {w : World} {sa : Nat → Addr} (h : Sent.Errs semG w sa) (i j : Nat) (hi : i < 9) (hj : j < 9) :
    Calls Tryd.prog 109 #[.iface 164 (.pointer (some (sa i))), .iface 164 (.pointer (some (sa j)))] w fun e w' => e = .returned (.bool (i == j)) ∧ w' = w := h.is i j hi hj

theorem versionKind_nil (w : World) : Calls Tryd.prog 73 #[.nilIface] w fun e w' => e = .returned (.int .i64 0) ∧ w' = w := by
  go_enter Tryd.func73, Tryd.ntmps73
  go_wp2
  go_ret
  exact ⟨rfl, rfl⟩

set_option maxHeartbeats 1000000 in
theorem versionKind_err (i : Nat) (hi : i < 9) (sa : Nat → Addr) (w : World) (h : Sent.Errs semG w sa) :
    Calls Tryd.prog 73 #[.iface 164 (.pointer (some (sa i)))] w fun e w' => e = .returned (.int .i64 (i + 1 : Nat)) ∧ w' = w := by
  have g0 : w.cell? ⟨0, 0, none⟩ = some (.iface 164 (.pointer (some (sa 0)))) := h.var 0 (by decide)
  have g1 : w.cell? ⟨1, 0, none⟩ = some (.iface 164 (.pointer (some (sa 1)))) := h.var 1 (by decide)
  have g2 : w.cell? ⟨2, 0, none⟩ = some (.iface 164 (.pointer (some (sa 2)))) := h.var 2 (by decide)
  have g3 : w.cell? ⟨3, 0, none⟩ = some (.iface 164 (.pointer (some (sa 3)))) := h.var 3 (by decide)
  have g4 : w.cell? ⟨4, 0, none⟩ = some (.iface 164 (.pointer (some (sa 4)))) := h.var 4 (by decide)
  have g5 : w.cell? ⟨5, 0, none⟩ = some (.iface 164 (.pointer (some (sa 5)))) := h.var 5 (by decide)
  have g6 : w.cell? ⟨6, 0, none⟩ = some (.iface 164 (.pointer (some (sa 6)))) := h.var 6 (by decide)
  have g7 : w.cell? ⟨7, 0, none⟩ = some (.iface 164 (.pointer (some (sa 7)))) := h.var 7 (by decide)
  have g8 : w.cell? ⟨8, 0, none⟩ = some (.iface 164 (.pointer (some (sa 8)))) := h.var 8 (by decide)
  go_enter Tryd.func73, Tryd.ntmps73
  go_wp2_with ((go_at_call 109; (with_reducible refine (sis h i _ hi (by omega)).mono ?_); rintro e w' ⟨rfl, rfl⟩))
  all_goals
    go_ret
    refine ⟨?_, rfl⟩
    clear h g0 g1 g2 g3 g4 g5 g6 g7 g8
    simp only [beq_iff_eq, beq_eq_false_iff_ne, ne_eq] at *
    first
      | (exfalso; omega)
      | (subst_vars; rfl)

/-- an error's value -/
abbrev errAt (sa : Nat → Addr) (i : Nat) : Value := .iface 164 (.pointer (some (sa i)))

theorem validateMetadata_ok (s : ByteArray) (ev : Value) (w : World) (hs : s.size ≤ 2147483647) (hg : w.cell? ⟨5, 0, none⟩ = some ev) (hv : Hid (M.validMeta (M.bs s) = true)) :
    Calls Tryd.prog 110 #[.string s] w fun e w' => e = .returned .nilIface ∧ Below w.heap.size w w' := by
  have := validateMetadata_any s ev w hs hg
  rw [hv.out] at this
  exact this
theorem validateMetadata_bad (s : ByteArray) (ev : Value) (w : World) (hs : s.size ≤ 2147483647) (hg : w.cell? ⟨5, 0, none⟩ = some ev) (hv : Hid (M.validMeta (M.bs s) = false)) :
    Calls Tryd.prog 110 #[.string s] w fun e w' => e = .returned ev ∧ Below w.heap.size w w' := by
  have := validateMetadata_any s ev w hs hg
  rw [hv.out] at this
  exact this
theorem validatePre_0 (s : ByteArray) (e1 e2 : Value) (w : World) (hs : s.size ≤ 2147483647) (hg : w.cell? ⟨4, 0, none⟩ = some e1) (hh : w.cell? ⟨3, 0, none⟩ = some e2) (hv : Hid (M.preRes (M.splitOn 46 (M.bs s)) = 0)) :
    Calls Tryd.prog 111 #[.string s] w fun e w' => e = .returned .nilIface ∧ Below w.heap.size w w' := by
  have := validatePrerelease_any s e1 e2 w hs hg hh
  rw [hv.out] at this
  exact this

theorem validatePre_1 (s : ByteArray) (e1 e2 : Value) (w : World) (hs : s.size ≤ 2147483647) (hg : w.cell? ⟨4, 0, none⟩ = some e1) (hh : w.cell? ⟨3, 0, none⟩ = some e2) (hv : Hid (M.preRes (M.splitOn 46 (M.bs s)) = 1)) :
    Calls Tryd.prog 111 #[.string s] w fun e w' => e = .returned e1 ∧ Below w.heap.size w w' := by
  have := validatePrerelease_any s e1 e2 w hs hg hh
  rw [hv.out] at this
  exact this

theorem validatePre_2 (s : ByteArray) (e1 e2 : Value) (w : World) (hs : s.size ≤ 2147483647) (hg : w.cell? ⟨4, 0, none⟩ = some e1) (hh : w.cell? ⟨3, 0, none⟩ = some e2) (hv : Hid (M.preRes (M.splitOn 46 (M.bs s)) = 2)) :
    Calls Tryd.prog 111 #[.string s] w fun e w' => e = .returned e2 ∧ Below w.heap.size w w' := by
  have := validatePrerelease_any s e1 e2 w hs hg hh
  rw [hv.out] at this
  exact this

def metaKindOf (b : Bool) : Int := if b then 0 else 6

theorem metaKind_any (s : ByteArray) (sa : Nat → Addr) (w : World) (hs : s.size ≤ 2147483647) (h : Sent.Errs semG w sa) :
    Calls Tryd.prog 20 #[.string s] w fun e w' => e = .returned (.int .i64 (metaKindOf (M.validMeta (M.bs s)))) ∧ Below w.heap.size w w' := by
  have hg : w.cell? ⟨5, 0, none⟩ = some (errAt sa 5) := h.var 5 (by decide)
  have HH := Lib.hid h
  clear h
  cases hv : M.validMeta (M.bs s) with
  | true =>
    have HV := Lib.hid hv
    go_enter Tryd.func20, Tryd.ntmps20
    go_wp2_with (first
      | (go_at_call 110; (with_reducible refine (validateMetadata_ok _ _ _ hs hg HV).mono ?_); rintro e w1 ⟨rfl, hb⟩; have HB := Lib.hid hb; clear hb)
      | (go_at_call 73; (with_reducible refine (versionKind_nil _).mono ?_); rintro e w2 ⟨rfl, rfl⟩)
      | go_in)
    go_ret
    exact ⟨rfl, HB.out⟩
  | false =>
    have HV := Lib.hid hv
    go_enter Tryd.func20, Tryd.ntmps20
    go_wp2_with (first
      | (go_at_call 110; (with_reducible refine (validateMetadata_bad _ _ _ hs hg HV).mono ?_); rintro e w1 ⟨rfl, hb⟩; have HB := Lib.hid hb; clear hb)
      | (go_at_call 73; (with_reducible refine (versionKind_err 5 (by omega) sa _ (HH.out.below HB.out)).mono ?_); rintro e w2 ⟨rfl, rfl⟩)
      | go_in)
    go_ret
    exact ⟨rfl, HB.out⟩

theorem implValidMeta_any (s : ByteArray) (sa : Nat → Addr) (w : World) (hs : s.size ≤ 2147483647) (h : Sent.Errs semG w sa) :
    Calls Tryd.prog 24 #[.string s] w fun e w' => e = .returned (.bool (M.validMeta (M.bs s))) ∧ Below w.heap.size w w' := by
  have hg : w.cell? ⟨5, 0, none⟩ = some (errAt sa 5) := h.var 5 (by decide)
  cases hv : M.validMeta (M.bs s) with
  | true =>
    have HV := Lib.hid hv
    go_enter Tryd.func24, Tryd.ntmps24
    go_wp2_with (first
      | (go_at_call 110; (with_reducible refine (validateMetadata_ok _ _ _ hs hg HV).mono ?_); rintro e w1 ⟨rfl, hb⟩; have HB := Lib.hid hb; clear hb)
      | go_in)
    go_ret
    exact ⟨rfl, HB.out⟩
  | false =>
    have HV := Lib.hid hv
    go_enter Tryd.func24, Tryd.ntmps24
    go_wp2_with (first
      | (go_at_call 110; (with_reducible refine (validateMetadata_bad _ _ _ hs hg HV).mono ?_); rintro e w1 ⟨rfl, hb⟩; have HB := Lib.hid hb; clear hb)
      | go_in)
    go_ret
    exact ⟨rfl, HB.out⟩

theorem M.preRes_le : ∀ l : List M.Bs, M.preRes l = 0 ∨ M.preRes l = 1 ∨ M.preRes l = 2
  | [] => .inl rfl
  | p :: r => by
    rw [M.preRes_cons]
    have := M.preRes_le r
    split
    · simp
    · split
      · split
        · simp
        · exact this
      · split
        · exact this
        · simp

def preKindOf (n : Nat) : Int := if n = 0 then 0 else if n = 1 then 5 else 4

theorem preKind_any (s : ByteArray) (sa : Nat → Addr) (w : World) (hs : s.size ≤ 2147483647) (h : Sent.Errs semG w sa) :
    Calls Tryd.prog 23 #[.string s] w fun e w' => e = .returned (.int .i64 (preKindOf (M.preRes (M.splitOn 46 (M.bs s))))) ∧ Below w.heap.size w w' := by
  have hg : w.cell? ⟨4, 0, none⟩ = some (errAt sa 4) := h.var 4 (by decide)
  have hh : w.cell? ⟨3, 0, none⟩ = some (errAt sa 3) := h.var 3 (by decide)
  have HH := Lib.hid h
  clear h
  rcases M.preRes_le (M.splitOn 46 (M.bs s)) with hv | hv | hv
  · have HV := Lib.hid hv
    go_enter Tryd.func23, Tryd.ntmps23
    go_wp2_with (first
      | (go_at_call 111; (with_reducible refine (validatePre_0 _ _ _ _ hs hg hh HV).mono ?_); rintro e w1 ⟨rfl, hb⟩; have HB := Lib.hid hb; clear hb)
      | (go_at_call 73; (with_reducible refine (versionKind_nil _).mono ?_); rintro e w2 ⟨rfl, rfl⟩)
      | go_in)
    go_ret
    exact ⟨by rw [hv]; rfl, HB.out⟩
  · have HV := Lib.hid hv
    go_enter Tryd.func23, Tryd.ntmps23
    go_wp2_with (first
      | (go_at_call 111; (with_reducible refine (validatePre_1 _ _ _ _ hs hg hh HV).mono ?_); rintro e w1 ⟨rfl, hb⟩; have HB := Lib.hid hb; clear hb)
      | (go_at_call 73; (with_reducible refine (versionKind_err 4 (by omega) sa _ (HH.out.below HB.out)).mono ?_); rintro e w2 ⟨rfl, rfl⟩)
      | go_in)
    go_ret
    exact ⟨by rw [hv]; rfl, HB.out⟩
  · have HV := Lib.hid hv
    go_enter Tryd.func23, Tryd.ntmps23
    go_wp2_with (first
      | (go_at_call 111; (with_reducible refine (validatePre_2 _ _ _ _ hs hg hh HV).mono ?_); rintro e w1 ⟨rfl, hb⟩; have HB := Lib.hid hb; clear hb)
      | (go_at_call 73; (with_reducible refine (versionKind_err 3 (by omega) sa _ (HH.out.below HB.out)).mono ?_); rintro e w2 ⟨rfl, rfl⟩)
      | go_in)
    go_ret
    exact ⟨by rw [hv]; rfl, HB.out⟩

theorem implValidPre_any (s : ByteArray) (sa : Nat → Addr) (w : World) (hs : s.size ≤ 2147483647) (h : Sent.Errs semG w sa) :
    Calls Tryd.prog 22 #[.string s] w fun e w' => e = .returned (.bool (decide (M.preRes (M.splitOn 46 (M.bs s)) = 0))) ∧ Below w.heap.size w w' := by
  have hg : w.cell? ⟨4, 0, none⟩ = some (errAt sa 4) := h.var 4 (by decide)
  have hh : w.cell? ⟨3, 0, none⟩ = some (errAt sa 3) := h.var 3 (by decide)
  have HH := Lib.hid h
  clear h
  rcases M.preRes_le (M.splitOn 46 (M.bs s)) with hv | hv | hv
  · have HV := Lib.hid hv
    go_enter Tryd.func22, Tryd.ntmps22
    go_wp2_with (first
      | (go_at_call 111; (with_reducible refine (validatePre_0 _ _ _ _ hs hg hh HV).mono ?_); rintro e w1 ⟨rfl, hb⟩; have HB := Lib.hid hb; clear hb)
      | go_in)
    go_ret
    exact ⟨by rw [hv]; rfl, HB.out⟩
  · have HV := Lib.hid hv
    go_enter Tryd.func22, Tryd.ntmps22
    go_wp2_with (first
      | (go_at_call 111; (with_reducible refine (validatePre_1 _ _ _ _ hs hg hh HV).mono ?_); rintro e w1 ⟨rfl, hb⟩; have HB := Lib.hid hb; clear hb)
      | go_in)
    go_ret
    exact ⟨by rw [hv]; rfl, HB.out⟩
  · have HV := Lib.hid hv
    go_enter Tryd.func22, Tryd.ntmps22
    go_wp2_with (first
      | (go_at_call 111; (with_reducible refine (validatePre_2 _ _ _ _ hs hg hh HV).mono ?_); rintro e w1 ⟨rfl, hb⟩; have HB := Lib.hid hb; clear hb)
      | go_in)
    go_ret
    exact ⟨by rw [hv]; rfl, HB.out⟩

theorem specMetaKind_any (s : ByteArray) (w : World) (hs : s.size ≤ 2147483647) :
    Calls Tryd.prog 21 #[.string s] w fun e w' => e = .returned (.int .i64 (metaKindOf (M.validMeta (M.bs s)))) ∧ Below w.heap.size w w' := by
  go_enter Tryd.func21, Tryd.ntmps21
  go_wp2_with ((go_at_call 28; (with_reducible refine (validMeta_any _ _ hs).mono ?_); rintro e w1 ⟨rfl, hb⟩; have HB := Lib.hid hb; clear hb))
  · have h1 : (!M.validMeta (M.bs s)) = true := by assumption
    go_ret
    refine ⟨ret_i64 ?_, HB.out⟩
    rw [Bool.not_eq_true'] at h1
    rw [h1]; rfl
  · have h1 : (!M.validMeta (M.bs s)) = false := by assumption
    go_ret
    refine ⟨ret_i64 ?_, HB.out⟩
    rw [Bool.not_eq_false'] at h1
    rw [h1]; rfl

set_option maxRecDepth 100000 in
theorem svShort_any (v : Value) (L : List ByteArray) (w : World) (hr : ReadS w v L) (hl : L.length ≤ 1099511627776) (hz : ∀ b ∈ L, b.size ≤ 140737488351232) :
    Calls Tryd.prog 19 #[v] w fun e w' => e = .returned (.bool (L.all fun b => decide (b.size ≤ 65536))) ∧ w' = w := by
  obtain ⟨A, cap, rfl, hcell⟩ := hr
  have HC := Lib.hid hcell
  have HZ := Lib.hid hz
  clear hcell hz
  go_enter Tryd.func19, Tryd.ntmps19
  go_wp2
  go_loop [7] (fun i => ∃ k : Nat, k ≤ L.length ∧ i = .int .i64 k ∧ Hid ((L.take k).all (fun b => decide (b.size ≤ 65536)) = true)) (fun i => L.length - (intOf i).toNat)
  case atStart => exact ⟨0, Nat.zero_le _, rfl, Lib.hid (by simp)⟩
  case round =>
    obtain ⟨k, hk, rfl, ha⟩ := hrel
    by_cases hlt : k < L.length
    · obtain ⟨b, o, rfl, _, hcell⟩ := HC.out k hlt
      have hsz := HZ.out L[k] (List.getElem_mem hlt)
      go_wp2
      · have h3 : 65536 < (L[k].size : Int) := by assumption
        go_ret
        refine ⟨ret_bool ?_, rfl⟩
        rw [listAll_false _ L k hlt (by rw [decide_eq_false]; omega)]
      · have h3 : (L[k].size : Int) ≤ 65536 := by assumption
        go_round
        case rel => exact ⟨k + 1, hlt, by go_num, Lib.hid (listAll_take _ L k hlt ha.out (by rw [decide_eq_true]; omega))⟩
        case measure => simp [intOf]; omega
    · have HK := Lib.hid (show k = L.length by omega)
      go_wp2
      go_ret
      refine ⟨ret_bool ?_, rfl⟩
      have h1 := ha.out
      rw [HK.out, List.take_length] at h1
      exact h1.symm
end Go.Proofs.YtfcgelohpnphjaaDoor
