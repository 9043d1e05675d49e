/-
  FnSemverCross, plainly: what a cross says.
-/
import Derived.Test.YtnkdpgcfaelpkaaDoorCross
namespace Go.Proofs.YtnkdpgcfaelpkaaDoor
set_option maxRecDepth 100000
set_option linter.unusedVariables false

theorem any_and {α β : Type} (f : α → Bool) (g : β → Bool) (l : List α) (k : List β) : (l.any fun a => k.any fun b => f a && g b) = (l.any f && k.any g) := by
  rw [Bool.eq_iff_iff]
  simp only [List.any_eq_true, Bool.and_eq_true]
  constructor
  · rintro ⟨a, ha, b, hb, h1, h2⟩
    exact ⟨⟨a, ha, h1⟩, ⟨b, hb, h2⟩⟩
  · rintro ⟨⟨a, ha, h1⟩, ⟨b, hb, h2⟩⟩
    exact ⟨a, ha, b, hb, h1, h2⟩
theorem cross_all {x : V} {pre : Bool} (h : pre = true ∨ M.bs x.p = []) (LL KK : List (List T)) : termsHold x pre (crossR LL KK) = (termsHold x pre LL && termsHold x pre KK) := by
  have e : ∀ L, rowHolds x pre L = L.all fun t => t.hold x := fun L => rowHolds_in h L
  unfold termsHold crossR
  rw [List.any_flatMap]
  simp only [List.any_map, Function.comp_def]
  have e2 : (fun L => KK.any fun K => rowHolds x pre (L ++ K)) = fun L => KK.any fun K => rowHolds x pre L && rowHolds x pre K := by
    funext L
    congr 1
    funext K
    rw [e, e, e, List.all_append]
  rw [e2]
  exact any_and _ _ _ _
theorem cross_good {LL KK : List (List T)} (h1 : LGood LL) (h2 : LGood KK) (l1 : LL.length ≤ 10) (l2 : KK.length ≤ 10) (r1 : ∀ L ∈ LL, L.length ≤ 100) (r2 : ∀ L ∈ KK, L.length ≤ 100) : LGood (crossR LL KK) := by
  refine ⟨?_, fun M hM => ?_⟩
  · rw [cross_len]
    have := Nat.mul_le_mul l1 l2
    omega
  · unfold crossR at hM
    obtain ⟨L, hL, hM⟩ := List.mem_flatMap.1 hM
    obtain ⟨K, hK, rfl⟩ := List.mem_map.1 hM
    have a := r1 L hL
    have b := r2 K hK
    refine ⟨by rw [List.length_append]; omega, fun t ht => ?_⟩
    rcases List.mem_append.1 ht with ht | ht
    · exact (h1.2 L hL).2 t ht
    · exact (h2.2 K hK).2 t ht
namespace M
theorem part_zero {p : Bs} (h : p ≠ []) : partSpec p [48] ≥ 0 := by
  unfold partSpec
  split
  · omega
  · rename_i hne
    have hd : digits [48] = true := by decide
    split
    · rename_i h2
      have : p.length ≠ 0 := fun e => h (List.length_eq_zero_iff.1 e)
      have h3 := h2.2.2
      simp only [List.length_cons, List.length_nil] at h3
      rw [if_neg (by simp only [List.length_cons, List.length_nil]; omega)]
      omega
    · rename_i h2
      rw [hd]
      cases hp : digits p with
      | false => simp
      | true =>
        rw [hd, hp] at h2
        have hl : p.length = 1 := by simpa using h2
        match p, hl with
        | [c], _ =>
          have hc : isDig c = true := by simpa [digits] using hp
          have : less [c] [48] = false := by
            simp only [isDig, Bool.and_eq_true, decide_eq_true_eq] at hc
            have hn : ¬ c < 48 := by simpa [UInt8.not_lt] using hc.1
            unfold less Op.bytesLess
            simp [hn, Op.bytesLess]
          rw [this]
          simp
theorem pre_zero (p : Bs) (h : p = [] ∨ goodPre p = true) : preCmp p [48] ≥ 0 := by
  unfold preCmp
  split
  · simp
  · rw [if_neg (by simp)]
    unfold cmpPre
    have e : splitOn 46 [48] = [[48]] := by decide
    rw [e]
    cases hs : splitOn 46 p with
    | nil => exact absurd hs (splitOn_ne _ _)
    | cons q r =>
      unfold cmpL
      split
      · cases r <;> simp [cmpL]
      · refine part_zero ?_
        rename_i hp _
        have hg := h.resolve_left hp
        unfold goodPre validPre at hg
        rw [Bool.and_eq_true, hs, List.all_cons, Bool.and_eq_true, Bool.and_eq_true] at hg
        have hv := hg.1.1.1
        intro e
        rw [e] at hv
        cases hv
end M
theorem V.cmp_zero (x : V) (h : x.pGood) : x.cmp ⟨0, 0, 0, ⟨#[48]⟩, ⟨#[]⟩⟩ ≥ 0 := by
  have hp : M.preCmp (M.bs x.p) [48] ≥ 0 := M.pre_zero _ h
  have e1 : M.bs (⟨#[48]⟩ : ByteArray) = [48] := rfl
  have hs : ∀ n : Nat, M.seg n 0 ≥ 0 := by
    intro n
    unfold M.seg
    split
    · omega
    · split <;> omega
  unfold V.cmp V.nums3
  rw [e1]
  have ha := hs x.a
  have hb := hs x.b
  have hc := hs x.c
  repeat' split
  all_goals first
    | exact ha
    | exact hb
    | exact hc
    | exact hp
theorem cross_own {x : V} {pre : Bool} (h : pre = true ∨ M.bs x.p = []) (hg : x.pGood) : termsHold x pre (crossR [[⟨4, 3, 0, 0, 0, ⟨#[48]⟩⟩]] [[⟨0, 3, x.a, x.b, x.c, x.p⟩]]) = true := by
  have h0 : x.cmp (T.ver ⟨0, 3, x.a, x.b, x.c, x.p⟩) = 0 := cmp_own _ _ rfl rfl rfl rfl
  have h1 : x.cmp (T.ver ⟨4, 3, 0, 0, 0, ⟨#[48]⟩⟩) ≥ 0 := V.cmp_zero x hg
  rw [cross_all h, termsHold_one, termsHold_one, rowHolds_in h, rowHolds_in h]
  simp [T.hold, T.equal, T.dirty, h0, h1]
end Go.Proofs.YtnkdpgcfaelpkaaDoor
