/-
  Letters of ASCII in small; names have no digits.
-/
import Derived.Test.YtjipjhpehfbpkaaDoorCBounds
namespace Go.Proofs.YtjipjhpehfbpkaaDoor
open Go.RowKit
set_option maxRecDepth 100000
set_option linter.unusedVariables false
namespace M
def low1 (c : UInt8) : UInt8 := if 65 ≤ c.toNat ∧ c.toNat ≤ 90 then UInt8.ofNat (c.toNat + 32) else c
theorem encode_ascii (c : UInt8) (h : c.toNat < 128) : bs (Utf8.encode (c.toNat : Int)) = [c] := by
  unfold Utf8.encode
  have hv : Utf8.valid (c.toNat : Int) = true := by
    unfold Utf8.valid
    simp only [Bool.or_eq_true, Bool.and_eq_true, decide_eq_true_eq]
    omega
  rw [hv]
  simp only [if_true, Int.toNat_natCast, if_pos h]
  simp [bs]
theorem lowR_ascii (c : UInt8) (h : c.toNat < 128) : lowR c.toNat = [low1 c] := by
  unfold lowR low1
  by_cases k : 65 ≤ c.toNat ∧ c.toNat ≤ 90
  · rw [if_pos k, if_pos k]
  · rw [if_neg k, if_neg k, if_neg (by omega), if_neg (by omega), encode_ascii c h]
theorem lowFrom_ascii (s : ByteArray) (hs : ∀ i (h : i < s.size), (s[i]).toNat < 128) : ∀ f pos, pos ≤ s.size → s.size ≤ pos + f → lowFrom s f pos = ((bs s).drop pos).map low1
  | 0, pos, h1, h2 => by
    obtain rfl : pos = s.size := by omega
    rw [List.drop_of_length_le (by rw [bs_length]; exact Nat.le_refl _)]
    rfl
  | f + 1, pos, h1, h2 => by
    by_cases hlt : pos < s.size
    · rw [lowFrom, if_pos hlt, decode_ascii s pos hlt (hs pos hlt)]
      simp only
      rw [lowR_ascii _ (hs pos hlt), lowFrom_ascii s hs f (pos + 1) hlt (by omega)]
      have h3 : pos < (bs s).length := by rw [bs_length]; exact hlt
      rw [List.drop_eq_getElem_cons h3, List.map_cons]
      rfl
    · obtain rfl : pos = s.size := by omega
      rw [lowFrom_end _ _ _ hlt, List.drop_of_length_le (by rw [bs_length]; exact Nat.le_refl _)]
      rfl
theorem lower_ascii (s : ByteArray) (hs : ∀ c ∈ bs s, c.toNat < 128) : lower s = (bs s).map low1 := by
  have := lowFrom_ascii s (fun i h => hs _ (by
    have : (bs s)[i]? = some s[i] := bs_get s i h
    exact List.mem_of_getElem? this)) s.size 0 (Nat.zero_le _) (by omega)
  rw [List.drop_zero] at this
  exact this
theorem lookT_none {T : List (Bs × Nat)} {k : Bs} (h : ∀ r ∈ T, r.1 ≠ k) : lookT T k = none := by
  unfold lookT
  have : ∀ (T : List (Bs × Nat)) (a : Option Nat), (∀ r ∈ T, r.1 ≠ k) → T.foldl (fun a r => if r.1 = k then some r.2 else a) a = a := by
    intro T
    induction T with
    | nil => intro a _; rfl
    | cons r T ih =>
      intro a h
      rw [List.foldl_cons, if_neg (h r List.mem_cons_self)]
      exact ih a (fun x hx => h x (List.mem_cons_of_mem _ hx))
  exact this T none h
theorem low1_dig {c : UInt8} (h : isDig c = true) : low1 c = c := by
  have := dig_iff.1 h
  unfold low1
  rw [if_neg (by omega)]
theorem nmOf_dig {T : List (Bs × Nat)} (hT : T.all (fun r => !digits r.1) = true) : NoDig (some (nmOf T)) := by
  intro f hf l hl
  obtain rfl := Option.some.inj hf
  have hd : l.all isDig = true := by simp only [digits, Bool.and_eq_true] at hl; exact hl.2
  have hb : bs ⟨l.toArray⟩ = l := by simp [bs]
  have h1 : lower ⟨l.toArray⟩ = l := by
    rw [lower_ascii _ (fun c hc => by
      rw [hb] at hc
      have := dig_iff.1 (List.all_eq_true.1 hd c hc)
      omega), hb]
    have : ∀ m : Bs, m.all isDig = true → m.map low1 = m := by
      intro m
      induction m with
      | nil => intro _; rfl
      | cons c r ih =>
        intro h
        simp only [List.all_cons, Bool.and_eq_true] at h
        rw [List.map_cons, low1_dig h.1, ih h.2]
    exact this l hd
  show lookT T (lower ⟨l.toArray⟩) = none
  rw [h1]
  refine lookT_none (fun r hr e => ?_)
  have := List.all_eq_true.1 hT r hr
  rw [e, hl] at this
  cases this
theorem bd_noDig (k : Nat) : NoDig (bdOf k).nm := by
  rcases k with _ | _ | _ | _ | _ | k
  · intro f h; cases h
  · intro f h; cases h
  · intro f h; cases h
  · intro f h; cases h
  · exact nmOf_dig (by decide)
  · exact nmOf_dig (by decide)
end M
end Go.Proofs.YtjipjhpehfbpkaaDoor
