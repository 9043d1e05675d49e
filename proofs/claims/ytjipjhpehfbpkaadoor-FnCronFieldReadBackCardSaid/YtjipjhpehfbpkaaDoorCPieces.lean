/-
  What strings.FieldsFunc leaves of a text at commas: the pieces that are not empty, whatever the text's bytes.
-/
import Derived.Test.YtjipjhpehfbpkaaDoorCField
import Derived.Lib.FieldsP
import Derived.Lib.DecodeN
namespace Go.Proofs.YtjipjhpehfbpkaaDoor
namespace M
set_option linter.unusedVariables false

theorem decodeN_comma (n b0 b1 b2 b3 : Nat) (h : (Lib.decodeN n b0 b1 b2 b3).1 = 44) : b0 = 44 ∧ (Lib.decodeN n b0 b1 b2 b3).2 = 1 := by
  unfold Lib.decodeN at *
  by_cases c0 : b0 < 128
  · rw [if_pos c0] at *; exact ⟨h, rfl⟩
  rw [if_neg c0] at h
  exfalso
  repeat' split at h
  all_goals (simp only at h; omega)
theorem decodeN_low (n b0 b1 b2 b3 : Nat) (h : b0 < 128) : Lib.decodeN n b0 b1 b2 b3 = (b0, 1) := by unfold Lib.decodeN; rw [if_pos h]
theorem decodeN_rest (n b0 b1 b2 b3 : Nat) : (1 < (Lib.decodeN n b0 b1 b2 b3).2 → b1 / 64 = 2) ∧ (2 < (Lib.decodeN n b0 b1 b2 b3).2 → b2 / 64 = 2) ∧ (3 < (Lib.decodeN n b0 b1 b2 b3).2 → b3 / 64 = 2) ∧ (Lib.decodeN n b0 b1 b2 b3).2 ≤ 4 := by
  unfold Lib.decodeN
  repeat' split
  all_goals (simp only; omega)
theorem decodeN_le (n b0 b1 b2 b3 : Nat) (hn : 1 ≤ n) : (Lib.decodeN n b0 b1 b2 b3).2 ≤ n ∧ 1 ≤ (Lib.decodeN n b0 b1 b2 b3).2 := by
  unfold Lib.decodeN
  repeat' split
  all_goals (simp only; omega)
theorem get_bs (s : ByteArray) (i : Nat) (h : i < s.size) : s.get! i = (bs s)[i]'(by rw [bs_length]; exact h) := by
  have h2 : i < s.data.size := h
  show s.data[i]! = s.data.toList[i]
  rw [getElem!_pos s.data i h2]; rfl
/-- a rune at pos: a comma just where the byte is one, and then one byte wide; else no comma in it -/
theorem rune_at (s : ByteArray) (pos : Nat) (h : pos < s.size) :
    pos + (Utf8.decode s pos).2 ≤ s.size ∧ 1 ≤ (Utf8.decode s pos).2 ∧
    ((Utf8.decode s pos).1 = 44 → s.get! pos = 44 ∧ (Utf8.decode s pos).2 = 1) ∧
    ((Utf8.decode s pos).1 ≠ 44 → ∀ j, pos ≤ j → j < pos + (Utf8.decode s pos).2 → s.get! j ≠ 44) := by
  rw [Lib.decode_at]
  have h1 := decodeN_le (s.size - pos) (s.get! pos).toNat (s.get! (pos + 1)).toNat (s.get! (pos + 2)).toNat (s.get! (pos + 3)).toNat (by omega)
  have h2 := decodeN_rest (s.size - pos) (s.get! pos).toNat (s.get! (pos + 1)).toNat (s.get! (pos + 2)).toNat (s.get! (pos + 3)).toNat
  have h3 := decodeN_comma (s.size - pos) (s.get! pos).toNat (s.get! (pos + 1)).toNat (s.get! (pos + 2)).toNat (s.get! (pos + 3)).toNat
  refine ⟨by omega, h1.2, fun e => ⟨UInt8.toNat_inj.1 (h3 e).1, (h3 e).2⟩, fun hne j hj1 hj2 e => ?_⟩
  have e' : (s.get! j).toNat = 44 := by rw [e]; rfl
  by_cases j0 : j = pos
  · subst j0
    exact hne (by rw [decodeN_low _ _ _ _ _ (by omega)]; exact e')
  by_cases j1 : j = pos + 1
  · subst j1
    have := h2.1 (by omega)
    omega
  by_cases j2 : j = pos + 2
  · subst j2
    have := h2.2.1 (by omega)
    omega
  · obtain rfl : j = pos + 3 := by have := h2.2.2.2; omega
    have := h2.2.2.1 (by omega)
    omega
def isComma (r : Nat) : Bool := decide (r = 44)
/-- the piece of a span -/
def cutBs (s : ByteArray) (x : Nat × Nat) : Bs := ((bs s).drop x.1).take (x.2 - x.1)
theorem spans_pieces (s : ByteArray) : ∀ (f pos : Nat) (st : Option Nat) (acc : List (Nat × Nat)) (a : Nat), a = st.getD pos → a ≤ pos → (∀ b, st = some b → b < pos) → pos ≤ s.size → s.size ≤ pos + f → (∀ j, a ≤ j → j < pos → s.get! j ≠ 44) →
    (Lib.closeSpans s (Lib.spansFromP isComma s f pos st acc)).map (cutBs s) = acc.map (cutBs s) ++ pieces ((bs s).drop a) := by
  intro f
  induction f with
  | zero =>
    intro pos st acc a ha hap hst hps hsz hno
    obtain rfl : pos = s.size := by omega
    have hfree : ∀ c ∈ (bs s).drop a, c ≠ 44 := by
      intro c hc
      obtain ⟨j, hj, rfl⟩ := List.mem_iff_getElem.1 hc
      rw [List.length_drop, bs_length] at hj
      rw [List.getElem_drop, ← get_bs s (a + j) (by omega)]
      exact hno _ (by omega) (by omega)
    unfold pieces
    rw [splitOn_none 44 _ hfree]
    cases st with
    | none =>
      simp only [Option.getD] at ha
      subst ha
      have : (bs s).drop s.size = [] := List.drop_of_length_le (by rw [bs_length]; exact Nat.le_refl _)
      rw [this]
      simp [Lib.spansFromP, Lib.closeSpans]
    | some b =>
      simp only [Option.getD] at ha
      subst ha
      have hb := hst a rfl
      have hne : (bs s).drop a ≠ [] := by
        intro e
        have := congrArg List.length e
        rw [List.length_drop, bs_length] at this
        simp at this
        omega
      simp only [Lib.spansFromP, Lib.closeSpans, List.map_append, List.map_cons, List.map_nil, List.filter_cons, List.filter_nil]
      have e2 : cutBs s (a, s.size) = (bs s).drop a := by
        unfold cutBs
        exact List.take_of_length_le (by rw [List.length_drop, bs_length]; exact Nat.le_refl _)
      rw [e2]
      cases hd : (bs s).drop a with
      | nil => exact absurd hd hne
      | cons _ _ => simp
  | succ f ih =>
    intro pos st acc a ha hap hst hps hsz hno
    by_cases hlt : pos < s.size
    · obtain ⟨r1, r2, r3, r4⟩ := rune_at s pos hlt
      unfold Lib.spansFromP
      rw [if_pos hlt]
      by_cases hc : (Utf8.decode s pos).1 = 44
      · obtain ⟨q1, q2⟩ := r3 hc
        rw [show isComma (Utf8.decode s pos).1 = true by unfold isComma; simp [hc], if_pos rfl, q2]
        have hsplit : (bs s).drop a = ((bs s).drop a).take (pos - a) ++ 44 :: (bs s).drop (pos + 1) := by
          have h1 : ((bs s).drop a).drop (pos - a) = (bs s).drop pos := by rw [List.drop_drop]; congr 1; omega
          have h2 : (bs s).drop pos = 44 :: (bs s).drop (pos + 1) := by
            rw [List.drop_eq_getElem_cons (by rw [bs_length]; exact hlt), ← get_bs s pos hlt, q1]
          rw [← h2, ← h1, List.take_append_drop]
        have hfree : ∀ c ∈ ((bs s).drop a).take (pos - a), c ≠ 44 := by
          intro c hc
          obtain ⟨j, hj, rfl⟩ := List.mem_iff_getElem.1 hc
          rw [List.length_take, List.length_drop, bs_length] at hj
          rw [List.getElem_take, List.getElem_drop, ← get_bs s (a + j) (by omega)]
          exact hno _ (by omega) (by omega)
        have hp : pieces ((bs s).drop a) = (if ((bs s).drop a).take (pos - a) = [] then [] else [((bs s).drop a).take (pos - a)]) ++ pieces ((bs s).drop (pos + 1)) := by
          unfold pieces
          rw [hsplit, splitOn_first 44 _ _ hfree, List.filter_cons]
          have e9 : (((bs s).drop a).take (pos - a) ++ 44 :: (bs s).drop (pos + 1)).take (pos - a) = ((bs s).drop a).take (pos - a) := by rw [← hsplit]
          rw [e9]
          cases hd : ((bs s).drop a).take (pos - a) with
          | nil => simp
          | cons _ _ => simp
        rw [hp]
        cases st with
        | none =>
          simp only [Option.getD] at ha
          subst ha
          have := ih (a + 1) none acc (a + 1) rfl (Nat.le_refl _) (fun b h => by cases h) (by omega) (by omega) (fun j h1 h2 => by omega)
          simp only
          rw [this]
          simp
        | some b =>
          simp only [Option.getD] at ha
          subst ha
          have hb := hst a rfl
          have := ih (pos + 1) none (acc ++ [(a, pos)]) (pos + 1) rfl (Nat.le_refl _) (fun b h => by cases h) (by omega) (by omega) (fun j h1 h2 => by omega)
          simp only
          rw [this]
          have hne : ((bs s).drop a).take (pos - a) ≠ [] := by
            intro e
            have := congrArg List.length e
            rw [List.length_take, List.length_drop, bs_length] at this
            simp at this
            omega
          rw [if_neg hne, List.map_append, List.append_assoc]
          rfl
      · rw [show isComma (Utf8.decode s pos).1 = false by unfold isComma; simp [hc]]
        have hno' : ∀ j, a ≤ j → j < pos + (Utf8.decode s pos).2 → s.get! j ≠ 44 := by
          intro j h1 h2
          by_cases hj : j < pos
          · exact hno j h1 hj
          · exact r4 hc j (by omega) h2
        cases st with
        | none =>
          simp only [Option.getD] at ha
          subst ha
          exact ih _ (some a) acc a rfl (by omega) (fun b h => by cases h; omega) r1 (by omega) hno'
        | some b =>
          simp only [Option.getD] at ha
          subst ha
          exact ih _ (some a) acc a rfl (by omega) (fun c h => by have := hst c h; omega) r1 (by omega) hno'
    · obtain rfl : pos = s.size := by omega
      have := ih s.size st acc a ha hap hst (Nat.le_refl _) (by omega) hno
      rw [Lib.spansFromP_end _ _ _ _ _ _ (by omega)] at this ⊢
      exact this
theorem fields_pieces (s : ByteArray) : (Lib.goFieldsP isComma s).map bs = pieces (bs s) := by
  have := spans_pieces s s.size 0 none [] 0 rfl (Nat.le_refl _) (fun b h => by cases h) (Nat.zero_le _) (by omega) (fun j h1 h2 => by omega)
  simp only [List.map_nil, List.nil_append, List.drop_zero] at this
  rw [← this]
  unfold Lib.goFieldsP Lib.spansOfP
  rw [List.map_map]
  refine List.map_congr_left fun x _ => ?_
  show bs (s.extract x.1 x.2) = cutBs s x
  unfold bs cutBs
  simp [bs]
end M
end Go.Proofs.YtjipjhpehfbpkaaDoor
