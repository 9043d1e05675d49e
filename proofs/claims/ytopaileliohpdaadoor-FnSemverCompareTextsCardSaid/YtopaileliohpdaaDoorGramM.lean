/-
  The grammar of versions, in plain terms; what it reads, StrictNewVersion reads alike.
-/
import Derived.Test.YtopaileliohpdaaDoorNumLaw
namespace Go.Proofs.YtopaileliohpdaaDoor
open Go.RowKit
set_option maxRecDepth 100000
set_option linter.unusedVariables false

namespace M
def cut1 (x : UInt8) (l : Bs) : Bs := if has x l then before x l else l
def cut2 (x : UInt8) (l : Bs) : Bs := if has x l then after x l else []
def free (x : UInt8) (l : Bs) : Prop := ∀ c ∈ l, c ≠ x
theorem has_free {x : UInt8} {l : Bs} (h : free x l) : has x l = false := by unfold has; rw [idx_none h]; rfl
theorem free_of {x : UInt8} {l : Bs} (h : has x l = false) : free x l := idx_neg (by unfold has at h; rw [decide_eq_false_iff_not] at h; omega)
theorem cut_has {x : UInt8} {l : Bs} (h : has x l = true) : l = cut1 x l ++ x :: cut2 x l ∧ free x (cut1 x l) := by
  have hh := h
  unfold has at h
  rw [decide_eq_true_eq] at h
  obtain ⟨k, hk⟩ := Int.eq_ofNat_of_zero_le h
  obtain ⟨h1, h2, h3⟩ := idx_split hk
  have e1 : cut1 x l = l.take k := by unfold cut1 before; rw [hh, if_pos rfl, hk]; rfl
  have e2 : cut2 x l = l.drop (k + 1) := by unfold cut2 after; rw [hh, if_pos rfl, hk]; rfl
  rw [e1, e2]
  exact ⟨h3, h2⟩
theorem cut_not {x : UInt8} {l : Bs} (h : has x l = false) : cut1 x l = l ∧ cut2 x l = [] := by unfold cut1 cut2; rw [h]; exact ⟨rfl, rfl⟩
theorem cut_joined {x : UInt8} {u r : Bs} (h : free x u) : has x (u ++ x :: r) = true ∧ cut1 x (u ++ x :: r) = u ∧ cut2 x (u ++ x :: r) = r := by
  have hi := idx_joined (q := r) h
  have hh : has x (u ++ x :: r) = true := by unfold has; rw [hi]; simp
  refine ⟨hh, ?_, ?_⟩
  · unfold cut1 before; rw [hh, if_pos rfl, hi]; simp
  · unfold cut2 after; rw [hh, if_pos rfl, hi]; simp
/-- the three parts' texts and whether the tails are valid -/
def coreOf (s : Bs) : Bs := cut1 45 (cut1 43 s)
def tailsOk (s : Bs) : Bool := (!has 43 s || validMeta (cut2 43 s)) && (!has 45 (cut1 43 s) || validPre (cut2 45 (cut1 43 s)))
def gnum (p : Bs) : Bool := fits p && !(decide (1 < p.length) && p.head? == some 48)
def gram (s : Bs) : Option V :=
  if tailsOk s && decide ((splitOn 46 (coreOf s)).length = 3) && (splitOn 46 (coreOf s)).all gnum then
    some ⟨val ((splitOn 46 (coreOf s))[0]?.getD []), val ((splitOn 46 (coreOf s))[1]?.getD []), val ((splitOn 46 (coreOf s))[2]?.getD []), toB (cut2 45 (cut1 43 s)), toB (cut2 43 s)⟩
  else none
theorem gnum_num {p : Bs} (h : gnum p = true) : numOk p = true ∧ fits p = true := by
  unfold gnum at h
  rw [Bool.and_eq_true] at h
  refine ⟨?_, h.1⟩
  unfold numOk
  rw [(fits_all h.1).1, h.2]
  rfl
theorem gnum_free {p : Bs} (h : gnum p = true) (x : UInt8) (hx : isDig x = false) : free x p := by
  have := (fits_all (gnum_num h).2).1
  rw [List.all_eq_true] at this
  intro c hc e
  have h1 := this c hc
  rw [e, hx] at h1
  cases h1
theorem has_append_free {x : UInt8} {u v : Bs} (h : has x (u ++ v) = false) : free x v := fun c hc => free_of h c (List.mem_append_right _ hc)
theorem gram_three {s : Bs} {x : V} (h : gram s = some x) : ∃ a b c, splitOn 46 (coreOf s) = [a, b, c] ∧ tailsOk s = true ∧ gnum a = true ∧ gnum b = true ∧ gnum c = true ∧ x = ⟨val a, val b, val c, toB (cut2 45 (cut1 43 s)), toB (cut2 43 s)⟩ := by
  unfold gram at h
  split at h
  · rename_i hc
    rw [Bool.and_eq_true, Bool.and_eq_true, decide_eq_true_eq] at hc
    obtain ⟨⟨h1, h2⟩, h3⟩ := hc
    generalize splitOn 46 (coreOf s) = L at *
    match L, h2 with
    | [a, b, c], _ =>
      simp only [List.all_cons, List.all_nil, Bool.and_true, Bool.and_eq_true] at h3
      exact ⟨a, b, c, rfl, h1, h3.1, h3.2.1, h3.2.2, (Option.some.inj h).symm⟩
  · cases h
theorem core_joined {s a b c : Bs} (h : splitOn 46 (coreOf s) = [a, b, c]) : coreOf s = a ++ 46 :: (b ++ 46 :: c) := by
  have := join_split 46 (coreOf s)
  rw [h] at this
  rw [← this]
  simp [joinWith]
theorem tail_form (x : UInt8) (l : Bs) : ∃ R, l = cut1 x l ++ R ∧ ((has x l = true ∧ R = x :: cut2 x l ∧ free x (cut1 x l)) ∨ (has x l = false ∧ R = [] ∧ cut2 x l = [] ∧ free x l)) := by
  rcases h : has x l with _ | _
  · exact ⟨[], by rw [(cut_not h).1, List.append_nil], .inr ⟨rfl, rfl, (cut_not h).2, free_of h⟩⟩
  · exact ⟨_, (cut_has h).1, .inl ⟨rfl, rfl, (cut_has h).2⟩⟩
theorem gram_strict {s : Bs} {x : V} (h : gram s = some x) (hl : s.length ≤ 256) : strict s = some x := by
  obtain ⟨a, b, c, h3, ht, ga, gb, gc, rfl⟩ := gram_three h
  have hcore := core_joined h3
  obtain ⟨Q, hQ, hq⟩ := tail_form 43 s
  obtain ⟨P, hP, hp⟩ := tail_form 45 (cut1 43 s)
  have hs : s = a ++ 46 :: (b ++ 46 :: (c ++ (P ++ Q))) := by
    have e1 : cut1 45 (cut1 43 s) = a ++ 46 :: (b ++ 46 :: c) := hcore
    rw [e1] at hP
    rw [hP] at hQ
    rw [hQ]
    simp
  have fa := gnum_free ga 46 (by decide)
  have fb := gnum_free gb 46 (by decide)
  have hsp : splitN 46 2 s = [a, b, c ++ (P ++ Q)] := by
    conv => lhs; rw [hs]
    rw [splitN_joined 1 fa, splitN_joined 0 fb]
    rfl
  rw [strict_three (by rw [hs]; simp) hl hsp]
  have fc3 := gnum_free gc 43 (by decide)
  have fc5 := gnum_free gc 45 (by decide)
  have e1 : cut1 45 (cut1 43 s) = a ++ 46 :: (b ++ 46 :: c) := hcore
  -- the piece ahead of the plus sign has none
  have hfr : free 43 (c ++ P) := by
    have f0 : free 43 (cut1 43 s) := by
      rcases hq with ⟨_, _, f⟩ | ⟨hn, _, _, f⟩
      · exact f
      · rw [(cut_not hn).1]; exact f
    rw [hP, e1] at f0
    intro d hd
    refine f0 d ?_
    rcases List.mem_append.1 hd with hd | hd
    · simp [hd]
    · simp [hd]
  have hm : has 43 (c ++ (P ++ Q)) = has 43 s ∧ cut1 43 (c ++ (P ++ Q)) = c ++ P ∧ cut2 43 (c ++ (P ++ Q)) = cut2 43 s := by
    rw [← List.append_assoc]
    rcases hq with ⟨hh, rfl, _⟩ | ⟨hn, rfl, hc2, _⟩
    · obtain ⟨k1, k2, k3⟩ := cut_joined (r := cut2 43 s) hfr
      exact ⟨k1.trans hh.symm, k2, k3⟩
    · rw [List.append_nil]
      have k := has_free hfr
      exact ⟨k.trans hn.symm, (cut_not k).1, (cut_not k).2.trans hc2.symm⟩
  have hpp : has 45 (c ++ P) = has 45 (cut1 43 s) ∧ cut1 45 (c ++ P) = c ∧ cut2 45 (c ++ P) = cut2 45 (cut1 43 s) := by
    rcases hp with ⟨hh, rfl, _⟩ | ⟨hn, rfl, hc2, _⟩
    · obtain ⟨k1, k2, k3⟩ := cut_joined (r := cut2 45 (cut1 43 s)) fc5
      exact ⟨k1.trans hh.symm, k2, k3⟩
    · rw [List.append_nil]
      have k := has_free fc5
      exact ⟨k.trans hn.symm, (cut_not k).1, (cut_not k).2.trans hc2.symm⟩
  unfold tailsOk at ht
  rw [Bool.and_eq_true] at ht
  have n1 : noMeta (c ++ (P ++ Q)) = c ++ P := hm.2.1
  have n2 : metaOf (c ++ (P ++ Q)) = cut2 43 s := hm.2.2
  have n3 : noPre (c ++ P) = c := hpp.2.1
  have n4 : preOf (c ++ P) = cut2 45 (cut1 43 s) := hpp.2.2
  unfold strictParts
  have c1 : (has 43 (c ++ (P ++ Q)) && !validMeta (after 43 (c ++ (P ++ Q)))) = false := by
    rcases hh : has 43 (c ++ (P ++ Q)) with _ | _
    · rfl
    · have : after 43 (c ++ (P ++ Q)) = cut2 43 s := by
        rw [← hm.2.2]; unfold cut2; rw [hh]; rfl
      rw [this]
      have h1 := ht.1
      rw [← hm.1, hh] at h1
      simpa using h1
  have c2 : (has 45 (c ++ P) && !validPre (after 45 (c ++ P))) = false := by
    rcases hh : has 45 (c ++ P) with _ | _
    · rfl
    · have : after 45 (c ++ P) = cut2 45 (cut1 43 s) := by
        rw [← hpp.2.2]; unfold cut2; rw [hh]; rfl
      rw [this]
      have h1 := ht.2
      rw [← hpp.1, hh] at h1
      simpa using h1
  rw [n1, c1, c2, n2, n3, n4]
  simp only [Bool.false_eq_true, if_false]
  unfold strictNums
  rw [(gnum_num ga).1, (gnum_num ga).2, (gnum_num gb).1, (gnum_num gb).2, (gnum_num gc).1, (gnum_num gc).2]
  rfl
end M
end Go.Proofs.YtopaileliohpdaaDoor
