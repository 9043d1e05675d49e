/-
  A list of items that mean a set: plain facts.
-/
import Derived.Test.YtjipjhpehfbpkaaDoorCItemX
namespace Go.Proofs.YtjipjhpehfbpkaaDoor
open Go.RowKit
set_option linter.unusedVariables false

/-- an item that means values of the set alone -/
structure ItemG (f : Nat → Bool) (k : Nat) (p : ByteArray) : Prop where
  small : p.size ≤ 120
  free : Free (M.bs p)
  is : ∃ m, M.item (M.bdOf k) (M.bs p) = some m ∧ (∀ u, u < 63 → m.testBit u = true → f (1 + u) = true) ∧ (m.testBit 63 = true → f 0 = true)
/-- an item of the list means the value -/
def Has (k : Nat) (L : List ByteArray) (u : Nat) : Prop := ∃ p ∈ L, ∃ m, M.item (M.bdOf k) (M.bs p) = some m ∧ m.testBit u = true
theorem Has.mono {k : Nat} {L L' : List ByteArray} {u : Nat} (h : Has k L u) (hs : ∀ p, p ∈ L → p ∈ L') : Has k L' u := by
  obtain ⟨p, hp, r⟩ := h
  exact ⟨p, hs p hp, r⟩
/-- f is the set of a field -/
structure SetK (f : Nat → Bool) (k : Nat) : Prop where
  dom : ∀ u, f (1 + u) = true → (M.bdOf k).mn ≤ u ∧ u ≤ (M.bdOf k).mx
  star : f 0 = true → ∀ u, (M.bdOf k).mn ≤ u → u ≤ (M.bdOf k).mx → f (1 + u) = true
theorem ItemT.good {f : Nat → Bool} {k v last st : Nat} {t : ByteArray} (h : ItemT f k v last st t) : ItemG f k t := by
  refine ⟨h.small, h.free, _, h.is, fun u hu ht => ?_, fun ht => ?_⟩
  · rw [M.gbits_test, decide_eq_true_eq] at ht
    exact h.sub u ht.2.1 ht.2.2.1 ht.2.2.2
  · rw [M.gbits_test, decide_eq_true_eq] at ht
    have := (bd_le k).1
    have := h.hi
    omega
theorem ItemT.has {f : Nat → Bool} {k v last st : Nat} {t : ByteArray} (h : ItemT f k v last st t) {u : Nat} (h1 : v ≤ u) (h2 : u ≤ last) (h3 : (u - v) % st = 0) : Has k [t] u := by
  refine ⟨t, List.mem_cons_self, _, h.is, ?_⟩
  rw [M.gbits_test, decide_eq_true_eq]
  have := (bd_le k).1
  have := h.hi
  exact ⟨by omega, h1, h2, h3⟩
/-- what a star means -/
theorem starT_item {k : Nat} {t : ByteArray} (h : StarT k t) : M.item (M.bdOf k) (M.bs t) = some (M.gbits (M.bdOf k).mn (M.bdOf k).mx 1 ||| 9223372036854775808) := by
  obtain ⟨-, c, r, e, hc, hr⟩ := h
  have hb : M.fin (M.bdOf k) (M.bdOf k).mn (M.bdOf k).mx 1 true = some (M.gbits (M.bdOf k).mn (M.bdOf k).mx 1 ||| 9223372036854775808) := by
    unfold M.fin
    rw [if_neg (by rcases k with _ | _ | _ | _ | _ | k <;> (show ¬ ((_ : Nat) < _ ∨ (_ : Nat) < _ ∨ (_ : Nat) < _ ∨ (1 : Nat) = 0); simp [M.bdOf]))]
    rfl
  have c47 : c ≠ 47 := by rcases hc with rfl | ⟨rfl, -⟩ <;> decide
  have c45 : c ≠ 45 := by rcases hc with rfl | ⟨rfl, -⟩ <;> decide
  have e45 : M.splitOn 45 [c] = [[c]] := M.splitOn_none 45 [c] (fun x hx => by rw [List.mem_singleton.1 hx]; exact c45)
  have he : M.ends (M.bdOf k) (M.splitOn 45 [c]) = some ((M.bdOf k).mn, (M.bdOf k).mx, true) := by
    rw [e45]
    exact M.ends_star (by rcases hc with rfl | ⟨rfl, -⟩ <;> simp)
  rcases hr with rfl | ⟨d, rfl, hd, hn⟩
  · rw [e, M.item_bare (M.splitOn_none 47 [c] (fun x hx => by rw [List.mem_singleton.1 hx]; exact c47)) he, hb]
  · have := M.item_by (b := M.bdOf k) (l := [c] ++ 47 :: d) (h := [c]) (t := d) (by rw [M.splitOn_first 47 [c] d (fun x hx => by rw [List.mem_singleton.1 hx]; exact c47), M.splitOn_none 47 d (M.digits_ne hd 47 rfl)]) he hn
    rw [e]
    refine this.trans ?_
    rw [e45]
    exact hb
theorem two63 (u : Nat) : (9223372036854775808 : Nat).testBit u = decide (u = 63) := by
  rw [show (9223372036854775808 : Nat) = 2 ^ 63 from rfl, Nat.testBit_two_pow, decide_eq_decide]
  exact ⟨fun h => h.symm, fun h => h.symm⟩
theorem starT_good {f : Nat → Bool} {k : Nat} {t : ByteArray} (h : StarT k t) (hf : SetK f k) (h0 : f 0 = true) : ItemG f k t := by
  have hi := starT_item h
  obtain ⟨hz, c, r, e, hc, hr⟩ := h
  refine ⟨by omega, ?_, _, hi, fun u hu ht => ?_, fun _ => h0⟩
  · rw [e]
    refine ⟨by simp, fun x hx => ?_⟩
    rcases List.mem_cons.1 hx with rfl | hx
    · rcases hc with rfl | ⟨rfl, -⟩ <;> decide
    · rcases hr with rfl | ⟨d, rfl, hd, -⟩
      · cases hx
      · rcases List.mem_cons.1 hx with rfl | hx
        · decide
        · exact M.digits_ne hd 44 rfl x hx
  · rw [Nat.testBit_or, Bool.or_eq_true, M.gbits_test, two63, decide_eq_true_eq, decide_eq_true_eq] at ht
    rcases ht with ht | ht
    · exact hf.star h0 u ht.2.1 ht.2.2.1
    · omega
theorem starT_has {k : Nat} {t : ByteArray} (h : StarT k t) {u : Nat} (h1 : (M.bdOf k).mn ≤ u ∧ u ≤ (M.bdOf k).mx ∨ u = 63) : Has k [t] u := by
  refine ⟨t, List.mem_cons_self, _, starT_item h, ?_⟩
  rw [Nat.testBit_or, Bool.or_eq_true, M.gbits_test, two63, decide_eq_true_eq, decide_eq_true_eq]
  have := (bd_le k).1
  rcases h1 with h1 | h1
  · exact .inl ⟨by omega, h1.1, h1.2, Nat.mod_one _⟩
  · exact .inr h1
/-- the items so far, and the values that are left -/
structure CovT (f : Nat → Bool) (k : Nat) (L : List ByteArray) (g : Nat → Bool) (V : Nat) : Prop where
  items : ∀ p, p ∈ L → ItemG f k p
  cov : ∀ u, f (1 + u) = true → Has k L u ∨ (V ≤ u ∧ g (1 + u) = true)
  sub : ∀ u, g (1 + u) = true → f (1 + u) = true
  star : f 0 = true → Has k L 63 ∧ ∀ u, f (1 + u) = true → Has k L u
  len : L.length ≤ 1 + 2 * V
theorem CovT.start {f : Nat → Bool} {k V : Nat} (hf : SetK f k) (h0 : f 0 = false) (hV : (M.bdOf k).mn = V) : CovT f k [] f V :=
  ⟨(fun p hp => by cases hp), fun u hu => .inr ⟨by rw [← hV]; exact (hf.dom u hu).1, hu⟩, fun u hu => hu, (fun h => by rw [h0] at h; cases h), Nat.zero_le _⟩
theorem CovT.startS {f : Nat → Bool} {k V : Nat} (hf : SetK f k) (h0 : f 0 = true) {t : ByteArray} (ht : StarT k t) : CovT f k [t] f V :=
  ⟨(fun p hp => by rw [List.mem_singleton.1 hp]; exact starT_good ht hf h0), fun u hu => .inl (starT_has ht (.inl (hf.dom u hu))), fun u hu => hu, fun _ => ⟨starT_has ht (.inr rfl), fun u hu => starT_has ht (.inl (hf.dom u hu))⟩, by show 1 ≤ _; omega⟩
/-- a value that is not left -/
theorem CovT.skip {f : Nat → Bool} {k V : Nat} {L : List ByteArray} {g : Nat → Bool} (h : CovT f k L g V) (hg : g (1 + V) = false ∨ f 0 = true) : CovT f k L g (V + 1) :=
  ⟨h.items, fun u hu => by
    rcases hg with hg | hg
    · rcases h.cov u hu with h1 | ⟨h1, h2⟩
      · exact .inl h1
      · refine .inr ⟨?_, h2⟩
        rcases Nat.lt_or_ge V u with h3 | h3
        · exact h3
        · obtain rfl : u = V := by omega
          rw [hg] at h2; cases h2
    · exact .inl ((h.star hg).2 u hu), h.sub, h.star, by have := h.len; omega⟩
/-- the values of an item are taken away -/
structure CutT (g : Nat → Bool) (V last st : Nat) (h : Nat → Bool) (x : Nat) : Prop where
  sub : ∀ i, h i = true → g i = true
  cov : ∀ u, g (1 + u) = true → h (1 + u) = true ∨ (V ≤ u ∧ u ≤ last ∧ (u - V) % st = 0)
  out : x ≠ V → h (1 + V) = false
  lo : V ≤ x
  mod : (x - V) % st = 0
theorem CutT.start (g : Nat → Bool) (V last st : Nat) : CutT g V last st g V := ⟨fun _ h => h, fun _ h => .inl h, fun h => absurd rfl h, Nat.le_refl _, by rw [Nat.sub_self, Nat.zero_mod]⟩
theorem CutT.step {g h : Nat → Bool} {V last st x : Nat} (c : CutT g V last st h x) (hx : x ≤ last) (hs : 1 ≤ st) : CutT g V last st (fun i => if i = 1 + x then false else h i) (x + st) := by
  refine ⟨fun i hi => ?_, fun u hu => ?_, fun _ => ?_, by have := c.lo; omega, M.GB.mod c.lo c.mod⟩
  · by_cases e : i = 1 + x
    · simp [e] at hi
    · simp only [e, if_false] at hi
      exact c.sub i hi
  · by_cases e : u = x
    · subst e
      exact .inr ⟨c.lo, hx, c.mod⟩
    · simp only [show ¬ (1 + u = 1 + x) by omega, if_false]
      exact c.cov u hu
  · by_cases e : V = x
    · simp [e]
    · simp only [show ¬ (1 + V = 1 + x) by omega, if_false]
      exact c.out (fun q => e q.symm)
theorem CovT.add {f : Nat → Bool} {k V last st x : Nat} {L L' : List ByteArray} {g h : Nat → Bool} {t : ByteArray} (c : CovT f k L g V) (d : CutT g V last st h x) (hx : last < x) (ht : ItemT f k V last st t)
    (hL : ∀ p, p ∈ L' ↔ p ∈ L ∨ p = t) (hl : L'.length ≤ L.length + 2) : CovT f k L' h (V + 1) := by
  have hm : ∀ p, p ∈ L → p ∈ L' := fun p hp => (hL p).2 (.inl hp)
  have h1 : ∀ p, p ∈ [t] → p ∈ L' := fun p hp => (hL p).2 (.inr (List.mem_singleton.1 hp))
  refine ⟨fun p hp => ?_, fun u hu => ?_, fun u hu => c.sub u (d.sub _ hu), fun h0 => ⟨(c.star h0).1.mono hm, fun u hu => ((c.star h0).2 u hu).mono hm⟩, by have := c.len; omega⟩
  · rcases (hL p).1 hp with hp | rfl
    · exact c.items p hp
    · exact ht.good
  · rcases c.cov u hu with hc | ⟨hV, hg⟩
    · exact .inl (hc.mono hm)
    · rcases d.cov u hg with hh | ⟨a, b, e⟩
      · refine .inr ⟨?_, hh⟩
        rcases Nat.lt_or_ge V u with h3 | h3
        · exact h3
        · obtain rfl : u = V := by omega
          have := d.out (by have := ht.lo; omega)
          rw [this] at hh; cases hh
      · exact .inl ((ht.has a b e).mono h1)
/-- a list whose items mean the set -/
structure DoneT (f : Nat → Bool) (k : Nat) (L : List ByteArray) : Prop where
  items : ∀ p, p ∈ L → ItemG f k p
  cov : ∀ u, f (1 + u) = true → Has k L u
  star : f 0 = true → Has k L 63
  len : L.length ≤ 130
theorem CovT.done {f : Nat → Bool} {k V : Nat} {L : List ByteArray} {g : Nat → Bool} (c : CovT f k L g V) (hf : SetK f k) (hV : (M.bdOf k).mx < V) (h63 : V ≤ 63) : DoneT f k L :=
  ⟨c.items, fun u hu => (c.cov u hu).elim id fun ⟨h1, _⟩ => by have := (hf.dom u hu).2; omega, fun h => (c.star h).1, by have := c.len; omega⟩
theorem DoneT.perm {f : Nat → Bool} {k : Nat} {L L' : List ByteArray} (c : DoneT f k L) (h : ∀ p, p ∈ L' ↔ p ∈ L) (hl : L'.length = L.length) : DoneT f k L' :=
  ⟨fun p hp => c.items p ((h p).1 hp), fun u hu => (c.cov u hu).mono fun p hp => (h p).2 hp, fun h0 => (c.star h0).mono fun p hp => (h p).2 hp, by rw [hl]; exact c.len⟩
theorem fieldL_or (b : M.Bd) : ∀ (L : List M.Bs) (acc : Nat), (∀ p, p ∈ L → ∃ m, M.item b p = some m) → ∃ n, M.fieldL b acc L = some n ∧ ∀ i, n.testBit i = true ↔ (acc.testBit i = true ∨ ∃ p ∈ L, ∃ m, M.item b p = some m ∧ m.testBit i = true)
  | [], acc, _ => ⟨acc, rfl, fun i => by simp⟩
  | p :: L, acc, h => by
    obtain ⟨m, hm⟩ := h p List.mem_cons_self
    obtain ⟨n, hn, hb⟩ := fieldL_or b L (acc ||| m) (fun q hq => h q (List.mem_cons_of_mem _ hq))
    refine ⟨n, ?_, fun i => ?_⟩
    · show (match M.item b p with | none => none | some x => M.fieldL b (acc ||| x) L) = _
      rw [hm]
      exact hn
    · rw [hb i, Nat.testBit_or, Bool.or_eq_true]
      constructor
      · rintro ((h1 | h1) | ⟨q, hq, r⟩)
        · exact .inl h1
        · exact .inr ⟨p, List.mem_cons_self, m, hm, h1⟩
        · exact .inr ⟨q, List.mem_cons_of_mem _ hq, r⟩
      · rintro (h1 | ⟨q, hq, m', hm', hb'⟩)
        · exact .inl (.inl h1)
        · rcases List.mem_cons.1 hq with rfl | hq
          · rw [hm] at hm'
            obtain rfl := Option.some.inj hm'
            exact .inl (.inr hb')
          · exact .inr ⟨q, hq, m', hm', hb'⟩
/-- the list's texts with commas between them are a field that means the set -/
theorem DoneT.field {f : Nat → Bool} {k : Nat} {L : List ByteArray} (c : DoneT f k L) {J : M.Bs} (hJ : J = M.joinWith 44 (L.map M.bs)) : ∃ n, M.field (M.bdOf k) J = some n ∧ SetIs f n := by
  have hp : M.pieces J = L.map M.bs := by
    rw [hJ]
    refine M.pieces_join _ fun q hq => ?_
    obtain ⟨p, hp, rfl⟩ := List.mem_map.1 hq
    exact (c.items p hp).free
  obtain ⟨n, hn, hb⟩ := fieldL_or (M.bdOf k) (L.map M.bs) 0 (fun q hq => by
    obtain ⟨p, hp, rfl⟩ := List.mem_map.1 hq
    obtain ⟨m, hm, -⟩ := (c.items p hp).is
    exact ⟨m, hm⟩)
  refine ⟨n, by unfold M.field; rw [hp]; exact hn, ?_, fun i hi => ?_⟩
  · rw [Bool.eq_iff_iff, hb 63]
    constructor
    · intro h0
      obtain ⟨p, hp, r⟩ := c.star h0
      exact .inr ⟨_, List.mem_map.2 ⟨p, hp, rfl⟩, r⟩
    · rintro (h1 | ⟨q, hq, m, hm, ht⟩)
      · simp at h1
      · obtain ⟨p, hp, rfl⟩ := List.mem_map.1 hq
        obtain ⟨m', hm', _, h63⟩ := (c.items p hp).is
        rw [hm] at hm'
        obtain rfl := Option.some.inj hm'
        exact h63 ht
  · rw [Bool.eq_iff_iff, hb i]
    constructor
    · intro h0
      obtain ⟨p, hp, r⟩ := c.cov i (by rw [Nat.add_comm]; exact h0)
      exact .inr ⟨_, List.mem_map.2 ⟨p, hp, rfl⟩, r⟩
    · rintro (h1 | ⟨q, hq, m, hm, ht⟩)
      · simp at h1
      · obtain ⟨p, hp, rfl⟩ := List.mem_map.1 hq
        obtain ⟨m', hm', hs, _⟩ := (c.items p hp).is
        rw [hm] at hm'
        obtain rfl := Option.some.inj hm'
        rw [Nat.add_comm]
        exact hs i hi ht
end Go.Proofs.YtjipjhpehfbpkaaDoor
