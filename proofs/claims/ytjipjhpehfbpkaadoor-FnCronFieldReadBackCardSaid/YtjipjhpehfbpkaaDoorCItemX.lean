/-
  spec.cronItemText.
-/
import Derived.Test.YtjipjhpehfbpkaaDoorCItemT
import Derived.Deep.DeepCutAuto
namespace Go.Proofs.YtjipjhpehfbpkaaDoor
open Go.RowKit
set_option maxRecDepth 100000
set_option linter.unusedVariables false

/-- no sign but those of an item stands in the text -/
def Free (l : M.Bs) : Prop := l ≠ [] ∧ ∀ c ∈ l, c ≠ 44
theorem free_cl {p : M.Bs} (h : M.Cl p) : ∀ c ∈ p, c ≠ 44 := h.ne 44 (by decide)
theorem ion_nil (k : Nat) : M.ion (M.bdOf k).nm [] = none := by
  rcases k with _ | _ | _ | _ | _ | k <;> rfl
theorem ValT.ne {k v : Nat} {t : ByteArray} (h : ValT k v t) : M.bs t ≠ [] := fun e => by
  have := h.is
  rw [e, ion_nil] at this
  cases this
/-- an item of the printer: its text means the values v, v + st .. up to last, and they are in the set -/
structure ItemT (f : Nat → Bool) (k v last st : Nat) (t : ByteArray) : Prop where
  small : t.size ≤ 120
  free : Free (M.bs t)
  st1 : 1 ≤ st
  st2 : st ≤ 12
  lo : v ≤ last
  hi : last ≤ (M.bdOf k).mx
  is : M.item (M.bdOf k) (M.bs t) = some (M.gbits v last st)
  sub : ∀ u, v ≤ u → u ≤ last → (u - v) % st = 0 → f (1 + u) = true
theorem gbits_end {v mx last st : Nat} (h1 : v ≤ last) (h2 : last ≤ mx) (hm : (last - v) % st = 0) (h : mx < last + st) : M.gbits v mx st = M.gbits v last st := by
  apply Nat.eq_of_testBit_eq
  intro i
  rw [M.gbits_test, M.gbits_test, decide_eq_decide]
  constructor
  · rintro ⟨a, b, c, d⟩
    refine ⟨a, b, ?_, d⟩
    obtain ⟨x, hx⟩ := Nat.dvd_of_mod_eq_zero hm
    obtain ⟨y, hy⟩ := Nat.dvd_of_mod_eq_zero d
    have h3 : st * y < st * (x + 1) := by rw [Nat.mul_add, Nat.mul_one]; omega
    have h4 : y < x + 1 := Nat.lt_of_mul_lt_mul_left h3
    have h5 : st * y ≤ st * x := Nat.mul_le_mul_left st (by omega)
    omega
  · rintro ⟨a, b, c, d⟩
    exact ⟨a, b, by omega, d⟩
/-- the values up to the last one are those of the run -/
theorem run_sub {f : Nat → Bool} {v st high n last : Nat} (h : RunIn f v st high n) (hn : 1 ≤ n) (hs : 1 ≤ st) (hl : last < v + (n - 1) * st + st) : ∀ u, v ≤ u → u ≤ last → (u - v) % st = 0 → f (1 + u) = true := by
  intro u h1 h2 h3
  obtain ⟨y, hy⟩ := Nat.dvd_of_mod_eq_zero h3
  have h4 : st * y < st * n := by
    have e : (n - 1) * st + st = n * st := by
      obtain ⟨m, rfl⟩ : ∃ m, n = m + 1 := ⟨n - 1, by omega⟩
      rw [Nat.add_mul, Nat.one_mul]; rfl
    rw [Nat.mul_comm st n]
    omega
  have h5 := (h y (Nat.lt_of_mul_lt_mul_left h4)).2
  rw [Nat.mul_comm] at hy
  rw [← hy] at h5
  rw [show v + (u - v) = u by omega] at h5
  exact h5
/-- a slash and a number -/
def ByT (st : Nat) (b : ByteArray) : Prop := b.size ≤ 31 ∧ ∃ d, M.bs b = 47 :: d ∧ M.digits d = true ∧ M.num d = some st
theorem byT_num {st : Nat} (hs : st ≤ 2147483647) {z : ByteArray} (hz : z.size ≤ 9) (h : M.bs z = List.replicate z.size 48) : ByT st (⟨#[47]⟩ ++ (z ++ dec st)) := by
  obtain ⟨h1, h2⟩ := num_rep z.size st (by omega)
  refine ⟨?_, _, ?_, h2, h1⟩
  · have := dec_twenty st hs
    simp only [ByteArray.size_append]
    show 1 + (z.size + (dec st).size) ≤ 31
    omega
  · rw [M.bs_append, M.bs_append, h, dec_bs]
    rfl
theorem ByT.free {st : Nat} {b : ByteArray} (h : ByT st b) : ∀ c ∈ M.bs b, c ≠ 44 := by
  obtain ⟨-, d, e, hd, -⟩ := h
  rw [e]
  intro c hc
  rcases List.mem_cons.1 hc with rfl | h1
  · decide
  · exact M.digits_ne hd 44 rfl c h1
theorem free_app {a b : M.Bs} (h : a ≠ []) (ha : ∀ c ∈ a, c ≠ 44) (hb : ∀ c ∈ b, c ≠ 44) : Free (a ++ b) := ⟨fun e => h (List.append_eq_nil_iff.1 e).1, fun c hc => (List.mem_append.1 hc).elim (ha c) (hb c)⟩
theorem itemT_one {f : Nat → Bool} {k v : Nat} {t : ByteArray} (h : ValT k v t) (h1 : (M.bdOf k).mn ≤ v) (h2 : v ≤ (M.bdOf k).mx) (hv : f (1 + v) = true) : ItemT f k v v 1 t := by
  refine ⟨by have := h.small; omega, ⟨h.ne, free_cl h.clean⟩, Nat.le_refl _, by omega, Nat.le_refl _, h2, ?_, fun u a b _ => ?_⟩
  · rw [M.vone h.clean h.is, M.fin_ok h1 (Nat.le_refl _) h2 (Nat.le_refl _)]
  · rw [show u = v by omega]; exact hv
/-- the run up to its n-th value -/
structure RunT (f : Nat → Bool) (k v st last : Nat) : Prop where
  st1 : 1 ≤ st
  st2 : st ≤ 12
  lo : v ≤ last
  hi : last ≤ (M.bdOf k).mx
  sub : ∀ u, v ≤ u → u ≤ last → (u - v) % st = 0 → f (1 + u) = true
/-- the last value of the run is the last one of the field -/
def EndT (k v st last : Nat) : Prop := (last - v) % st = 0 ∧ (M.bdOf k).mx < last + st
theorem itemT_star {f : Nat → Bool} {k v st last : Nat} {b : ByteArray} (hr : RunT f k v st last) (he : EndT k v st last) (hb : ByT st b) (hv : v = (M.bdOf k).mn) (hs : 1 < st) : ItemT f k v last st (⟨#[42]⟩ ++ b) := by
  obtain ⟨hz, d, e, hd, hn⟩ := hb
  have e2 : M.bs (⟨#[42]⟩ ++ b) = 42 :: 47 :: d := by rw [M.bs_append, e]; rfl
  have hl := hr.lo
  have hh := hr.hi
  refine ⟨by rw [ByteArray.size_append]; show 1 + _ ≤ _; omega, ?_, hr.st1, hr.st2, hr.lo, hr.hi, ?_, hr.sub⟩
  · rw [e2]
    refine ⟨by simp, fun c hc => ?_⟩
    rcases List.mem_cons.1 hc with rfl | hc
    · decide
    rcases List.mem_cons.1 hc with rfl | hc
    · decide
    · exact M.digits_ne hd 44 rfl c hc
  · rw [e2, M.vstar hd hn, show decide (st ≤ 1) = false by simp; omega, M.fin_ok (Nat.le_refl _) (by omega) (Nat.le_refl _) hr.st1, ← hv, gbits_end hr.lo hr.hi he.1 he.2]
theorem itemT_by {f : Nat → Bool} {k v st last : Nat} {t b : ByteArray} (hr : RunT f k v st last) (he : EndT k v st last) (ht : ValT k v t) (hb : ByT st b) (h1 : (M.bdOf k).mn ≤ v) : ItemT f k v last st (t ++ b) := by
  have hbf := hb.free
  obtain ⟨hz, d, e, hd, hn⟩ := hb
  have hl := hr.lo
  have hh := hr.hi
  have hts := ht.small
  refine ⟨by rw [ByteArray.size_append]; omega, ?_, hr.st1, hr.st2, hr.lo, hr.hi, ?_, hr.sub⟩
  · rw [M.bs_append]
    exact free_app ht.ne (free_cl ht.clean) hbf
  · rw [M.bs_append, e, M.vby ht.clean ht.is hd hn, M.fin_ok h1 (by omega) (Nat.le_refl _) hr.st1, gbits_end hr.lo hr.hi he.1 he.2]
theorem dash_bs {t q : ByteArray} : M.bs ((t ++ ⟨#[45]⟩) ++ q) = M.bs t ++ 45 :: M.bs q := by
  rw [M.bs_append, M.bs_append, List.append_assoc]
  rfl
theorem free_dash {k v l : Nat} {t q : ByteArray} (ht : ValT k v t) (hq : ValT k l q) : ∀ c ∈ 45 :: M.bs q, c ≠ 44 := by
  intro c hc
  rcases List.mem_cons.1 hc with rfl | hc
  · decide
  · exact free_cl hq.clean c hc
theorem itemT_range {f : Nat → Bool} {k v last : Nat} {t q : ByteArray} (hr : RunT f k v 1 last) (ht : ValT k v t) (hq : ValT k last q) (h1 : (M.bdOf k).mn ≤ v) : ItemT f k v last 1 ((t ++ ⟨#[45]⟩) ++ q) := by
  have hts := ht.small
  have hqs := hq.small
  refine ⟨by rw [ByteArray.size_append, ByteArray.size_append]; show _ + 1 + _ ≤ _; omega, ?_, hr.st1, hr.st2, hr.lo, hr.hi, ?_, hr.sub⟩
  · rw [dash_bs]
    exact free_app ht.ne (free_cl ht.clean) (free_dash ht hq)
  · rw [dash_bs, M.vrange ht.clean hq.clean ht.is hq.is, M.fin_ok h1 hr.lo hr.hi (Nat.le_refl _)]
theorem itemT_step {f : Nat → Bool} {k v st last : Nat} {t q b : ByteArray} (hr : RunT f k v st last) (ht : ValT k v t) (hq : ValT k last q) (hb : ByT st b) (h1 : (M.bdOf k).mn ≤ v) : ItemT f k v last st (((t ++ ⟨#[45]⟩) ++ q) ++ b) := by
  have hbf := hb.free
  obtain ⟨hz, d, e, hd, hn⟩ := hb
  have hts := ht.small
  have hqs := hq.small
  refine ⟨by rw [ByteArray.size_append, ByteArray.size_append, ByteArray.size_append]; show _ + 1 + _ + _ ≤ _; omega, ?_, hr.st1, hr.st2, hr.lo, hr.hi, ?_, hr.sub⟩
  · rw [M.bs_append, dash_bs]
    exact free_app (fun e => ht.ne (List.append_eq_nil_iff.1 e).1) (fun c hc => (List.mem_append.1 hc).elim (free_cl ht.clean c) (free_dash ht hq c)) hbf
  · rw [M.bs_append, dash_bs, e, M.vstep ht.clean hq.clean ht.is hq.is hd hn, M.fin_ok h1 hr.lo hr.hi hr.st1]
end Go.Proofs.YtjipjhpehfbpkaaDoor
