/-
  laws.refQuoted, laws.refPlain, laws.matchAsked.
-/
import Derived.Test.YtmjipdcohkiblaaDoorMatW
import Derived.Test.YtmjipdcohkiblaaDoorOwn
import Derived.Lib.AppendStr
import Derived.Laws.Runes
import Derived.Laws.IdiomStrings
import Derived.Laws.BytesArg
import Derived.Deep.LoopGhost
namespace Go.Proofs.YtmjipdcohkiblaaDoor
open Go.RowKit
set_option maxRecDepth 100000
set_option linter.unusedVariables false

def byteV (b : UInt8) : Value := .int .u8 (b.toNat : Int)
theorem infoB : (Tryd.prog.info? 5).map (fun i => (i.zero, i.size, i.bytes)) = some (some (.int .u8 0), 1, 1) := by kernel_rfl
/-- slice v is a row of the call's own that holds the bytes l -/
def OwnB (w : World) (base : Nat) (v : Value) (l : M.Bs) : Prop := w.ownsRow base 5 1 v l.length (l.map byteV)
theorem OwnB.nil (w : World) (base : Nat) : OwnB w base (.slice none 0 0) [] := World.ownsRow_nil w base _ 1
theorem OwnB.kept {w w' : World} {base : Nat} {v : Value} {l : M.Bs} (h : OwnB w base v l) (b : Below w.heap.size w w') : OwnB w' base v l :=
  World.ownsRow.kept h (Below.grown b) (by cases hv : v.ownBlock <;> simp)
/-- 'append(v, x)', x a byte -/
theorem append_byte {w : World} {ops : Array Oper} {rest : List Oper} {o : Oper} {a : Act} {Q : Exit → Act → World → Prop} (hgd : o.guard = none) (s x : Operand)
    (ho : o.op = .call { callee := .builtin .append, args := #[s, x], argTypes := #[32, 32] })
    (base : Nat) (v : Value) (l : M.Bs) (hs : a.eval s = v) (hown : OwnB w base v l)
    (g : Nat) (c : Nat) (b : UInt8) (hx : a.eval x = .slice (some ⟨g, 0, none⟩) 1 c) (hcell : w.cell? ⟨g, 0, none⟩ = some (byteV b))
    (hlen : l.length < 1099511627776) (hbase : base ≤ w.heap.size)
    (h : ∀ v' w', OwnB w' base v' (l ++ [b]) → w.grownBy w' v.ownBlock → wpList Tryd.prog ops Q rest (a.put o.dst v') w') : wpList Tryd.prog ops Q (o :: rest) a w := by
  obtain ⟨i0, hi, hz0, hz1, hz2⟩ := info_parts infoB
  refine wpList_append_own w hgd s x 32 ho base 5 i0 (.int .u8 0) 1 1 Tryd.underlying32 hi hz0 hz1 hz2 rfl (by decide) v l.length (l.map byteV) hs hown
    ⟨g, 0, none⟩ 1 c [byteV b] hx rfl ?_ ?_ ?_ ?_ hbase ?_
  · intro j u hj
    cases j with
    | zero => simp at hj; subst hj; exact hcell
    | succ j => simp at hj
  · intro u hu; simp at hu; subst hu; rfl
  · unfold maxLen; omega
  · omega
  · intro v' w' h1 h2 _
    refine h v' w' ?_ h2
    unfold OwnB
    simpa using h1
theorem own_string {w : World} {base : Nat} {v : Value} {l : M.Bs} (h : OwnB w base v l) : (convert 32 9 v).run Tryd.prog w = .ok (.string ⟨l.toArray⟩) w := by
  have h0 := h
  obtain ⟨h1, h2 | ⟨g, cap, cur, rfl, hg, hb, hn, hc, hs, ht⟩⟩ := h
  · obtain ⟨rfl, hn⟩ := h2
    obtain rfl : l = [] := List.length_eq_zero_iff.1 hn
    exact run_convert_bytes_nil w 32 5 Tryd.underlying32 Tryd.underlying5 _ _ _ Tryd.underlying9
  · refine run_convert_bytes_back w 32 9 5 ⟨g, 0, none⟩ cap l Tryd.underlying32 Tryd.underlying5 Tryd.underlying9 fun j hj => ?_
    exact World.ownsRow.cells (g := g) h0 rfl j _ (by simp [byteV, hj])
theorem cell_byte (W : World) (i : Int) (b : UInt8) (t : TypeId) (h : i = (b.toNat : Int)) : (W.alloc (.cells #[.int .u8 i] t)).cell? ⟨W.heap.size, 0, none⟩ = some (byteV b) := by
  subst h
  unfold byteV
  go_simp
namespace M
def lits (l : Bs) : List Mk := l.map fun c => .lit c (special c)
theorem lits_app (l : Bs) (c : UInt8) : enc (lits (l ++ [c])) = enc (lits l) ++ (if special c = true then [92, c] else [c]) := by
  unfold lits
  rw [List.map_append, enc_append]
  congr 1
  cases h : special c <;> simp [enc, Mk.enc, h]
theorem lits_wf {l : Bs} (hl : ∀ c ∈ l, c.toNat < 128) : ∀ m ∈ lits l, m.wf ∧ m.low := by
  intro m hm
  obtain ⟨c, hc, rfl⟩ := List.mem_map.1 hm
  refine ⟨?_, hl c hc⟩
  cases h : special c with
  | true => trivial
  | false => exact h
end M
def QuoRel (s : ByteArray) (w : World) (v i : Value) (wr : World) : Prop := ∃ k : Nat, i = .int .i64 (k : Int) ∧ k ≤ s.size ∧ OwnB wr w.heap.size v (M.enc (M.lits ((M.bs s).take k))) ∧ Below w.heap.size w wr
theorem take_next {s : ByteArray} {k : Nat} (h : k < s.size) : (M.bs s).take (k + 1) = (M.bs s).take k ++ [s[k]] := by
  rw [List.take_add_one, M.bs_get s k h]
  rfl
theorem enc_le (l : M.Bs) : (M.enc (M.lits l)).length ≤ 2 * l.length := by
  induction l with
  | nil => simp [M.lits, M.enc]
  | cons c r ih =>
    have : M.enc (M.lits (c :: r)) = (M.Mk.lit c (M.special c)).enc ++ M.enc (M.lits r) := rfl
    rw [this, List.length_append, List.length_cons]
    have h2 : ((M.Mk.lit c (M.special c)).enc).length ≤ 2 := by cases M.special c <;> simp [M.Mk.enc]
    omega
set_option maxHeartbeats 8000000 in
theorem quoted_any (s : ByteArray) (w : World) (hs : s.size ≤ 65536) :
    Calls Tryd.prog 6 #[.string s] w fun e w' => (∃ q : ByteArray, e = .returned (.string q) ∧ M.bs q = M.enc (M.lits (M.bs s))) ∧ Below w.heap.size w w' := by
  have HS := Lib.hid hs
  clear hs
  go_enter Tryd.func6, Tryd.ntmps6
  go_wp2
  go_loopw [3, 4] (fun v i wr => QuoRel s w v i wr) (fun _ i _ => s.size - (intOf i).toNat)
  case atStart => exact ⟨0, rfl, Nat.zero_le _, OwnB.nil _ _, Below.refl _ _⟩
  case round =>
    obtain ⟨k, rfl, hk, hown, hb⟩ := hrel
    have HO := Lib.hid hown
    have HB := Lib.hid hb
    have HLE := Lib.hid (show (M.enc (M.lits ((M.bs s).take k))).length < 1099511627000 by have h1 := enc_le ((M.bs s).take k); have h2 := HS.out; rw [List.length_take, M.bs_length] at h1; omega)
    obtain ⟨l, hl⟩ : ∃ l, M.enc (M.lits ((M.bs s).take k)) = l := ⟨_, rfl⟩
    have HLL := Lib.hid hl
    rw [hl] at HO HLE
    clear hl hown hb
    by_cases hlt : k < s.size
    · have hz : (s.size : Int) ≤ 65536 := by have := HS.out; omega
      have HT := Lib.hid (take_next hlt)
      by_cases c1 : s[k] = 42
      · have d1 : ((s[k].toNat : Int) == 42) = true := by rw [c1]; rfl
        have HSP := Lib.hid (show M.special s[k] = true by rw [c1]; rfl)
        clear c1
        go_wp2_with (first
          | (at_builtin; refine append_byte rfl _ _ rfl w.heap.size _ l rfl (HO.out.kept (below_alloc _ _)) _ 1 92 rfl ?s11 ?s12 ?s13 ?_; rotate_left 3; intro v' w1 hown1 hg1; have HO1 := Lib.hid hown1; have HH1 := HB.out.alloc HB.out.size (.cells #[.int .u8 92] 5); have HH2 := Nat.le_trans HB.out.size (Below.size (below_alloc wr (.cells #[.int .u8 92] 5))); have HH3 := RowKit.Below.grown HH1 hg1 HH2; have HH4 := (fun j hj => (World.ownsRow.lt (HO.out.kept (below_alloc wr (.cells #[.int .u8 92] 5))) j hj).1); have HG1 := Lib.hid (HH3 HH4); clear hown1 hg1 HH1 HH2 HH3 HH4)
          | (at_builtin; refine append_byte rfl _ _ rfl w.heap.size _ (l ++ [92]) rfl (HO1.out.kept (below_alloc _ _)) _ 1 s[k] rfl ?s14 ?s15 ?s16 ?_; rotate_left 3; intro v2 w2 hown2 hg2; have HO2 := Lib.hid hown2; have HH1 := HG1.out.alloc HG1.out.size (.cells #[.int .u8 (s[k].toNat : Int)] 5); have HH2 := Nat.le_trans HG1.out.size (Below.size (below_alloc w1 (.cells #[.int .u8 (s[k].toNat : Int)] 5))); have HH3 := RowKit.Below.grown HH1 hg2 HH2; have HH4 := (fun j hj => (World.ownsRow.lt (HO1.out.kept (below_alloc w1 (.cells #[.int .u8 (s[k].toNat : Int)] 5))) j hj).1); have HG2 := Lib.hid (HH3 HH4); clear hown2 hg2 HH1 HH2 HH3 HH4))
        case s11 => exact cell_byte _ _ _ _ rfl
        case s12 => have := HLE.out; omega
        case s13 => exact Nat.le_trans HB.out.size (Below.size (below_alloc _ _))
        case s14 => exact cell_byte _ _ _ _ rfl
        case s15 => have := HLE.out; rw [List.length_append]; simp; omega
        case s16 => exact Nat.le_trans HG1.out.size (Below.size (below_alloc _ _))
        refine ⟨⟨k + 1, by go_num, hlt, ?_, HG2.out⟩, by simp [intOf]; omega⟩
        rw [HT.out, M.lits_app, HLL.out, HSP.out]
        have := HO2.out
        rw [List.append_assoc] at this
        exact this
      have d1 : ((s[k].toNat : Int) == 42) = false := u8_ne (d := 42) c1
      by_cases c2 : s[k] = 63
      · have d2 : ((s[k].toNat : Int) == 63) = true := by rw [c2]; rfl
        have HSP := Lib.hid (show M.special s[k] = true by rw [c2]; rfl)
        clear c1 c2
        go_wp2_with (first
          | (at_builtin; refine append_byte rfl _ _ rfl w.heap.size _ l rfl (HO.out.kept (below_alloc _ _)) _ 1 92 rfl ?s21 ?s22 ?s23 ?_; rotate_left 3; intro v' w1 hown1 hg1; have HO1 := Lib.hid hown1; have HH1 := HB.out.alloc HB.out.size (.cells #[.int .u8 92] 5); have HH2 := Nat.le_trans HB.out.size (Below.size (below_alloc wr (.cells #[.int .u8 92] 5))); have HH3 := RowKit.Below.grown HH1 hg1 HH2; have HH4 := (fun j hj => (World.ownsRow.lt (HO.out.kept (below_alloc wr (.cells #[.int .u8 92] 5))) j hj).1); have HG1 := Lib.hid (HH3 HH4); clear hown1 hg1 HH1 HH2 HH3 HH4)
          | (at_builtin; refine append_byte rfl _ _ rfl w.heap.size _ (l ++ [92]) rfl (HO1.out.kept (below_alloc _ _)) _ 1 s[k] rfl ?s24 ?s25 ?s26 ?_; rotate_left 3; intro v2 w2 hown2 hg2; have HO2 := Lib.hid hown2; have HH1 := HG1.out.alloc HG1.out.size (.cells #[.int .u8 (s[k].toNat : Int)] 5); have HH2 := Nat.le_trans HG1.out.size (Below.size (below_alloc w1 (.cells #[.int .u8 (s[k].toNat : Int)] 5))); have HH3 := RowKit.Below.grown HH1 hg2 HH2; have HH4 := (fun j hj => (World.ownsRow.lt (HO1.out.kept (below_alloc w1 (.cells #[.int .u8 (s[k].toNat : Int)] 5))) j hj).1); have HG2 := Lib.hid (HH3 HH4); clear hown2 hg2 HH1 HH2 HH3 HH4))
        case s21 => exact cell_byte _ _ _ _ rfl
        case s22 => have := HLE.out; omega
        case s23 => exact Nat.le_trans HB.out.size (Below.size (below_alloc _ _))
        case s24 => exact cell_byte _ _ _ _ rfl
        case s25 => have := HLE.out; rw [List.length_append]; simp; omega
        case s26 => exact Nat.le_trans HG1.out.size (Below.size (below_alloc _ _))
        refine ⟨⟨k + 1, by go_num, hlt, ?_, HG2.out⟩, by simp [intOf]; omega⟩
        rw [HT.out, M.lits_app, HLL.out, HSP.out]
        have := HO2.out
        rw [List.append_assoc] at this
        exact this
      have d2 : ((s[k].toNat : Int) == 63) = false := u8_ne (d := 63) c2
      by_cases c3 : s[k] = 91
      · have d3 : ((s[k].toNat : Int) == 91) = true := by rw [c3]; rfl
        have HSP := Lib.hid (show M.special s[k] = true by rw [c3]; rfl)
        clear c1 c2 c3
        go_wp2_with (first
          | (at_builtin; refine append_byte rfl _ _ rfl w.heap.size _ l rfl (HO.out.kept (below_alloc _ _)) _ 1 92 rfl ?s31 ?s32 ?s33 ?_; rotate_left 3; intro v' w1 hown1 hg1; have HO1 := Lib.hid hown1; have HH1 := HB.out.alloc HB.out.size (.cells #[.int .u8 92] 5); have HH2 := Nat.le_trans HB.out.size (Below.size (below_alloc wr (.cells #[.int .u8 92] 5))); have HH3 := RowKit.Below.grown HH1 hg1 HH2; have HH4 := (fun j hj => (World.ownsRow.lt (HO.out.kept (below_alloc wr (.cells #[.int .u8 92] 5))) j hj).1); have HG1 := Lib.hid (HH3 HH4); clear hown1 hg1 HH1 HH2 HH3 HH4)
          | (at_builtin; refine append_byte rfl _ _ rfl w.heap.size _ (l ++ [92]) rfl (HO1.out.kept (below_alloc _ _)) _ 1 s[k] rfl ?s34 ?s35 ?s36 ?_; rotate_left 3; intro v2 w2 hown2 hg2; have HO2 := Lib.hid hown2; have HH1 := HG1.out.alloc HG1.out.size (.cells #[.int .u8 (s[k].toNat : Int)] 5); have HH2 := Nat.le_trans HG1.out.size (Below.size (below_alloc w1 (.cells #[.int .u8 (s[k].toNat : Int)] 5))); have HH3 := RowKit.Below.grown HH1 hg2 HH2; have HH4 := (fun j hj => (World.ownsRow.lt (HO1.out.kept (below_alloc w1 (.cells #[.int .u8 (s[k].toNat : Int)] 5))) j hj).1); have HG2 := Lib.hid (HH3 HH4); clear hown2 hg2 HH1 HH2 HH3 HH4))
        case s31 => exact cell_byte _ _ _ _ rfl
        case s32 => have := HLE.out; omega
        case s33 => exact Nat.le_trans HB.out.size (Below.size (below_alloc _ _))
        case s34 => exact cell_byte _ _ _ _ rfl
        case s35 => have := HLE.out; rw [List.length_append]; simp; omega
        case s36 => exact Nat.le_trans HG1.out.size (Below.size (below_alloc _ _))
        refine ⟨⟨k + 1, by go_num, hlt, ?_, HG2.out⟩, by simp [intOf]; omega⟩
        rw [HT.out, M.lits_app, HLL.out, HSP.out]
        have := HO2.out
        rw [List.append_assoc] at this
        exact this
      have d3 : ((s[k].toNat : Int) == 91) = false := u8_ne (d := 91) c3
      by_cases c4 : s[k] = 92
      · have d4 : ((s[k].toNat : Int) == 92) = true := by rw [c4]; rfl
        have HSP := Lib.hid (show M.special s[k] = true by rw [c4]; rfl)
        clear c1 c2 c3 c4
        go_wp2_with (first
          | (at_builtin; refine append_byte rfl _ _ rfl w.heap.size _ l rfl (HO.out.kept (below_alloc _ _)) _ 1 92 rfl ?s41 ?s42 ?s43 ?_; rotate_left 3; intro v' w1 hown1 hg1; have HO1 := Lib.hid hown1; have HH1 := HB.out.alloc HB.out.size (.cells #[.int .u8 92] 5); have HH2 := Nat.le_trans HB.out.size (Below.size (below_alloc wr (.cells #[.int .u8 92] 5))); have HH3 := RowKit.Below.grown HH1 hg1 HH2; have HH4 := (fun j hj => (World.ownsRow.lt (HO.out.kept (below_alloc wr (.cells #[.int .u8 92] 5))) j hj).1); have HG1 := Lib.hid (HH3 HH4); clear hown1 hg1 HH1 HH2 HH3 HH4)
          | (at_builtin; refine append_byte rfl _ _ rfl w.heap.size _ (l ++ [92]) rfl (HO1.out.kept (below_alloc _ _)) _ 1 s[k] rfl ?s44 ?s45 ?s46 ?_; rotate_left 3; intro v2 w2 hown2 hg2; have HO2 := Lib.hid hown2; have HH1 := HG1.out.alloc HG1.out.size (.cells #[.int .u8 (s[k].toNat : Int)] 5); have HH2 := Nat.le_trans HG1.out.size (Below.size (below_alloc w1 (.cells #[.int .u8 (s[k].toNat : Int)] 5))); have HH3 := RowKit.Below.grown HH1 hg2 HH2; have HH4 := (fun j hj => (World.ownsRow.lt (HO1.out.kept (below_alloc w1 (.cells #[.int .u8 (s[k].toNat : Int)] 5))) j hj).1); have HG2 := Lib.hid (HH3 HH4); clear hown2 hg2 HH1 HH2 HH3 HH4))
        case s41 => exact cell_byte _ _ _ _ rfl
        case s42 => have := HLE.out; omega
        case s43 => exact Nat.le_trans HB.out.size (Below.size (below_alloc _ _))
        case s44 => exact cell_byte _ _ _ _ rfl
        case s45 => have := HLE.out; rw [List.length_append]; simp; omega
        case s46 => exact Nat.le_trans HG1.out.size (Below.size (below_alloc _ _))
        refine ⟨⟨k + 1, by go_num, hlt, ?_, HG2.out⟩, by simp [intOf]; omega⟩
        rw [HT.out, M.lits_app, HLL.out, HSP.out]
        have := HO2.out
        rw [List.append_assoc] at this
        exact this
      have d4 : ((s[k].toNat : Int) == 92) = false := u8_ne (d := 92) c4
      have HSP := Lib.hid (show M.special s[k] = false by
        unfold M.special
        simp [c1, c2, c3, c4])
      clear c1 c2 c3 c4
      go_wp2_with (at_builtin; refine append_byte rfl _ _ rfl w.heap.size _ l rfl (HO.out.kept (below_alloc _ _)) _ 1 s[k] rfl ?g1 ?g2 ?g3 ?_; rotate_left 3; intro v' w1 hown1 hg1; have HO1 := Lib.hid hown1; have HH1 := HB.out.alloc HB.out.size (.cells #[.int .u8 (s[k].toNat : Int)] 5); have HH2 := Nat.le_trans HB.out.size (Below.size (below_alloc wr (.cells #[.int .u8 (s[k].toNat : Int)] 5))); have HH3 := RowKit.Below.grown HH1 hg1 HH2; have HH4 := (fun j hj => (World.ownsRow.lt (HO.out.kept (below_alloc wr (.cells #[.int .u8 (s[k].toNat : Int)] 5))) j hj).1); have HG1 := Lib.hid (HH3 HH4); clear hown1 hg1 HH1 HH2 HH3 HH4)
      case g1 => exact cell_byte _ _ _ _ rfl
      case g2 => have := HLE.out; omega
      case g3 => exact Nat.le_trans HB.out.size (Below.size (below_alloc _ _))
      refine ⟨⟨k + 1, by go_num, hlt, ?_, HG1.out⟩, by simp [intOf]; omega⟩
      rw [HT.out, M.lits_app, HLL.out, HSP.out]
      exact HO1.out
    · have hk2 : k = s.size := by omega
      subst hk2
      have hcv := own_string HO.out
      go_wp2
      go_ret
      refine ⟨⟨_, rfl, ?_⟩, HB.out⟩
      show (_ : M.Bs) = _
      rw [← HLL.out, List.take_of_length_le (by rw [M.bs_length]; exact Nat.le_refl _)]
      simp [M.bs]
end Go.Proofs.YtmjipdcohkiblaaDoor
