/-
  package cron's zzLower, for every text.
-/
import Derived.Test.YtjipjhpehfbpkaaDoorCRange
import Derived.Shelf.Strings.FieldsFuncAny
import Derived.Lib.AppendStr
import Derived.Laws.Runes
import Derived.Laws.IdiomStrings
import Derived.Laws.BytesArg
import Derived.Deep.LoopGhost
namespace Go.Proofs.YtjipjhpehfbpkaaDoor
open Go.RowKit
set_option maxRecDepth 100000
set_option linter.unusedVariables false

namespace M
/-- what becomes of a rune -/
def lowR (r : Nat) : Bs := if 65 ≤ r ∧ r ≤ 90 then [UInt8.ofNat (r + 32)] else if r = 304 then [105] else if r = 8490 then [107] else bs (Utf8.encode (r : Int))
def lowFrom (s : ByteArray) : Nat → Nat → Bs
  | 0, _ => []
  | f + 1, pos => if pos < s.size then lowR (Utf8.decode s pos).1 ++ lowFrom s f (pos + (Utf8.decode s pos).2) else []
def lower (s : ByteArray) : Bs := lowFrom s s.size 0
theorem lowFrom_end (s : ByteArray) (f pos : Nat) (h : ¬ pos < s.size) : lowFrom s f pos = [] := by
  cases f with
  | zero => rfl
  | succ f => unfold lowFrom; rw [if_neg h]
theorem encode_size (r : Int) : (Utf8.encode r).size ≤ 4 := by
  unfold Utf8.encode
  simp only
  repeat' split
  all_goals first
    | (show 1 ≤ 4; omega)
    | (show 2 ≤ 4; omega)
    | (show 3 ≤ 4; omega)
    | (show 4 ≤ 4; omega)
theorem lowR_len (r : Nat) : (lowR r).length ≤ 4 := by
  unfold lowR
  split
  · simp
  · split
    · simp
    · split
      · simp
      · rw [bs_length]; exact encode_size _
end M
def byteV (b : UInt8) : Value := .int .u8 (b.toNat : Int)
theorem infoB : (Tryd.prog.info? 5).map (fun i => (i.zero, i.size, i.bytes)) = some (some (.int .u8 0), 1, 1) := by kernel_rfl
/-- slice v is a row of the call's own that holds the bytes l -/
def OwnB (w : World) (base : Nat) (v : Value) (l : M.Bs) : Prop := w.ownsRow base 5 1 v l.length (l.map byteV)
theorem OwnB.nil (w : World) (base : Nat) : OwnB w base (.slice none 0 0) [] := World.ownsRow_nil w base _ 1
theorem OwnB.kept {w w' : World} {base : Nat} {v : Value} {l : M.Bs} (h : OwnB w base v l) (b : Below w.heap.size w w') : OwnB w' base v l :=
  World.ownsRow.kept h (Below.grown b) (by cases hv : v.ownBlock <;> simp)
/-- 'append(v, x)', x a byte -/
theorem append_byte {w : World} {ops : Array Oper} {rest : List Oper} {o : Oper} {a : Act} {Q : Exit → Act → World → Prop} (hgd : o.guard = none) (s x : Operand)
    (ho : o.op = .call { callee := .builtin .append, args := #[s, x], argTypes := #[34, 34] })
    (base : Nat) (v : Value) (l : M.Bs) (hs : a.eval s = v) (hown : OwnB w base v l)
    (g : Nat) (c : Nat) (b : UInt8) (hx : a.eval x = .slice (some ⟨g, 0, none⟩) 1 c) (hcell : w.cell? ⟨g, 0, none⟩ = some (byteV b))
    (hlen : l.length < 1099511627776) (hbase : base ≤ w.heap.size)
    (h : ∀ v' w', OwnB w' base v' (l ++ [b]) → w.grownBy w' v.ownBlock → wpList Tryd.prog ops Q rest (a.put o.dst v') w') : wpList Tryd.prog ops Q (o :: rest) a w := by
  obtain ⟨i0, hi, hz0, hz1, hz2⟩ := info_parts infoB
  refine wpList_append_own w hgd s x 34 ho base 5 i0 (.int .u8 0) 1 1 Tryd.underlying34 hi hz0 hz1 hz2 rfl (by decide) v l.length (l.map byteV) hs hown
    ⟨g, 0, none⟩ 1 c [byteV b] hx rfl ?_ ?_ ?_ ?_ hbase ?_
  · intro j u hj
    cases j with
    | zero => simp at hj; subst hj; exact hcell
    | succ j => simp at hj
  · intro u hu; simp at hu; subst hu; rfl
  · unfold maxLen; omega
  · omega
  · intro v' w' h1 h2 _
    refine h v' w' ?_ h2
    unfold OwnB
    simpa using h1
/-- 'append(v, s...)', s a string -/
theorem append_bstr {w : World} {ops : Array Oper} {rest : List Oper} {o : Oper} {a : Act} {Q : Exit → Act → World → Prop} (hgd : o.guard = none) (sl x : Operand)
    (ho : o.op = .call { callee := .builtin .append, args := #[sl, x], argTypes := #[34, 9] })
    (base : Nat) (v : Value) (l : M.Bs) (hs : a.eval sl = v) (hown : OwnB w base v l) (t : ByteArray) (hx : a.eval x = .string t) (ht : t.size ≤ 1099511627776)
    (hlen : l.length < 1099511627776) (hbase : base ≤ w.heap.size)
    (h : ∀ v' w', OwnB w' base v' (l ++ M.bs t) → w.grownBy w' v.ownBlock → wpList Tryd.prog ops Q rest (a.put o.dst v') w') : wpList Tryd.prog ops Q (o :: rest) a w := by
  obtain ⟨i0, hi, hz0, hz1, hz2⟩ := info_parts infoB
  refine Lib.wpList_append_own_string w hgd sl x 34 9 ho base 5 i0 Tryd.underlying34 Tryd.underlying9 hi hz0 hz1 hz2 v l.length (l.map byteV) hs hown t hx (by unfold maxLen; omega) (by omega) hbase ?_
  intro v' w' h1 h2 _
  refine h v' w' ?_ h2
  unfold OwnB
  rw [List.length_append, M.bs_length, List.map_append]
  exact h1
/-- 'string(v)' -/
theorem own_string {w : World} {base : Nat} {v : Value} {l : M.Bs} (h : OwnB w base v l) : (convert 34 9 v).run Tryd.prog w = .ok (.string ⟨l.toArray⟩) w := by
  have h0 := h
  obtain ⟨h1, h2 | ⟨g, cap, cur, rfl, hg, hb, hn, hc, hs, ht⟩⟩ := h
  · obtain ⟨rfl, hn⟩ := h2
    obtain rfl : l = [] := List.length_eq_zero_iff.1 hn
    exact run_convert_bytes_nil w 34 5 Tryd.underlying34 Tryd.underlying5 _ _ _ Tryd.underlying9
  · refine run_convert_bytes_back w 34 9 5 ⟨g, 0, none⟩ cap l Tryd.underlying34 Tryd.underlying5 Tryd.underlying9 fun j hj => ?_
    exact World.ownsRow.cells (g := g) h0 rfl j _ (by simp [byteV, hj])
theorem OwnB.iter {w : World} {base : Nat} {v : Value} {l : M.Bs} (h : OwnB w base v l) {k : Nat} {s : ByteArray} {pos : Nat} (hk : w.heap[k]? = some (.stringIter s pos)) (p : Nat) : OwnB (w.iterAt k s p) base v l := own_iterAt h hk p
theorem cell_byte (W : World) (i : Int) (b : UInt8) (t : TypeId) (h : i = (b.toNat : Int)) : (W.alloc (.cells #[.int .u8 i] t)).cell? ⟨W.heap.size, 0, none⟩ = some (byteV b) := by
  subst h
  unfold byteV
  go_simp
namespace M
theorem lowR_up {R : Nat} (h1 : 65 ≤ R) (h2 : R ≤ 90) : lowR R = [UInt8.ofNat (R + 32)] := by unfold lowR; rw [if_pos ⟨h1, h2⟩]
theorem lowR_304 {R : Nat} (h : R = 304) : lowR R = [105] := by subst h; rfl
theorem lowR_8490 {R : Nat} (h : R = 8490) : lowR R = [107] := by subst h; rfl
theorem lowR_else {R : Nat} (h : ¬ (65 ≤ R ∧ R ≤ 90)) (h1 : ¬ R = 304) (h2 : ¬ R = 8490) : lowR R = bs (Utf8.encode (R : Int)) := by unfold lowR; rw [if_neg h, if_neg h1, if_neg h2]
end M
/-- at the head of zzLower's loop -/
def LowRel (s : ByteArray) (w : World) (gf : Nat) (v : Value) (wx : World) : Prop :=
  ∃ (pos : Nat) (l : M.Bs), OwnB wx w.heap.size v l ∧ wx.heap[w.heap.size]? = some (.stringIter s pos) ∧ Below w.heap.size w wx ∧ l ++ M.lowFrom s gf pos = M.lower s ∧ s.size ≤ pos + gf ∧ pos ≤ s.size ∧ l.length ≤ 4 * pos
/-- a round's end -/
theorem LowRel.next {s : ByteArray} {w W w' : World} {v v' : Value} {l b : M.Bs} {pos gf R K : Nat} (hlt : pos < s.size) (hR : (Utf8.decode s pos).1 = R) (hK : (Utf8.decode s pos).2 = K) (hb : M.lowR R = b)
    (hsp : l ++ M.lowFrom s (gf + 1) pos = M.lower s) (hf : s.size ≤ pos + (gf + 1)) (hw : 1 ≤ K) (hwn : pos + K ≤ s.size) (hl : l.length ≤ 4 * pos)
    (hit : W.heap[w.heap.size]? = some (.stringIter s (pos + K))) (hbw : Below w.heap.size w W) (hown : OwnB W w.heap.size v l) {W2 : World} (b2 : Below W.heap.size W W2)
    (hown' : OwnB w' w.heap.size v' (l ++ b)) (hg : W2.grownBy w' v.ownBlock) : LowRel s w gf v' w' := by
  have hlt2 : w.heap.size < W.heap.size := (Array.getElem?_eq_some_iff.1 hit).1
  have hbB : Below w.heap.size w W2 := Below.up hbw b2
  have hownB := hown.kept b2
  have hitB := (b2.block _ hlt2).trans hit
  have hszB : w.heap.size < W2.heap.size := (Array.getElem?_eq_some_iff.1 hitB).1
  refine ⟨pos + K, l ++ b, hown', ?_, ?_, ?_, by omega, hwn, ?_⟩
  · exact (hg.block w.heap.size hszB (own_ne_iter hownB hitB)).trans hitB
  · exact RowKit.Below.grown hbB hg (by omega) (fun j hj => (World.ownsRow.lt hownB j hj).1)
  · rw [← hsp, M.lowFrom, if_pos hlt, hR, hK, hb, List.append_assoc]
  · have := M.lowR_len R
    rw [hb] at this
    rw [List.length_append]
    omega
set_option maxHeartbeats 8000000 in
theorem zzLower_any (s : ByteArray) (w : World) (hs : s.size ≤ 2147483647) :
    Calls Tryd.prog 58 #[.string s] w fun e w' => e = .returned (.string ⟨(M.lower s).toArray⟩) ∧ Below w.heap.size w w' := by
  go_enter Tryd.func58, Tryd.ntmps58
  go_wp2
  go_loopg [3] s.size (fun gf s3 wx => LowRel s w gf s3 wx)
  case atStart =>
    exact ⟨0, [], OwnB.nil _ _, World.iter_heap w s 0, below_alloc _ _, rfl, by omega, Nat.zero_le _, Nat.zero_le _⟩
  case round =>
    obtain ⟨pos, l, hown, hit, hbw, hsp, hfu, hps, hl⟩ := hrel
    by_cases hlt : pos < s.size
    · obtain ⟨g', rfl⟩ : ∃ g', gk = g' + 1 := ⟨gk - 1, by omega⟩
      have hnx : ∀ ty, (Instr.next (.pointer (some ⟨w.heap.size, 0, none⟩)) true ty).run Tryd.prog wr = _ := fun ty => Lib.run_next_any_at wr w.heap.size s pos ty hit hlt
      have hwd := Lib.width_pos s pos
      have hwn := (M.rune_at s pos hlt).1
      obtain ⟨R, hR⟩ : ∃ R, (Utf8.decode s pos).1 = R := ⟨_, rfl⟩
      obtain ⟨K, hK⟩ : ∃ K, (Utf8.decode s pos).2 = K := ⟨_, rfl⟩
      rw [hR, hK] at hnx
      rw [hK] at hwd hwn
      have hit2 := Lib.iterAt_heap wr w.heap.size s pos (pos + K) hit
      have hbw2 := Lib.below_iterAt hbw (k := w.heap.size) (Nat.le_refl _) s (pos + K)
      have hown2 := hown.iter hit (pos + K)
      obtain ⟨W, hWd⟩ : ∃ W, wr.iterAt w.heap.size s (pos + K) = W := ⟨_, rfl⟩
      rw [hWd] at hnx hit2 hbw2 hown2
      have hRle := Lib.rune_le s pos
      rw [hR] at hRle
      have HO := Lib.hid hown2
      have HI := Lib.hid hit2
      have HB := Lib.hid hbw2
      have HS := Lib.hid hsp
      have HR := Lib.hid hR
      have HK := Lib.hid hK
      have hl1 : l.length < 1099511627776 := by omega
      clear hit hown hbw hsp hR hK hWd hit2 hown2 hbw2
      by_cases c0 : 65 ≤ R ∧ R ≤ 90
      · obtain ⟨c1, c2⟩ := c0
        go_wp2_with (at_builtin; refine append_byte rfl _ _ rfl w.heap.size _ l rfl (HO.out.kept (below_alloc _ _)) _ 1 (UInt8.ofNat (R + 32)) rfl ?c1 hl1 ?c3 ?_; rotate_left 2; intro v' w1 hown1 hg1; have HO1 := Lib.hid hown1; have HG1 := Lib.hid hg1; clear hown1 hg1)
        go_roundg g'
        case measure => omega
        case rel => exact LowRel.next hlt HR.out HK.out (M.lowR_up c1 c2) HS.out (by omega) hwd hwn hl HI.out HB.out HO.out (below_alloc W _) HO1.out HG1.out
        case c1 => exact cell_byte _ _ _ _ (by rw [M.ofNat_toNat (by omega)]; omega)
        case c3 => have := HB.out.size; first | exact this | (simp; omega)
      by_cases c3 : R = 304
      · have HL := Lib.hid (M.lowR_304 c3)
        have d1 : 65 ≤ R := by omega
        have d2 : 90 < R := by omega
        have d3 : ((R : Int) == 304) = true := by rw [beq_iff_eq]; omega
        clear c3 c0
        go_wp2_with (at_builtin; refine append_byte rfl _ _ rfl w.heap.size _ l rfl (HO.out.kept (below_alloc _ _)) _ 1 105 rfl ?c1 hl1 ?c3 ?_; rotate_left 2; intro v' w1 hown1 hg1; have HO1 := Lib.hid hown1; have HG1 := Lib.hid hg1; clear hown1 hg1)
        go_roundg g'
        case measure => omega
        case rel => exact LowRel.next hlt HR.out HK.out HL.out HS.out (by omega) hwd hwn hl HI.out HB.out HO.out (below_alloc W _) HO1.out HG1.out
        case c1 => exact cell_byte _ _ _ _ rfl
        case c3 => have := HB.out.size; first | exact this | (simp; omega)
      have d3 : ((R : Int) == 304) = false := by rw [beq_eq_false_iff_ne]; omega
      by_cases c4 : R = 8490
      · have HL := Lib.hid (M.lowR_8490 c4)
        have d1 : 65 ≤ R := by omega
        have d2 : 90 < R := by omega
        have d4 : ((R : Int) == 8490) = true := by rw [beq_iff_eq]; omega
        clear c4 c3 c0
        go_wp2_with (at_builtin; refine append_byte rfl _ _ rfl w.heap.size _ l rfl (HO.out.kept (below_alloc _ _)) _ 1 107 rfl ?c1 hl1 ?c3 ?_; rotate_left 2; intro v' w1 hown1 hg1; have HO1 := Lib.hid hown1; have HG1 := Lib.hid hg1; clear hown1 hg1)
        go_roundg g'
        case measure => omega
        case rel => exact LowRel.next hlt HR.out HK.out HL.out HS.out (by omega) hwd hwn hl HI.out HB.out HO.out (below_alloc W _) HO1.out HG1.out
        case c1 => exact cell_byte _ _ _ _ rfl
        case c3 => have := HB.out.size; first | exact this | (simp; omega)
      have d4 : ((R : Int) == 8490) = false := by rw [beq_eq_false_iff_ne]; omega
      have HL := Lib.hid (M.lowR_else c0 c3 c4)
      clear c4 c3
      by_cases d1 : 65 ≤ R
      · have d2 : 90 < R := by omega
        clear c0
        go_wp2_with (at_builtin; refine append_bstr rfl _ _ rfl w.heap.size _ l rfl HO.out (Utf8.encode (R : Int)) rfl (by have := M.encode_size (R : Int); omega) hl1 ?c3 ?_; rotate_left 1; intro v' w1 hown1 hg1; have HO1 := Lib.hid hown1; have HG1 := Lib.hid hg1; clear hown1 hg1)
        go_roundg g'
        case measure => omega
        case rel => exact LowRel.next hlt HR.out HK.out HL.out HS.out (by omega) hwd hwn hl HI.out HB.out HO.out (Below.refl _ _) HO1.out HG1.out
        case c3 => have := HB.out.size; first | exact this | (simp; omega)
      · have d2 : R < 65 := by omega
        clear c0 d1
        go_wp2_with (at_builtin; refine append_bstr rfl _ _ rfl w.heap.size _ l rfl HO.out (Utf8.encode (R : Int)) rfl (by have := M.encode_size (R : Int); omega) hl1 ?c3 ?_; rotate_left 1; intro v' w1 hown1 hg1; have HO1 := Lib.hid hown1; have HG1 := Lib.hid hg1; clear hown1 hg1)
        go_roundg g'
        case measure => omega
        case rel => exact LowRel.next hlt HR.out HK.out HL.out HS.out (by omega) hwd hwn hl HI.out HB.out HO.out (Below.refl _ _) HO1.out HG1.out
        case c3 => have := HB.out.size; first | exact this | (simp; omega)
    · obtain rfl : pos = s.size := by omega
      have hnx : ∀ ty, (Instr.next (.pointer (some ⟨w.heap.size, 0, none⟩)) true ty).run Tryd.prog wr = _ := fun ty => Lib.run_next_end_at wr w.heap.size s s.size ty hit hlt
      have hlo : l = M.lower s := by rw [← hsp, M.lowFrom_end _ _ _ hlt, List.append_nil]
      have hcv := own_string hown
      have HB := Lib.hid hbw
      have HL := Lib.hid hlo
      clear hit hbw hsp hown hlo
      go_wp2
      go_ret
      exact ⟨by rw [← HL.out]; rfl, HB.out⟩
end Go.Proofs.YtjipjhpehfbpkaaDoor
