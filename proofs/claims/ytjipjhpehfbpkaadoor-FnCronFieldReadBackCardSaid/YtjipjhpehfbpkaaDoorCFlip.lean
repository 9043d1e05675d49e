/-
  spec.CronName; laws.cronFlip of three capital letters.
-/
import Derived.Test.YtjipjhpehfbpkaaDoorCValue
namespace Go.Proofs.YtjipjhpehfbpkaaDoor
open Go.RowKit
set_option maxRecDepth 100000
set_option linter.unusedVariables false

/-- slice v reads as the bools L -/
def ReadB (w : World) (v : Value) (L : List Bool) : Prop :=
  ∃ A cap, v = .slice A L.length cap ∧ ∀ i (_ : i < L.length), ∃ b o, A = some ⟨b, o, none⟩ ∧ b < w.heap.size ∧ w.cell? ⟨b, o + i, none⟩ = some (.bool L[i])
theorem ReadB.below {w w' : World} {v : Value} {L : List Bool} (h : ReadB w v L) (b : Below w.heap.size w w') : ReadB w' v L := by
  obtain ⟨A, cap, rfl, hc⟩ := h
  refine ⟨A, cap, rfl, fun i hi => ?_⟩
  obtain ⟨g, o, h1, h2, h3⟩ := hc i hi
  exact ⟨g, o, h1, Nat.lt_of_lt_of_le h2 b.size, by rw [b.cell (p := ⟨g, o + i, none⟩) h2]; exact h3⟩
theorem xor32_fin : ∀ n : Fin 256, 65 ≤ n.val → n.val ≤ 90 → bits .xor .u8 (n.val : Int) 32 = ((n.val + 32 : Nat) : Int) := by decide +kernel
theorem xor32 (c : UInt8) (h1 : 65 ≤ c.toNat) (h2 : c.toNat ≤ 90) : bits .xor .u8 (c.toNat : Int) 32 = ((UInt8.ofNat (c.toNat + 32)).toNat : Int) := by
  have := xor32_fin ⟨c.toNat, c.toNat_lt⟩ h1 h2
  rw [M.ofNat_toNat (by omega)]
  exact this
/-- a letter of the name, in capital or small -/
def Lett (c x : UInt8) : Prop := M.low1 x = M.low1 c ∧ 65 ≤ x.toNat ∧ x.toNat < 128
theorem Lett.self {c : UInt8} (h1 : 65 ≤ c.toNat) (h2 : c.toNat ≤ 90) : Lett c c := ⟨rfl, h1, by omega⟩
theorem Lett.flip {c : UInt8} (h1 : 65 ≤ c.toNat) (h2 : c.toNat ≤ 90) : Lett c (UInt8.ofNat (c.toNat + 32)) := by
  have e := M.ofNat_toNat (n := c.toNat + 32) (by omega)
  refine ⟨?_, by rw [e]; omega, by rw [e]; omega⟩
  unfold M.low1
  rw [if_neg (by rw [e]; omega), if_pos ⟨h1, h2⟩]
/-- at the head of cronFlip's loop: the block's three cells -/
def FlRel (N K : Nat) (a b c : UInt8) (w : World) (k : Nat) (wr : World) : Prop :=
  ∃ x y z C, wr.heap[N]? = some (.cells C 5 (K, K + 1)) ∧ C[0]? = some (byteV x) ∧ C[1]? = some (byteV y) ∧ C[2]? = some (byteV z) ∧
    Lett a x ∧ Lett b y ∧ Lett c z ∧ (k ≤ 0 → x = a) ∧ (k ≤ 1 → y = b) ∧ (k ≤ 2 → z = c) ∧ Below w.heap.size w wr
theorem fl_frozen {wr : World} {N K : Nat} {C : Array Value} {t : TypeId} (h : wr.heap[N]? = some (.cells C t (K, K + 1))) (j : Nat) (hj : j < K) : wr.frozen? ⟨N, j, none⟩ = false := by
  simp [World.frozen?, h]
  omega
theorem FlRel.next {N K : Nat} {a b c : UInt8} {w wr : World} {k : Nat} (h : FlRel N K a b c w k wr) : FlRel N K a b c w (k + 1) wr := by
  obtain ⟨x, y, z, C, h1, h2, h3, h4, h5, h6, h7, h8, h9, h10, h11⟩ := h
  exact ⟨x, y, z, C, h1, h2, h3, h4, h5, h6, h7, fun e => h8 (by omega), fun e => h9 (by omega), fun e => h10 (by omega), h11⟩
/-- the letter at k -/
def at3 (a b c : UInt8) : Nat → UInt8
  | 0 => a
  | 1 => b
  | _ => c
theorem FlRel.cell {N K : Nat} {a b c : UInt8} {w wr : World} {k : Nat} (h : FlRel N K a b c w k wr) (hk : k < 3) : wr.cell? ⟨N, k, none⟩ = some (byteV (at3 a b c k)) := by
  obtain ⟨x, y, z, C, h1, h2, h3, h4, h5, h6, h7, h8, h9, h10, h11⟩ := h
  obtain rfl | rfl | rfl : k = 0 ∨ k = 1 ∨ k = 2 := by omega
  · rw [← h8 (Nat.le_refl _)]; exact row_cell h1 _ _ h2
  · rw [← h9 (Nat.le_refl _)]; exact row_cell h1 _ _ h3
  · rw [← h10 (Nat.le_refl _)]; exact row_cell h1 _ _ h4
theorem FlRel.bel {N K : Nat} {a b c : UInt8} {w wr : World} {k : Nat} (h : FlRel N K a b c w k wr) : Below w.heap.size w wr := by
  obtain ⟨x, y, z, C, h1, h2, h3, h4, h5, h6, h7, h8, h9, h10, h11⟩ := h
  exact h11
theorem FlRel.loose {N K : Nat} {a b c : UInt8} {w wr : World} {k : Nat} (h : FlRel N K a b c w k wr) (hK : 3 ≤ K) (j : Nat) (hj : j < 3) : wr.frozen? ⟨N, j, none⟩ = false := by
  obtain ⟨x, y, z, C, h1, _⟩ := h
  exact fl_frozen h1 j (by omega)
theorem getq_set_ne {C : Array Value} {i j : Nat} (h : i ≠ j) (v : Value) : (C.setIfInBounds i v)[j]? = C[j]? := Array.getElem?_setIfInBounds_ne h
theorem getq_set_eq {C : Array Value} {i : Nat} {u : Value} (h : C[i]? = some u) (v : Value) : (C.setIfInBounds i v)[i]? = some v := by
  have hi := (Array.getElem?_eq_some_iff.1 h).1
  rw [Array.getElem?_setIfInBounds_self_of_lt hi]
theorem FlRel.flip {N K : Nat} {a b c : UInt8} {w wr : World} {k : Nat} (h : FlRel N K a b c w k wr) (hk : k < 3) (hN : w.heap.size ≤ N) (h65 : 65 ≤ (at3 a b c k).toNat) (h90 : (at3 a b c k).toNat ≤ 90) :
    FlRel N K a b c w (k + 1) (wr.setCell ⟨N, k, none⟩ (byteV (UInt8.ofNat ((at3 a b c k).toNat + 32)))) := by
  obtain ⟨x, y, z, C, h1, h2, h3, h4, h5, h6, h7, h8, h9, h10, h11⟩ := h
  have hs : (wr.setCell ⟨N, k, none⟩ (byteV (UInt8.ofNat ((at3 a b c k).toNat + 32)))).heap[N]? = some (.cells (C.setIfInBounds k (byteV (UInt8.ofNat ((at3 a b c k).toNat + 32)))) 5 (K, K + 1)) := by simp [World.setCell, Array.getElem?_modify, h1]
  obtain rfl | rfl | rfl : k = 0 ∨ k = 1 ∨ k = 2 := by omega
  · exact ⟨_, y, z, _, hs, getq_set_eq h2 _, (getq_set_ne (by omega) _).trans h3, (getq_set_ne (by omega) _).trans h4, Lett.flip h65 h90, h6, h7, fun e => by omega, fun e => h9 (by omega), fun e => h10 (by omega), h11.setCell hN _⟩
  · exact ⟨x, _, z, _, hs, (getq_set_ne (by omega) _).trans h2, getq_set_eq h3 _, (getq_set_ne (by omega) _).trans h4, h5, Lett.flip h65 h90, h7, fun e => by omega, fun e => by omega, fun e => h10 (by omega), h11.setCell hN _⟩
  · exact ⟨x, y, _, _, hs, (getq_set_ne (by omega) _).trans h2, (getq_set_ne (by omega) _).trans h3, getq_set_eq h4 _, h5, h6, Lett.flip h65 h90, fun e => by omega, fun e => by omega, fun e => by omega, h11.setCell hN _⟩
/-- string(b) of the three cells -/
theorem fl_string {wr : World} {N : Nat} {C : Array Value} {x y z : UInt8} {t : TypeId} {fz : Nat × Nat} (h1 : wr.heap[N]? = some (.cells C t fz)) (h2 : C[0]? = some (byteV x)) (h3 : C[1]? = some (byteV y)) (h4 : C[2]? = some (byteV z)) (cap : Nat) :
    (convert 34 9 (.slice (some ⟨N, 0, none⟩) 3 cap)).run Tryd.prog wr = .ok (.string ⟨#[x, y, z]⟩) wr := by
  refine run_convert_bytes_back wr 34 9 5 ⟨N, 0, none⟩ cap [x, y, z] Tryd.underlying34 Tryd.underlying5 Tryd.underlying9 fun j hj => ?_
  have hj3 : j < 3 := hj
  match j, hj3 with
  | 0, _ => exact row_cell h1 _ _ h2
  | 1, _ => exact row_cell h1 _ _ h3
  | 2, _ => exact row_cell h1 _ _ h4
end Go.Proofs.YtjipjhpehfbpkaaDoor
