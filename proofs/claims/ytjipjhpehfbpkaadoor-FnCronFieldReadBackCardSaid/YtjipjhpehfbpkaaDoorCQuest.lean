/-
  The law of the question mark: walked.
-/
import Derived.Test.YtjipjhpehfbpkaaDoorCSpecG
import Derived.Test.YtjipjhpehfbpkaaDoorCGetF
namespace Go.Proofs.YtjipjhpehfbpkaaDoor
open Go.RowKit
set_option maxRecDepth 100000
set_option linter.unusedVariables false

namespace M
theorem splitOn_head {x c : UInt8} (h : c ≠ x) (l : Bs) : ∃ a t, splitOn x l = a :: t ∧ splitOn x (c :: l) = (c :: a) :: t := by
  cases hs : splitOn x l with
  | nil => exact absurd hs (splitOn_ne x l)
  | cons a t => exact ⟨a, t, rfl, by rw [splitOn, if_neg h, hs]⟩
/-- an item that begins with a mark alone ahead of its step -/
theorem item_mark (b : Bd) {h : Bs} (hh : h = [] ∨ ∃ r, h = 47 :: r) : item b (63 :: h) = item b (42 :: h) := by
  have hs : ∃ t, splitOn 47 (63 :: h) = [63] :: t ∧ splitOn 47 (42 :: h) = [42] :: t := by
    rcases hh with rfl | ⟨r, rfl⟩
    · exact ⟨[], rfl, rfl⟩
    · exact ⟨splitOn 47 r, splitOn_first 47 [63] r (by simp), splitOn_first 47 [42] r (by simp)⟩
  obtain ⟨t, h1, h2⟩ := hs
  unfold item
  rw [h1, h2]
  rfl
theorem pieces_cons {c : UInt8} (hc : c ≠ 44) (l : Bs) : ∃ a t, (c ≠ 44 → pieces (c :: l) = (c :: a) :: t) ∧ (∀ d : UInt8, d ≠ 44 → pieces (d :: l) = (d :: a) :: t) ∧ ∃ u, splitOn 44 l = a :: u := by
  cases hs : splitOn 44 l with
  | nil => exact absurd hs (splitOn_ne 44 l)
  | cons a u =>
    have key : ∀ d : UInt8, d ≠ 44 → pieces (d :: l) = (d :: a) :: u.filter (fun p => !p.isEmpty) := fun d hd => by
      unfold pieces
      rw [splitOn, if_neg hd, hs]
      rfl
    exact ⟨a, _, key c, key, u, rfl⟩
theorem head_piece {l a : Bs} {u : List Bs} (h : splitOn 44 l = a :: u) (hl : l = [] ∨ (∃ r, l = 47 :: r) ∨ ∃ r, l = 44 :: r) : a = [] ∨ ∃ r, a = 47 :: r := by
  rcases hl with rfl | ⟨r, rfl⟩ | ⟨r, rfl⟩
  · left; simp [splitOn] at h; exact h.1
  · right
    obtain ⟨a', t, h1, h2⟩ := splitOn_head (x := 44) (c := 47) (by decide) r
    rw [h2] at h
    exact ⟨a', (List.cons.inj h).1.symm⟩
  · left
    rw [splitOn, if_pos rfl] at h
    exact (List.cons.inj h).1.symm
theorem field_mark (b : Bd) {l : Bs} (hl : l = [] ∨ (∃ r, l = 47 :: r) ∨ ∃ r, l = 44 :: r) : field b (63 :: l) = field b (42 :: l) := by
  obtain ⟨a, t, _, h2, u, h3⟩ := pieces_cons (c := 63) (by decide) l
  unfold field
  rw [h2 63 (by decide), h2 42 (by decide), fieldL, fieldL, item_mark b (head_piece h3 hl)]
end M
theorem zzField_any (k : Nat) (s : ByteArray) (o : Option Nat) (w : World) (hk : k ≤ 5) (hs : s.size ≤ 2147483647) (hn : NumErrs w) (ho : Hid (M.field (M.bdOf k) (M.bs s) = o)) :
    Calls Tryd.prog 16 #[.int .i64 (k : Int), .string s] w (FldRes o w) := by
  have HN := Lib.hid hn
  have HL := Lib.hid (bd_le k)
  clear hn
  go_enter Tryd.func16, Tryd.ntmps16
  cases o with
  | some n =>
    go_wp2_with (first
      | (go_at_call 26; (with_reducible refine (zzBounds_any k hk _).mono ?_); rintro e w1 ⟨v, rfl, hnm, hb⟩; have HM := Lib.hid hnm; have HB := Lib.hid hb; clear hnm hb)
      | (go_at_call 25; (with_reducible refine (getField_some s (M.bdOf k) v n _ hs HL.out.1 HL.out.2 (HN.out.below HB.out) HM.out ho).mono ?_); rintro e w2 ⟨rfl, hb⟩; have HB2 := Lib.hid (Below.up HB.out hb); clear hb))
    go_ret2
    exact fldRes_some rfl rfl HB2.out
  | none =>
    go_wp2_with (first
      | (go_at_call 26; (with_reducible refine (zzBounds_any k hk _).mono ?_); rintro e w1 ⟨v, rfl, hnm, hb⟩; have HM := Lib.hid hnm; have HB := Lib.hid hb; clear hnm hb)
      | (go_at_call 25; (with_reducible refine (getField_none s (M.bdOf k) v _ hs HL.out.1 HL.out.2 (HN.out.below HB.out) HM.out ho).mono ?_); rintro e w2 ⟨⟨n, et, ev, rfl⟩, hb⟩; have HB2 := Lib.hid (Below.up HB.out hb); clear hb))
    go_ret2
    exact fldRes_none rfl _ _ _ rfl HB2.out
/-- what impl.CronField hands back -/
def fldV (o : Option Nat) : Value := .int .u64 ((o.getD 0 : Nat) : Int)
theorem cronField_any (k : Nat) (s : ByteArray) (o : Option Nat) (w : World) (hk : k ≤ 5) (hs : s.size ≤ 2147483647) (hn : NumErrs w) (ho : Hid (M.field (M.bdOf k) (M.bs s) = o)) (n : Nat) (b : Bool) (hnb : Hid (o.getD 0 = n ∧ o.isSome = b)) :
    Calls Tryd.prog 5 #[.int .i64 (k : Int), .string s] w fun e w' => e = .returned (.tuple #[.int .u64 (n : Int), .bool b]) ∧ Below w.heap.size w w' := by
  have HN := Lib.hid hn
  have hk2 : (k : Int) ≤ 5 := by omega
  have hk3 : (0 : Int) ≤ (k : Int) := by omega
  clear hn
  go_enter Tryd.func5, Tryd.ntmps5
  cases o with
  | some m =>
    have h1 : m = n := hnb.out.1
    have h2 : true = b := hnb.out.2
    subst h1 h2
    go_wp2_with (first
      | (go_at_call 16; (with_reducible refine (zzField_any k s _ _ hk hs HN.out ho).mono ?_); rintro e w1 ⟨rfl, hb⟩; have HB := Lib.hid hb; clear hb)
      | (go_at_call 15; (with_reducible refine (bits_some _ _).mono ?_); rintro e w2 ⟨rfl, rfl⟩))
    go_ret2
    exact ⟨rfl, HB.out⟩
  | none =>
    have h1 : 0 = n := hnb.out.1
    have h2 : false = b := hnb.out.2
    subst h1 h2
    go_wp2_with (first
      | (go_at_call 16; (with_reducible refine (zzField_any k s _ _ hk hs HN.out ho).mono ?_); rintro e w1 ⟨⟨n, et, ev, rfl⟩, hb⟩; have HB := Lib.hid hb; clear hb)
      | (go_at_call 15; (with_reducible refine (bits_bad _ _ _ _).mono ?_); rintro e w2 ⟨rfl, rfl⟩))
    go_ret2
    exact ⟨rfl, HB.out⟩
theorem add_q {a b : ByteArray} (h : a.size + b.size ≤ 9223372036854775807) : ∀ w : World, (Op.stringOp .add a b).run Tryd.prog w = .ok (.string (a ++ b)) w := fun w => run_string_add_sum w a b h
set_option maxHeartbeats 8000000 in
theorem quest_main (k : Nat) (b : ByteArray) (w : World) (hE : NumErrs w) (hk : k = 3 ∨ k = 5) (hs : b.size ≤ 256) (hb : ¬ 0 < b.size ∨ ∃ h : 0 < b.size, ((b[0].toNat : Int) != 47) = false ∨ (((b[0].toNat : Int) != 47) = true ∧ ((b[0].toNat : Int) != 44) = false)) :
    Calls Tryd.prog 3 #[.int .i64 (k : Int), .string b] w fun e w' => e = .returned (.bool true) ∧ Below w.heap.size w w' := by
  have hl : M.bs b = [] ∨ (∃ r, M.bs b = 47 :: r) ∨ ∃ r, M.bs b = 44 :: r := by
    rcases hb with h | ⟨h, h1 | ⟨_, h1⟩⟩
    · left
      have : (M.bs b).length = 0 := by rw [M.bs_length]; omega
      exact List.length_eq_zero_iff.1 this
    · right; left
      exact ⟨_, by rw [bs_cons b h, byte_eq (c := b[0]) 47 rfl (by simpa using h1)]⟩
    · right; right
      exact ⟨_, by rw [bs_cons b h, byte_eq (c := b[0]) 44 rfl (by simpa using h1)]⟩
  have HK5 : k ≤ 5 := by omega
  have q1 : M.bs (⟨#[63]⟩ ++ b) = 63 :: M.bs b := by simp [M.bs]
  have q2 : M.bs (⟨#[42]⟩ ++ b) = 42 :: M.bs b := by simp [M.bs]
  have z1 : ((⟨#[63]⟩ : ByteArray) ++ b).size ≤ 2147483647 := by rw [ByteArray.size_append]; show 1 + b.size ≤ _; omega
  have z2 : ((⟨#[42]⟩ : ByteArray) ++ b).size ≤ 2147483647 := by rw [ByteArray.size_append]; show 1 + b.size ≤ _; omega
  obtain ⟨o, ho⟩ : ∃ o, M.field (M.bdOf k) (42 :: M.bs b) = o := ⟨_, rfl⟩
  obtain ⟨n, hn⟩ : ∃ n, o.getD 0 = n := ⟨_, rfl⟩
  obtain ⟨r, hr⟩ : ∃ r, o.isSome = r := ⟨_, rfl⟩
  have HF1 : Hid (∀ w : World, NumErrs w → Calls Tryd.prog 5 #[.int .i64 (k : Int), .string (⟨#[63]⟩ ++ b)] w fun e w' => e = .returned (.tuple #[.int .u64 (n : Int), .bool r]) ∧ Below w.heap.size w w') := Lib.hid (fun w h => cronField_any k _ o w HK5 z1 h (Lib.hid (by rw [q1, M.field_mark _ hl, ho])) n r (Lib.hid ⟨hn, hr⟩))
  have HF2 : Hid (∀ w : World, NumErrs w → Calls Tryd.prog 5 #[.int .i64 (k : Int), .string (⟨#[42]⟩ ++ b)] w fun e w' => e = .returned (.tuple #[.int .u64 (n : Int), .bool r]) ∧ Below w.heap.size w w') := Lib.hid (fun w h => cronField_any k _ o w HK5 z2 h (Lib.hid (by rw [q2, ho])) n r (Lib.hid ⟨hn, hr⟩))
  have HR : Hid (∀ f v, FieldOk k (⟨#[42]⟩ ++ b) f v → v = 1 → r = true) := Lib.hid (fun f v h e => by
    obtain ⟨m, h1, _⟩ := h.2 e
    rw [q2, ho] at h1
    rw [← hr, h1]
    rfl)
  obtain ⟨mn, hmn⟩ : ∃ n, (M.bdOf k).mn = n := ⟨_, rfl⟩
  obtain ⟨mx, hmx⟩ : ∃ n, (M.bdOf k).mx = n := ⟨_, rfl⟩
  have HBO : Hid (∀ w : World, Calls Tryd.prog 7 #[.int .i64 (k : Int)] w fun e w' => e = .returned (.agg #[.int .i64 (mn : Int), .int .i64 (mx : Int), .int .i64 (k : Int)]) ∧ Below w.heap.size w w') := Lib.hid (fun w => by have := boundsOf_any k w HK5; rw [hmn, hmx] at this; exact this)
  have HSF : Hid (∀ w : World, Calls Tryd.prog 6 #[.agg #[.int .i64 (mn : Int), .int .i64 (mx : Int), .int .i64 (k : Int)], .string (⟨#[42]⟩ ++ b)] w (FieldRes k (⟨#[42]⟩ ++ b) w)) := Lib.hid (fun w => by have := specField_any k (⟨#[42]⟩ ++ b) w HK5 z2; rw [hmn, hmx] at this; exact this)
  have a1 := add_q (a := ⟨#[63]⟩) (b := b) (by show 1 + b.size ≤ _; omega)
  have a2 := add_q (a := ⟨#[42]⟩) (b := b) (by show 1 + b.size ≤ _; omega)
  have HN := Lib.hid hE
  have s1 : b.size ≤ 2147483647 := by omega
  have kk : (((k : Int) != 3) = false) ∨ (((k : Int) != 3) = true ∧ ((k : Int) != 5) = false) := by
    rcases hk with h | h
    · left; rw [h]; rfl
    · right; rw [h]; exact ⟨rfl, rfl⟩
  clear hE hl q1 q2 z1 z2 ho hn hr hmn hmx HK5 hk
  rcases kk with k1 | ⟨k1, k2⟩
  all_goals rcases hb with h | ⟨h, h1 | ⟨h1, h2⟩⟩
  all_goals
    go_enter Tryd.func3, Tryd.ntmps3
    go_upto_region 8 with (first
    | (go_at_call 5; (with_reducible refine (HF1.out _ HN.out).mono ?_); rintro e w1 ⟨rfl, hb⟩; have HN1 := Lib.hid (HN.out.below hb); have HB1 := Lib.hid hb; clear hb)
    | (go_at_call 5; (with_reducible refine (HF2.out _ HN1.out).mono ?_); rintro e w2 ⟨rfl, hb⟩; have HB2 := Lib.hid (Below.up HB1.out hb); clear hb)
    | (go_at_call 7; (with_reducible refine (HBO.out _).mono ?_); rintro e w3 ⟨rfl, hb⟩; have HB3 := Lib.hid (Below.up HB2.out hb); clear hb)
    | (go_at_call 6; (with_reducible refine (HSF.out _).mono ?_); rintro e w4 ⟨⟨f', v, rfl, hi⟩, hb⟩; have HB4 := Lib.hid (Below.up HB3.out hb); have HI := Lib.hid hi; clear hi hb)
    | (refine wpList_set_store rfl _ _ rfl _ noneF f' (by kernel_rfl) (by kernel_rfl) (SetAt.new w4 noneF 27 zero_set) ?_; intro W hW; have HW := Lib.hid (hW.bel HB4.out.size (HB4.out.alloc HB4.out.size _)); clear hW))
    rcases r with _ | _
    · by_cases hv : v = 1
      · exact absurd (HR.out f' v HI.out hv) (by simp)
      · have hv1 : ((v : Int) != 1) = true := by simp; omega
        clear hv
        go_wp2
        go_ret
        exact ⟨rfl, HW.out⟩
    · clear HR
      go_wp2
      go_ret
      exact ⟨rfl, HW.out⟩
theorem quest_walk (kd : Int) (b : ByteArray) (w : World) (hE : NumErrs w) (w0 : (Lit.int .i64 kd).wf = true) (w1 : b.size ≤ 140737488351232) :
    Calls Tryd.prog 3 #[.int .i64 kd, .string b] w fun e w' => e = .returned (.bool true) ∧ Below w.heap.size w w' := by
  clear w0
  by_cases h0 : 2147483647 < b.size
  · go_enter Tryd.func3, Tryd.ntmps3
    go_wp2
    go_ret
    exact ⟨rfl, Below.refl _ _⟩
  by_cases hk : kd = 3 ∨ kd = 5
  · by_cases h1 : b.size ≤ 256
    · by_cases h2 : ¬ 0 < b.size ∨ ∃ h : 0 < b.size, ((b[0].toNat : Int) != 47) = false ∨ (((b[0].toNat : Int) != 47) = true ∧ ((b[0].toNat : Int) != 44) = false)
      · rcases hk with rfl | rfl
        · exact quest_main 3 b w hE (.inl rfl) h1 h2
        · exact quest_main 5 b w hE (.inr rfl) h1 h2
      · have p0 : 0 < b.size := by
          rcases Nat.lt_or_ge 0 b.size with h | h
          · exact h
          · exact absurd (.inl (by omega)) h2
        have p1 : ((b[0].toNat : Int) != 47) = true := by
          cases h : ((b[0].toNat : Int) != 47) with
          | true => rfl
          | false => exact absurd (.inr ⟨p0, .inl h⟩) h2
        have p2 : ((b[0].toNat : Int) != 44) = true := by
          cases h : ((b[0].toNat : Int) != 44) with
          | true => rfl
          | false => exact absurd (.inr ⟨p0, .inr ⟨p1, h⟩⟩) h2
        clear h2
        have s1 : b.size ≤ 2147483647 := by omega
        clear h0
        rcases hk with rfl | rfl
        all_goals
          go_enter Tryd.func3, Tryd.ntmps3
          go_wp2
          go_ret
          exact ⟨rfl, Below.refl _ _⟩
    · have s1 : b.size ≤ 2147483647 := by omega
      have s2 : 256 < b.size := by omega
      clear h0 h1
      rcases hk with rfl | rfl
      all_goals
        go_enter Tryd.func3, Tryd.ntmps3
        go_wp2
        go_ret
        exact ⟨rfl, Below.refl _ _⟩
  · have s1 : b.size ≤ 2147483647 := by omega
    have k1 : (kd != 3) = true := by simp; omega
    have k2 : (kd != 5) = true := by simp; omega
    clear h0 hk
    go_enter Tryd.func3, Tryd.ntmps3
    go_wp2
    go_ret
    exact ⟨rfl, Below.refl _ _⟩
end Go.Proofs.YtjipjhpehfbpkaaDoor
