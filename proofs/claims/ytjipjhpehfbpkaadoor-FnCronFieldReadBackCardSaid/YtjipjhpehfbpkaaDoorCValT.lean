/-
  spec.CronValueText. Printed by tools/gen_cvalt.py.
-/
import Derived.Test.YtjipjhpehfbpkaaDoorCNumT
import Derived.Test.YtjipjhpehfbpkaaDoorCNamed
namespace Go.Proofs.YtjipjhpehfbpkaaDoor
open Go.RowKit
set_option maxRecDepth 100000
set_option linter.unusedVariables false

/-- a spelling of a value: it means the value, and no sign stands in it -/
structure ValT (k v : Nat) (t : ByteArray) : Prop where
  is : M.ion (M.bdOf k).nm (M.bs t) = some v
  clean : ∀ c ∈ M.bs t, (48 ≤ c.toNat ∧ c.toNat ≤ 57) ∨ (65 ≤ c.toNat ∧ c.toNat < 128)
  small : t.size ≤ 29
theorem num_rep (z v : Nat) (h : v < 9223372036854775808) : M.num (List.replicate z 48 ++ Lib.decDigits v) = some v ∧ M.digits (List.replicate z 48 ++ Lib.decDigits v) = true := by
  have hd : M.digits (List.replicate z 48 ++ Lib.decDigits v) = true := by
    induction z with
    | zero => exact M.dec_digits v
    | succ z ih =>
      rw [List.replicate_succ, List.cons_append]
      simp only [M.digits, Bool.and_eq_true] at ih ⊢
      exact ⟨rfl, by rw [List.all_cons, ih.2]; rfl⟩
  have hv : M.val (List.replicate z 48 ++ Lib.decDigits v) = v := by
    rw [M.val_append, M.dec_val]
    have : M.val (List.replicate z 48) = 0 := by
      induction z with
      | zero => rfl
      | succ z ih =>
        rw [List.replicate_succ', M.val_append, ih (by
          clear ih
          simp only [M.digits, Bool.and_eq_true, List.all_append] at hd ⊢
          refine ⟨?_, ?_, (M.dec_spec v).1⟩
          · cases hq : Lib.decDigits v with
            | nil => exact absurd hq (M.dec_spec v).2.1
            | cons _ _ => cases z <;> rfl
          · rw [List.all_eq_true]
            intro c hc
            rw [List.eq_of_mem_replicate hc]
            rfl)]
        rfl
    rw [this]
    simp
  refine ⟨?_, hd⟩
  rw [M.num_digits hd (by rw [hv]; exact h), hv]
theorem numT_ok (k : Nat) (hk : k ≤ 5) (v : Nat) (hv : v ≤ 2147483647) {z : ByteArray} (hz : z.size ≤ 9) (h : M.bs z = List.replicate z.size 48) : ValT k v (z ++ dec v) := by
  obtain ⟨h1, h2⟩ := num_rep z.size v (by omega)
  have e : M.bs (z ++ dec v) = List.replicate z.size 48 ++ Lib.decDigits v := by rw [M.bs_append, h, dec_bs]
  refine ⟨?_, ?_, ?_⟩
  · rw [e, M.ion_dig (M.bd_noDig k) h2, h1]
  · intro c hc
    rw [e] at hc
    simp only [M.digits, Bool.and_eq_true, List.all_eq_true] at h2
    exact .inl (M.dig_iff.1 (h2.2 c hc))
  · rw [ByteArray.size_append]
    have := dec_twenty v hv
    omega
def ValText (k v S : Nat) (w : World) (e : Ending) (w' : World) : Prop :=
  ∃ t : ByteArray, e = .returned (.string t) ∧ ValT k v t ∧ StyleAt w' S ∧ Bar w.heap.size S w w'
/-- the kinds without names -/
theorem valText_plain (k v S : Nat) (hk3 : k ≤ 3) (w : World) (h : StyleAt w S) (hp : PowS S w) (hv2 : v ≤ 2147483647) :
    Calls Tryd.prog 45 #[.int .i64 (k : Int), .int .i64 (v : Int), .pointer (some ⟨S, 0, none⟩)] w (ValText k v S w) := by
  have H := Lib.hid h
  have HP := Lib.hid hp
  have hk : k ≤ 5 := by omega
  have hd := dec_twenty v hv2
  clear h hp
  go_enter Tryd.func45, Tryd.ntmps45
  go_wp2_with (go_at_call 52; (with_reducible refine (cronName_no k (v : Int) hk3 _).mono ?_); rintro e w1 ⟨rfl, rfl⟩)
  go_loopw [10] (fun u wr => ∃ z : ByteArray, u = .string z ∧ z.size ≤ 9 ∧ Hid (ZRel S w z wr)) (fun u _ => 9 - szOf u)
  case atStart => exact ⟨⟨#[]⟩, rfl, by decide, Lib.hid ⟨rfl, H.out, Bar.refl _ _ _⟩⟩
  case round =>
    obtain ⟨z, rfl, hz, HR⟩ := hrel
    have HW := Lib.hid HR.out
    have pk : Calls Tryd.prog 30 #[.pointer (some ⟨S, 0, none⟩), .int .i64 8] wr (Picked S 8 wr) := pick_any S 8 wr HR.out.2.1 (by omega) (by omega)
    clear HR
    have hN : (v : Int) ≤ 9223372036854775807 := by omega
    have a2 := add_ok (a := z) (b := dec v) (by omega)
    by_cases h9 : z.size < 9
    · have h9i : (z.size : Int) < 9 := by omega
      have a1 := add_ok (a := z) (b := ⟨#[48]⟩) (by show _ + 1 ≤ _; omega)
      have HZ := Lib.hid (zrel_snoc HW.out.1)
      go_wp2_with (first
          | (go_at_call 30; (refine pk.mono ?_); rintro e w1 ⟨r, rfl, hr, hs1, hb1⟩; have H1 := Lib.hid hs1; have B1 := Lib.hid (HW.out.2.2.up hb1); have P1 := Lib.hid (HP.out.bar H.out B1.out).here; clear hs1 hb1)
          | (go_at_call 56; (with_reducible refine (itoa_any v _ hN P1.out).mono ?_); rintro e w2 ⟨rfl, hb⟩; have H2 := Lib.hid (H1.out.below hb); have B2 := Lib.hid (B1.out.up (Bar.of hb)); clear hb)
          | fail)
      · refine ⟨⟨_, rfl, ?_, Lib.hid ⟨HZ.out, H1.out, B1.out⟩⟩, ?_⟩
        · rw [ByteArray.size_append]; exact h9
        · show 9 - (z ++ ⟨#[48]⟩).size < 9 - z.size
          rw [ByteArray.size_append]
          show 9 - (z.size + 1) < _
          omega
      · go_ret
        exact ⟨z ++ dec v, rfl, numT_ok k hk v hv2 hz HW.out.1, H2.out, B2.out⟩
    · have h9i : ¬ (z.size : Int) < 9 := by omega
      go_wp2_with (first
          | (go_at_call 30; (refine pk.mono ?_); rintro e w1 ⟨r, rfl, hr, hs1, hb1⟩; have H1 := Lib.hid hs1; have B1 := Lib.hid (HW.out.2.2.up hb1); have P1 := Lib.hid (HP.out.bar H.out B1.out).here; clear hs1 hb1)
          | (go_at_call 56; (with_reducible refine (itoa_any v _ hN P1.out).mono ?_); rintro e w2 ⟨rfl, hb⟩; have H2 := Lib.hid (H1.out.below hb); have B2 := Lib.hid (B1.out.up (Bar.of hb)); clear hb)
          | fail)
      all_goals
        go_ret
        exact ⟨z ++ dec v, rfl, numT_ok k hk v hv2 hz HW.out.1, H2.out, B2.out⟩
/-- at the head of the letters' loop: the block's three cells -/
def FlT (N K S : Nat) (a b c : UInt8) (w : World) (k : Nat) (wr : World) : Prop :=
  (∃ x y z C, wr.heap[N]? = some (.cells C 5 (K, K + 1)) ∧ C[0]? = some (byteV x) ∧ C[1]? = some (byteV y) ∧ C[2]? = some (byteV z) ∧
    Lett a x ∧ Lett b y ∧ Lett c z ∧ (k ≤ 0 → x = a) ∧ (k ≤ 1 → y = b) ∧ (k ≤ 2 → z = c)) ∧ StyleAt wr S ∧ Bar w.heap.size S w wr
theorem FlT.pick {N K S : Nat} {a b c : UInt8} {w wr w1 : World} {k : Nat} (h : FlT N K S a b c w k wr) (hN : N ≠ S) (h1 : StyleAt w1 S) (hb : Bar wr.heap.size S wr w1) : FlT N K S a b c w k w1 := by
  obtain ⟨⟨x, y, z, C, g1, g⟩, g2, g3⟩ := h
  exact ⟨⟨x, y, z, C, by rw [hb.block N (Array.getElem?_eq_some_iff.1 g1).1 hN]; exact g1, g⟩, h1, g3.up hb⟩
theorem FlT.next {N K S : Nat} {a b c : UInt8} {w wr : World} {k : Nat} (h : FlT N K S a b c w k wr) : FlT N K S a b c w (k + 1) wr := by
  obtain ⟨⟨x, y, z, C, h1, h2, h3, h4, h5, h6, h7, h8, h9, h10⟩, h11⟩ := h
  exact ⟨⟨x, y, z, C, h1, h2, h3, h4, h5, h6, h7, fun e => h8 (by omega), fun e => h9 (by omega), fun e => h10 (by omega)⟩, h11⟩
theorem FlT.cell {N K S : Nat} {a b c : UInt8} {w wr : World} {k : Nat} (h : FlT N K S a b c w k wr) (hk : k < 3) : wr.cell? ⟨N, k, none⟩ = some (byteV (at3 a b c k)) := by
  obtain ⟨⟨x, y, z, C, h1, h2, h3, h4, h5, h6, h7, h8, h9, h10⟩, h11⟩ := h
  obtain rfl | rfl | rfl : k = 0 ∨ k = 1 ∨ k = 2 := by omega
  · rw [← h8 (Nat.le_refl _)]; exact row_cell h1 _ _ h2
  · rw [← h9 (Nat.le_refl _)]; exact row_cell h1 _ _ h3
  · rw [← h10 (Nat.le_refl _)]; exact row_cell h1 _ _ h4
theorem FlT.loose {N K S : Nat} {a b c : UInt8} {w wr : World} {k : Nat} (h : FlT N K S a b c w k wr) (hK : 3 ≤ K) (j : Nat) (hj : j < 3) : wr.frozen? ⟨N, j, none⟩ = false := by
  obtain ⟨⟨x, y, z, C, h1, _⟩, _⟩ := h
  exact fl_frozen h1 j (by omega)
theorem FlT.flip {N K S : Nat} {a b c : UInt8} {w wr : World} {k : Nat} (h : FlT N K S a b c w k wr) (hk : k < 3) (hN : w.heap.size ≤ N) (hNS : S < N) (h65 : 65 ≤ (at3 a b c k).toNat) (h90 : (at3 a b c k).toNat ≤ 90) :
    FlT N K S a b c w (k + 1) (wr.setCell ⟨N, k, none⟩ (byteV (UInt8.ofNat ((at3 a b c k).toNat + 32)))) := by
  obtain ⟨⟨x, y, z, C, h1, h2, h3, h4, h5, h6, h7, h8, h9, h10⟩, hs, h11⟩ := h
  have hs1 : (wr.setCell ⟨N, k, none⟩ (byteV (UInt8.ofNat ((at3 a b c k).toNat + 32)))).heap[N]? = some (.cells (C.setIfInBounds k (byteV (UInt8.ofNat ((at3 a b c k).toNat + 32)))) 5 (K, K + 1)) := by simp [World.setCell, Array.getElem?_modify, h1]
  have hs2 : StyleAt (wr.setCell ⟨N, k, none⟩ (byteV (UInt8.ofNat ((at3 a b c k).toNat + 32)))) S := hs.apart hNS _ _
  have hs3 : Bar w.heap.size S w (wr.setCell ⟨N, k, none⟩ (byteV (UInt8.ofNat ((at3 a b c k).toNat + 32)))) :=
    h11.trans (Bar.of ((Below.refl _ _).setCell (p := ⟨N, k, none⟩) hN _))
  obtain rfl | rfl | rfl : k = 0 ∨ k = 1 ∨ k = 2 := by omega
  · exact ⟨⟨_, y, z, _, hs1, getq_set_eq h2 _, (getq_set_ne (by omega) _).trans h3, (getq_set_ne (by omega) _).trans h4, Lett.flip h65 h90, h6, h7, fun e => by omega, fun e => h9 (by omega), fun e => h10 (by omega)⟩, hs2, hs3⟩
  · exact ⟨⟨x, _, z, _, hs1, (getq_set_ne (by omega) _).trans h2, getq_set_eq h3 _, (getq_set_ne (by omega) _).trans h4, h5, Lett.flip h65 h90, h7, fun e => by omega, fun e => by omega, fun e => h10 (by omega)⟩, hs2, hs3⟩
  · exact ⟨⟨x, y, _, _, hs1, (getq_set_ne (by omega) _).trans h2, (getq_set_ne (by omega) _).trans h3, getq_set_eq h4 _, h5, h6, Lett.flip h65 h90, fun e => by omega, fun e => by omega, fun e => by omega⟩, hs2, hs3⟩
theorem named3 {k v : Nat} (hn : M.named k v) : ∃ a b c : UInt8, M.nameL k v = [a, b, c] ∧ (65 ≤ a.toNat ∧ a.toNat ≤ 90) ∧ (65 ≤ b.toNat ∧ b.toNat ≤ 90) ∧ (65 ≤ c.toNat ∧ c.toNat ≤ 90) := by
  obtain ⟨_, _, h3, h4⟩ := M.look_named hn
  match hq : M.nameL k v, h3 with
  | [a, b, c], _ =>
    rw [hq] at h4
    exact ⟨a, b, c, rfl, h4 a (by simp), h4 b (by simp), h4 c (by simp)⟩
theorem nameT_ok {k v : Nat} (hn : M.named k v) (hk : k ≤ 5) {a b c x y z : UInt8} (e : M.nameL k v = [a, b, c]) (h1 : Lett a x) (h2 : Lett b y) (h3 : Lett c z) : ValT k v ⟨#[x, y, z]⟩ := by
  have hl : ∀ d ∈ M.bs ⟨#[x, y, z]⟩, 65 ≤ d.toNat ∧ d.toNat < 128 := by
    intro d hd
    simp [M.bs] at hd
    rcases hd with rfl | rfl | rfl
    · exact h1.2
    · exact h2.2
    · exact h3.2
  refine ⟨?_, fun d hd => .inr (hl d hd), by show 3 ≤ 29; omega⟩
  rw [M.ion_named hn (F := ⟨#[x, y, z]⟩) (by rw [e]; simp [M.bs, h1.1, h2.1, h3.1]) hl k hk, if_pos rfl]
set_option maxHeartbeats 4000000 in
/-- the kinds with names -/
theorem valText_named (k v S : Nat) (hn : M.named k v) (hk : k ≤ 5) (w : World) (h : StyleAt w S) (hp : PowS S w) (hv2 : v ≤ 2147483647) :
    Calls Tryd.prog 45 #[.int .i64 (k : Int), .int .i64 (v : Int), .pointer (some ⟨S, 0, none⟩)] w (ValText k v S w) := by
  have H := Lib.hid h
  have HP := Lib.hid hp
  have hd := dec_twenty v hv2
  clear h hp
  obtain ⟨a, b, c, hE, ha, hb, hc⟩ := named3 hn
  have HE := Lib.hid hE
  have H3 : Hid (∀ k, k < 3 → 65 ≤ (at3 a b c k).toNat ∧ (at3 a b c k).toNat ≤ 90) := Lib.hid (fun k hk => by
    obtain rfl | rfl | rfl : k = 0 ∨ k = 1 ∨ k = 2 := by omega
    · exact ha
    · exact hb
    · exact hc)
  have HAL := Lib.hid (And.intro (Lett.self ha.1 ha.2) (And.intro (Lett.self hb.1 hb.2) (Lett.self hc.1 hc.2)))
  have cn : ∀ w : World, Calls Tryd.prog 52 #[.int .i64 (k : Int), .int .i64 (v : Int)] w fun e w' => e = .returned (.string ⟨#[a, b, c]⟩) ∧ w = w' := fun w => by
    have := cronName_named hn w
    rw [hE] at this
    exact this
  have pk2 : Calls Tryd.prog 30 #[.pointer (some ⟨S, 0, none⟩), .int .i64 2] w (Picked S 2 w) := pick_any S 2 w H.out (by omega) (by omega)
  have hcv := fun (W : World) => run_bytes_of_string (P := Tryd.prog) W 9 34 5 ⟨#[a, b, c]⟩ Tryd.underlying9 Tryd.underlying34 Tryd.underlying5
  clear hE ha hb hc
  go_enter Tryd.func45, Tryd.ntmps45
  go_wp2_with (first
    | (go_at_call 52; (refine (cn _).mono ?_); rintro e w1 ⟨rfl, rfl⟩)
    | (go_at_call 30; (refine pk2.mono ?_); rintro e w1 ⟨r, rfl, hr, hs1, hb1⟩; have X1 := Lib.hid hs1; have Y1 := Lib.hid hb1; clear hs1 hb1)
    | fail)
  · rename_i hq _ _
    rw [hq]
    clear hq
    have I : Hid (FlT w1.heap.size (bytesRow ⟨#[a, b, c]⟩ (grownCap w1 3 0 5)).size S a b c w 0 (w1.alloc (.cells (bytesRow ⟨#[a, b, c]⟩ (grownCap w1 3 0 5)) 5 ((bytesRow ⟨#[a, b, c]⟩ (grownCap w1 3 0 5)).size, (bytesRow ⟨#[a, b, c]⟩ (grownCap w1 3 0 5)).size + 1))).drew) := Lib.hid
      ⟨⟨a, b, c, (bytesRow ⟨#[a, b, c]⟩ (grownCap w1 3 0 5)), (show (w1.heap.push _)[w1.heap.size]? = some _ from Array.getElem?_push_size), bytesRow_at ⟨#[a, b, c]⟩ (grownCap w1 3 0 5) 0 (show 0 < 3 by decide), bytesRow_at ⟨#[a, b, c]⟩ (grownCap w1 3 0 5) 1 (show 1 < 3 by decide), bytesRow_at ⟨#[a, b, c]⟩ (grownCap w1 3 0 5) 2 (show 2 < 3 by decide), HAL.out.1, HAL.out.2.1, HAL.out.2.2, fun _ => rfl, fun _ => rfl, fun _ => rfl⟩, X1.out.below (below_alloc w1 _).drew, (Y1.out.alloc Y1.out.size _).drew⟩
    have K3 : 3 ≤ (bytesRow ⟨#[a, b, c]⟩ (grownCap w1 3 0 5)).size := (show 2 < _ from (Array.getElem?_eq_some_iff.1 (bytesRow_at ⟨#[a, b, c]⟩ (grownCap w1 3 0 5) 2 (show 2 < 3 by decide))).1)
    clear HAL hcv
    have HNS := Lib.hid X1.out.lt
    have HNW := Lib.hid Y1.out.size
    generalize (bytesRow ⟨#[a, b, c]⟩ (grownCap w1 3 0 5)).size = K at *
    generalize (w1.alloc (.cells (bytesRow ⟨#[a, b, c]⟩ (grownCap w1 3 0 5)) 5 (K, K + 1))).drew = wI at *
    go_loopw [25] (fun i wr => ∃ k : Nat, k ≤ 3 ∧ i = .int .i64 (k : Int) ∧ Hid (FlT w1.heap.size K S a b c w k wr)) (fun i _ => 3 - (intOf i).toNat)
    case atStart => exact ⟨0, by omega, rfl, I⟩
    case round =>
      obtain ⟨j, hj, rfl, HR⟩ := hrel
      clear I
      have hj0 : (0 : Int) ≤ (j : Int) := by omega
      have pk : Calls Tryd.prog 30 #[.pointer (some ⟨S, 0, none⟩), .int .i64 2] wr (Picked S 2 wr) := pick_any S 2 wr HR.out.2.1 (by omega) (by omega)
      by_cases hlt : j < 3
      · have hj3 : (j : Int) < 3 := by omega
        obtain ⟨x65, x90⟩ := H3.out j hlt
        obtain ⟨x, hx⟩ : ∃ x, at3 a b c j = x := ⟨_, rfl⟩
        have HX := Lib.hid hx
        rw [hx] at x65 x90
        have HXX := Lib.hid (And.intro x65 x90)
        clear hx x65 x90
        go_wp2_with (go_at_call 30; (refine pk.mono ?_); rintro e w2 ⟨q, rfl, hq, hs2, hb2⟩; have F2 := Lib.hid (HR.out.pick (Nat.ne_of_gt HNS.out) hs2 hb2); have hce := F2.out.cell hlt; have hlo := F2.out.loose K3 j hlt; rw [HX.out] at hce; simp only [byteV] at hce; clear hs2 hb2)
        · go_roundw
          case rel =>
            refine ⟨j + 1, hlt, by go_num, Lib.hid ?_⟩
            have hfl := F2.out.flip hlt HNW.out HNS.out (by rw [HX.out]; exact HXX.out.1) (by rw [HX.out]; exact HXX.out.2)
            rw [HX.out] at hfl
            have e1 : ((x.toNat : Int) + 32) % 256 = ((UInt8.ofNat (x.toNat + 32)).toNat : Int) := by
              have := HXX.out.2
              rw [M.ofNat_toNat (by omega)]
              omega
            rw [e1]
            exact hfl
          case measure => simp [intOf]; omega
        · go_roundw
          case rel => exact ⟨j + 1, hlt, by go_num, Lib.hid F2.out.next⟩
          case measure => simp [intOf]; omega
      · have hj3 : ¬ (j : Int) < 3 := by omega
        obtain ⟨⟨x, y, z, C, h1, h2, h3, h4, h5, h6, h7, h8, h9, h10⟩, h11, h12⟩ := HR.out
        have hst := fl_string h1 h2 h3 h4 (grownCap w1 3 0 5)
        have HT := Lib.hid (And.intro (nameT_ok hn hk HE.out h5 h6 h7) (And.intro h11 h12))
        clear h1 h2 h3 h4 h5 h6 h7 h8 h9 h10 h11 h12
        go_wp2
        go_ret
        exact ⟨_, rfl, HT.out⟩
  · rename_i hq _ _
    rw [hq]
    clear hcv hq
    go_loopw [10] (fun u wr => ∃ z : ByteArray, u = .string z ∧ z.size ≤ 9 ∧ Hid (ZRel S w z wr)) (fun u _ => 9 - szOf u)
    case atStart => exact ⟨⟨#[]⟩, rfl, by decide, Lib.hid ⟨rfl, X1.out, Y1.out⟩⟩
    case round =>
      obtain ⟨z, rfl, hz, HR⟩ := hrel
      have HW := Lib.hid HR.out
      have pk : Calls Tryd.prog 30 #[.pointer (some ⟨S, 0, none⟩), .int .i64 8] wr (Picked S 8 wr) := pick_any S 8 wr HR.out.2.1 (by omega) (by omega)
      clear HR
      have hN : (v : Int) ≤ 9223372036854775807 := by omega
      have a2 := add_ok (a := z) (b := dec v) (by omega)
      by_cases h9 : z.size < 9
      · have h9i : (z.size : Int) < 9 := by omega
        have a1 := add_ok (a := z) (b := ⟨#[48]⟩) (by show _ + 1 ≤ _; omega)
        have HZ := Lib.hid (zrel_snoc HW.out.1)
        go_wp2_with (first
            | (go_at_call 30; (refine pk.mono ?_); rintro e w1 ⟨r, rfl, hr, hs1, hb1⟩; have H1 := Lib.hid hs1; have B1 := Lib.hid (HW.out.2.2.up hb1); have P1 := Lib.hid (HP.out.bar H.out B1.out).here; clear hs1 hb1)
            | (go_at_call 56; (with_reducible refine (itoa_any v _ hN P1.out).mono ?_); rintro e w2 ⟨rfl, hb⟩; have H2 := Lib.hid (H1.out.below hb); have B2 := Lib.hid (B1.out.up (Bar.of hb)); clear hb)
            | fail)
        · go_roundw
          case rel => exact ⟨_, rfl, (by rw [ByteArray.size_append]; exact h9), Lib.hid ⟨HZ.out, H1.out, B1.out⟩⟩
          case measure =>
            show 9 - (z ++ ⟨#[48]⟩).size < 9 - z.size
            rw [ByteArray.size_append]
            show 9 - (z.size + 1) < _
            omega
        · go_ret
          exact ⟨z ++ dec v, rfl, numT_ok k hk v hv2 hz HW.out.1, H2.out, B2.out⟩
      · have h9i : ¬ (z.size : Int) < 9 := by omega
        go_wp2_with (first
            | (go_at_call 30; (refine pk.mono ?_); rintro e w1 ⟨r, rfl, hr, hs1, hb1⟩; have H1 := Lib.hid hs1; have B1 := Lib.hid (HW.out.2.2.up hb1); have P1 := Lib.hid (HP.out.bar H.out B1.out).here; clear hs1 hb1)
            | (go_at_call 56; (with_reducible refine (itoa_any v _ hN P1.out).mono ?_); rintro e w2 ⟨rfl, hb⟩; have H2 := Lib.hid (H1.out.below hb); have B2 := Lib.hid (B1.out.up (Bar.of hb)); clear hb)
            | fail)
        all_goals
          go_ret
          exact ⟨z ++ dec v, rfl, numT_ok k hk v hv2 hz HW.out.1, H2.out, B2.out⟩
/-- spec.CronValueText of a value of a kind -/
theorem valText_any (k v S : Nat) (hk : k ≤ 5) (h1 : (M.bdOf k).mn ≤ v) (h2 : v ≤ (M.bdOf k).mx) (w : World) (h : StyleAt w S) (hp : PowS S w) (hv2 : v ≤ 2147483647) :
    Calls Tryd.prog 45 #[.int .i64 (k : Int), .int .i64 (v : Int), .pointer (some ⟨S, 0, none⟩)] w (ValText k v S w) := by
  by_cases h4 : 4 ≤ k
  · exact valText_named k v S (named_of h4 hk h1 h2) hk w h hp hv2
  · exact valText_plain k v S (by omega) w h hp hv2
end Go.Proofs.YtjipjhpehfbpkaaDoor
