/-
  path's getEsc and scanChunk; utf8.DecodeRuneInString of ASCII.
-/
import Derived.Test.YtmjipdcohkiblaaDoorStr
import Derived.Test.YtmjipdcohkiblaaDoorMatM
import Derived.Test.YtmjipdcohkiblaaDoorRefW
import Derived.WalkKit
import Derived.Handy
import Derived.Lib.Hide
import Derived.Deep.LoopGhost
import Derived.Deep.CutBlock
import Derived.Deep.DeepCutAuto
namespace Go.Proofs.YtmjipdcohkiblaaDoor
open Go.RowKit
set_option maxRecDepth 100000
set_option linter.unusedVariables false

theorem bs_ext (s : ByteArray) (a b : Nat) : M.bs (s.extract a b) = ((M.bs s).drop a).take (b - a) := by
  unfold M.bs
  rw [ByteArray.data_extract, Array.toList_extract, List.extract_eq_take_drop]
theorem bs_tail {s : ByteArray} {c : UInt8} {r : M.Bs} (h : M.bs s = c :: r) : M.bs (s.extract 1 s.size) = r := by
  rw [bs_ext, h]
  have : s.size = r.length + 1 := by rw [← M.bs_length, h]; rfl
  simp only [List.drop_succ_cons, List.drop_zero]
  exact List.take_of_length_le (by omega)
theorem bs_pos {s : ByteArray} {c : UInt8} {r : M.Bs} (h : M.bs s = c :: r) : 0 < s.size := by
  rw [← M.bs_length, h]; simp
theorem bs_first {s : ByteArray} {c : UInt8} {r : M.Bs} (h : M.bs s = c :: r) (h0 : 0 < s.size) : s[0] = c := by
  have h2 : s.data.toList = c :: r := h
  have h3 : s[0] = s.data.toList[0]'(by rw [h2]; simp) := rfl
  rw [h3]
  simp [h2]
theorem first_is {s : ByteArray} {c : UInt8} {r : M.Bs} (h : M.bs s = c :: r) (h0 : 0 < s.size) (n : Int) (b : Bool) (hb : ((c.toNat : Int) == n) = b) : ((s[0].toNat : Int) == n) = b := by rw [bs_first h h0]; exact hb
theorem u8_ne {c d : UInt8} (h : c ≠ d) : ((c.toNat : Int) == (d.toNat : Int)) = false := by
  rw [beq_eq_false_iff_ne]
  intro e
  exact h (UInt8.toNat_inj.1 (by omega))
/-- DecodeRuneInString of a byte of ASCII -/
theorem decode_low (s : ByteArray) (c : UInt8) (r : M.Bs) (hs : M.bs s = c :: r) (hc : c.toNat < 128) (w : World) :
    Calls Tryd.prog 19 #[.string s] w fun e w' => e = .returned (.tuple #[.int .i32 (c.toNat : Int), .int .i64 1]) ∧ w = w' := by
  have h0 := bs_pos hs
  have hf := bs_first hs h0
  have e1 : s.toList.isEmpty = false := by rw [toList_bs, hs]; rfl
  have e3 : (s[0].toNat : Int) < 128 := by rw [hf]; omega
  have HF := Lib.hid hf
  clear hs hf hc
  go_enter Tryd.func19, Tryd.ntmps19
  go_wp2
  go_ret2
  exact ⟨by rw [← HF.out]; rfl, rfl⟩
/-- getEsc of a byte with a backslash ahead of it -/
def EscRes (k : Nat) (r : M.Bs) (w : World) (e : Ending) (w' : World) : Prop := ∃ n : ByteArray, e = .returned (.tuple #[.int .i32 (k : Int), .string n, .nilIface]) ∧ M.bs n = r ∧ w = w'
theorem getEsc_any (C : ByteArray) (c d : UInt8) (r : M.Bs) (hC : M.bs C = 92 :: c :: d :: r) (n : Nat) (hn : c.toNat = n) (hc : n < 128) (w : World) :
    Calls Tryd.prog 20 #[.string C] w (EscRes n (d :: r) w) := by
  have h0 := bs_pos hC
  have f1 := first_is hC h0 45 false rfl
  have f2 := first_is hC h0 93 false rfl
  have f3 := first_is hC h0 92 true rfl
  obtain ⟨C2, hC2⟩ : ∃ x, C.extract 1 C.size = x := ⟨_, rfl⟩
  have hb2 : M.bs C2 = c :: d :: r := by rw [← hC2]; exact bs_tail hC
  have h2 := bs_pos hb2
  obtain ⟨C3, hC3⟩ : ∃ x, C2.extract 1 C2.size = x := ⟨_, rfl⟩
  have hb3 : M.bs C3 = d :: r := by rw [← hC3]; exact bs_tail hb2
  have h3 := bs_pos hb3
  have hz : C3.size ≠ 0 := by omega
  have h1s : 1 ≤ C2.size := h2
  have h1t : 1 ≤ C.size := h0
  have n1 : ((n : Int) == 65533) = false := by rw [beq_eq_false_iff_ne]; omega
  have HB2 := Lib.hid hb2
  have HB3 := Lib.hid hb3
  have HD : Hid (∀ w : World, Calls Tryd.prog 19 #[.string C2] w fun e w' => e = .returned (.tuple #[.int .i32 (n : Int), .int .i64 1]) ∧ w = w') := Lib.hid (fun w => by have := decode_low C2 c _ HB2.out (by omega) w; rw [hn] at this; exact this)
  clear hn hc hC hb2 hb3
  have z1 : ((C3.size : Int) == 0) = false := by rw [beq_eq_false_iff_ne]; omega
  have z2 : ((C2.size : Int) == 0) = false := by rw [beq_eq_false_iff_ne]; omega
  have z3 : ((C.size : Int) == 0) = false := by rw [beq_eq_false_iff_ne]; omega
  clear hz
  go_enter Tryd.func20, Tryd.ntmps20
  go_wp2_with (go_at_call 19; (with_reducible refine (HD.out _).mono ?_); rintro e w1 ⟨rfl, rfl⟩)
  go_ret3
  exact ⟨C3, rfl, HB3.out, rfl⟩
theorem enc_head {m : M.Mk} {I : List M.Mk} (hw : m.wf) : ∃ x r, M.enc (m :: I) = x :: r ∧ x ≠ 42 := by
  rw [M.enc_cons]
  cases m with
  | lit c e =>
    cases e with
    | false => exact ⟨c, _, rfl, (M.special_no hw).1⟩
    | true => exact ⟨92, _, rfl, by decide⟩
  | any => exact ⟨63, _, rfl, by decide⟩
  | cls c => exact ⟨91, _, rfl, by decide⟩
def ScanRes (st : Bool) (I : List M.Mk) (rest : M.Bs) (w : World) (e : Ending) (w' : World) : Prop := (∃ c r : ByteArray, e = .returned (.tuple #[.bool st, .string c, .string r]) ∧ M.bs c = M.enc I ∧ M.bs r = rest) ∧ Below w.heap.size w w'
/-- at the head of scanChunk's second loop -/
def ScRel (Q : ByteArray) (K gf i : Nat) (inr : Bool) : Prop := M.scanF (M.bs Q) gf i inr = K ∧ Q.size ≤ i + gf ∧ i ≤ Q.size
def ScLoop (Q : ByteArray) (K : Nat) (b : Bool) (wr : World) (gf : Nat) (s2 s5 s6 : Value) (wx : World) : Prop := ∃ (i : Nat) (inr : Bool), s2 = .bool b ∧ s5 = .bool inr ∧ s6 = .int .i64 (i : Int) ∧ Hid (ScRel Q K gf i inr) ∧ wx = wr
theorem scRel_at {Q : ByteArray} {K g i : Nat} {inr : Bool} (h : ScRel Q K (g + 1) i inr) (hlt : i < Q.size) :
    (Q[i] = 92 → i + 1 < Q.size → ScRel Q K g (i + 2) inr) ∧ (Q[i] = 92 → ¬ i + 1 < Q.size → ScRel Q K g (i + 1) inr) ∧ (Q[i] = 91 → ScRel Q K g (i + 1) true) ∧ (Q[i] = 93 → ScRel Q K g (i + 1) false) ∧
    (Q[i] = 42 → inr = false → K = i) ∧ (Q[i] = 42 → inr = true → ScRel Q K g (i + 1) inr) ∧ (Q[i] ≠ 92 → Q[i] ≠ 91 → Q[i] ≠ 93 → Q[i] ≠ 42 → ScRel Q K g (i + 1) inr) := by
  obtain ⟨h1, h2, h3⟩ := h
  have hg : (M.bs Q)[i]? = some Q[i] := M.bs_get Q i hlt
  rw [M.scanF, hg] at h1
  simp only at h1
  have hl : (M.bs Q).length = Q.size := M.bs_length Q
  rw [hl] at h1
  refine ⟨fun e l => ?_, fun e l => ?_, fun e => ?_, fun e => ?_, fun e b => ?_, fun e b => ?_, fun e1 e2 e3 e4 => ?_⟩
  · rw [if_pos e, if_pos l] at h1; exact ⟨h1, by omega, by omega⟩
  · rw [if_pos e, if_neg l] at h1; exact ⟨h1, by omega, by omega⟩
  · rw [if_neg (by rw [e]; decide), if_pos e] at h1; exact ⟨h1, by omega, by omega⟩
  · rw [if_neg (by rw [e]; decide), if_neg (by rw [e]; decide), if_pos e] at h1; exact ⟨h1, by omega, by omega⟩
  · rw [if_neg (by rw [e]; decide), if_neg (by rw [e]; decide), if_neg (by rw [e]; decide), if_pos ⟨e, b⟩] at h1; exact h1.symm
  · rw [if_neg (by rw [e]; decide), if_neg (by rw [e]; decide), if_neg (by rw [e]; decide), if_neg (by rw [b]; simp)] at h1; exact ⟨h1, by omega, by omega⟩
  · rw [if_neg e1, if_neg e2, if_neg e3, if_neg (fun q => e4 q.1)] at h1; exact ⟨h1, by omega, by omega⟩
set_option maxHeartbeats 8000000 in
theorem scan_any (P : ByteArray) (st : Bool) (I : List M.Mk) (rest : M.Bs) (w : World) (hP : M.bs P = (if st then [42] else []) ++ (M.enc I ++ rest)) (hw : ∀ m ∈ I, m.wf) (hr : rest = [] ∨ ∃ r, rest = 42 :: r) (hI : rest = [] ∨ I ≠ []) (hz : P.size ≤ 2147483647) :
    Calls Tryd.prog 16 #[.string P] w (ScanRes st I rest w) := by
  have hK := M.scan_marks rest hr I hw [] 
  have hno : ∀ Q : ByteArray, M.bs Q = M.enc I ++ rest → ∀ h : 0 < Q.size, ((Q[0].toNat : Int) == 42) = false := fun Q hQ h => by
    have hne : I ≠ [] := by
      rcases hI with h1 | h1
      · intro e
        rw [e, h1] at hQ
        have : Q.size = 0 := by rw [← M.bs_length, hQ]; rfl
        omega
      · exact h1
    obtain ⟨m, I', rfl⟩ := List.exists_cons_of_ne_nil hne
    obtain ⟨x, r, h1, h2⟩ := enc_head (I := I') (hw m List.mem_cons_self)
    rw [h1] at hQ
    exact first_is hQ h 42 false (u8_ne h2)
  have HNO := Lib.hid hno
  have HK := Lib.hid hK
  have HP := Lib.hid hP
  have HZ := Lib.hid hz
  have HR := Lib.hid hr
  clear hK hno hP hw hr hI hz
  go_enter Tryd.func16, Tryd.ntmps16
  go_wp2
  go_loopw [0, 2] (fun s0 s2 wr => ∃ (Q : ByteArray) (b : Bool), s0 = .string Q ∧ s2 = .bool b ∧ Hid (Q.size ≤ 2147483647) ∧ Hid ((M.bs Q = M.enc I ++ rest ∧ b = st) ∨ (M.bs Q = 42 :: (M.enc I ++ rest) ∧ st = true ∧ b = false)) ∧ wr = w) (fun s0 _ _ => match s0 with | .string Q => Q.size | _ => 0)
  case atStart =>
    refine ⟨P, false, rfl, rfl, HZ, Lib.hid ?_, rfl⟩
    cases st with
    | false => exact .inl ⟨HP.out, rfl⟩
    | true => exact .inr ⟨HP.out, rfl, rfl⟩
  case round =>
    obtain ⟨Q, b, rfl, rfl, HZQ, HQ, rfl⟩ := hrel
    obtain ⟨K, hK⟩ : ∃ K, (M.enc I).length = K := ⟨_, rfl⟩
    by_cases hst : M.bs Q = M.enc I ++ rest ∧ b = st
    · obtain ⟨hQ, rfl⟩ := hst
      have HK0 := Lib.hid (show M.scanF (M.bs Q) Q.size 0 false = K by
        rw [hQ, ← hK]
        have := HK.out Q.size (by rw [← hQ, M.bs_length]; exact Nat.le_refl _)
        simpa using this)
      have HL := Lib.hid hK
      have HQQ := Lib.hid hQ
      have hN := HNO.out Q hQ
      clear hK hQ HQ HP HK HNO
      have hcase : Q.size = 0 ∨ ∃ h : 0 < Q.size, ((Q[0].toNat : Int) == 42) = false := by
        rcases Nat.eq_zero_or_pos Q.size with h | h
        · exact .inl h
        · exact .inr ⟨h, hN h⟩
      clear hN
      have hzi : (Q.size : Int) ≤ 2147483647 := by have := HZQ.out; omega
      rcases hcase with h0 | ⟨h0, hf⟩
      all_goals
        go_wp2
        try clear h0
        go_loopg [2, 5, 6] Q.size (fun gf s2 s5 s6 wx => ScLoop Q K b wr gf s2 s5 s6 wx)
        case atStart => exact ⟨0, false, rfl, rfl, rfl, Lib.hid ⟨HK0.out, by omega, Nat.zero_le _⟩, rfl⟩
        case round =>
          obtain ⟨i, inr, rfl, rfl, rfl, HS, rfl⟩ := hrel
          clear HK0
          by_cases hlt : i < Q.size
          · obtain ⟨g', rfl⟩ : ∃ g', gk = g' + 1 := ⟨gk - 1, by have := HS.out.2.1; omega⟩
            obtain ⟨r1, r2, r3, r4, r5, r6, r7⟩ := scRel_at HS.out hlt
            have R1 := Lib.hid r1
            have R2 := Lib.hid r2
            have R3 := Lib.hid r3
            have R4 := Lib.hid r4
            have R5 := Lib.hid r5
            have R6 := Lib.hid r6
            have R7 := Lib.hid r7
            clear r1 r2 r3 r4 r5 r6 r7
            have i0 : (0 : Int) ≤ (i : Int) := by omega
            have i1 : (i : Int) ≤ 2147483647 := by omega
            by_cases c1 : Q[i] = 92
            · have e1 : ((Q[i].toNat : Int) == 92) = true := by rw [c1]; rfl
              have C1 := Lib.hid c1
              clear c1
              by_cases hl2 : i + 1 < Q.size
              · have hl3 : (i : Int) + 1 < (Q.size : Int) := by omega
                go_wp2
                go_roundg g'
                case measure => omega
                case rel => exact ⟨i + 2, inr, rfl, rfl, by go_num, Lib.hid (R1.out C1.out hl2), rfl⟩
              · have hl3 : ¬ (i : Int) + 1 < (Q.size : Int) := by omega
                go_wp2
                go_roundg g'
                case measure => omega
                case rel => exact ⟨i + 1, inr, rfl, rfl, by go_num, Lib.hid (R2.out C1.out hl2), rfl⟩
            · have e1 : ((Q[i].toNat : Int) == 92) = false := u8_ne (d := 92) c1
              have C1 := Lib.hid c1
              clear c1
              by_cases c2 : Q[i] = 91
              · have e2 : ((Q[i].toNat : Int) == 91) = true := by rw [c2]; rfl
                have C2 := Lib.hid c2
                clear c2
                go_wp2
                go_roundg g'
                case measure => omega
                case rel => exact ⟨i + 1, true, rfl, rfl, by go_num, Lib.hid (R3.out C2.out), rfl⟩
              · have e2 : ((Q[i].toNat : Int) == 91) = false := u8_ne (d := 91) c2
                have C2 := Lib.hid c2
                clear c2
                by_cases c3 : Q[i] = 93
                · have e3 : ((Q[i].toNat : Int) == 93) = true := by rw [c3]; rfl
                  have C3 := Lib.hid c3
                  clear c3
                  go_wp2
                  go_roundg g'
                  case measure => omega
                  case rel => exact ⟨i + 1, false, rfl, rfl, by go_num, Lib.hid (R4.out C3.out), rfl⟩
                · have e3 : ((Q[i].toNat : Int) == 93) = false := u8_ne (d := 93) c3
                  have C3 := Lib.hid c3
                  clear c3
                  by_cases c4 : Q[i] = 42
                  · have e4 : ((Q[i].toNat : Int) == 42) = true := by rw [c4]; rfl
                    have C4 := Lib.hid c4
                    clear c4
                    cases inr with
                    | true =>
                      go_wp2
                      go_roundg g'
                      case measure => omega
                      case rel => exact ⟨i + 1, true, rfl, rfl, by go_num, Lib.hid (R6.out C4.out (by trivial)), rfl⟩
                    | false =>
                      have hKi := R5.out C4.out rfl
                      have HKI := Lib.hid hKi
                      clear hKi
                      have hlt2 : i ≤ Q.size := by omega
                      go_wp2
                      go_region
                      all_goals
                        go_wp2
                        go_ret3
                        refine ⟨⟨_, _, rfl, ?_, ?_⟩, (Below.refl _ _).drew⟩
                        · rw [bs_ext, HQQ.out, ← HKI.out, ← HL.out]; simp
                        · rw [bs_ext, HQQ.out, ← HKI.out, ← HL.out]; simp only [List.drop_left]; refine List.take_of_length_le ?_; have := congrArg List.length HQQ.out; rw [M.bs_length, List.length_append] at this; omega
                  · have e4 : ((Q[i].toNat : Int) == 42) = false := u8_ne (d := 42) c4
                    have C4 := Lib.hid c4
                    clear c4
                    go_wp2
                    go_roundg g'
                    case measure => omega
                    case rel => exact ⟨i + 1, inr, rfl, rfl, by go_num, Lib.hid (R7.out C1.out C2.out C3.out C4.out), rfl⟩
          · have hi : i = Q.size := by have := HS.out.2.2; omega
            subst hi
            have hk := HS.out.1
            rw [M.scanF_end _ _ _ _ (by rw [M.bs_length]; exact Nat.le_refl _)] at hk
            have HKK := Lib.hid hk
            clear hk hlt
            go_wp2
            go_ret3
            have hlen := congrArg List.length HQQ.out
            rw [M.bs_length, List.length_append, HL.out, ← HKK.out] at hlen
            have hre : rest = [] := List.length_eq_zero_iff.1 (by omega)
            exact ⟨⟨Q, ⟨#[]⟩, rfl, by rw [HQQ.out, hre, List.append_nil], by rw [hre]; rfl⟩, Below.refl _ _⟩
    · obtain ⟨hQ, rfl, rfl⟩ := HQ.out.resolve_left hst
      have h0 := bs_pos hQ
      have hf := first_is hQ h0 42 true rfl
      obtain ⟨Q2, hQ2⟩ : ∃ x, Q.extract 1 Q.size = x := ⟨_, rfl⟩
      have hb2 : M.bs Q2 = M.enc I ++ rest := by rw [← hQ2]; exact bs_tail hQ
      have HB2 := Lib.hid hb2
      have hsz : Q2.size < Q.size := by
        have h1 := congrArg List.length hQ
        have h2 := congrArg List.length hb2
        rw [M.bs_length, List.length_cons] at h1
        rw [M.bs_length] at h2
        omega
      have HSZ := Lib.hid hsz
      clear hQ hb2 hst HK HNO HQ hsz hK
      go_wp2
      exact ⟨⟨Q2, true, rfl, rfl, Lib.hid (by have := HSZ.out; have := HZQ.out; omega), Lib.hid (.inl ⟨HB2.out, rfl⟩), by trivial⟩, HSZ.out⟩
end Go.Proofs.YtmjipdcohkiblaaDoor
