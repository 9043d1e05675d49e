/-
  package cron's names of months and days: the maps, parseIntOrName.
-/
import Derived.Test.YtjipjhpehfbpkaaDoorCLower
import Derived.Maps.OwnOps
import Derived.Maps.OwnSet
import Derived.WalkSpells
namespace Go.Proofs.YtjipjhpehfbpkaaDoor
open Go.RowKit
open Go.Maps (Keyed)
set_option maxRecDepth 100000
set_option linter.unusedVariables false

namespace M
/-- a table of names, as a map's datum, and looked up -/
def tabD (T : List (Bs × Nat)) : DataW Unit := T.foldl (fun D r => D.put (.string r.1) (.lit (.int .u64 (r.2 : Int)))) (.map [])
def lookT (T : List (Bs × Nat)) (k : Bs) : Option Nat := T.foldl (fun a r => if r.1 = k then some r.2 else a) none
theorem tab_fold (k : Bs) : ∀ (T : List (Bs × Nat)) (D : DataW Unit) (a : Option Nat), Maps.IsMap D → Maps.has D (.string k) = a.isSome → (∀ v, a = some v → ∀ z, D.atKey (.string k) z = .lit (.int .u64 (v : Int))) →
    Maps.has (T.foldl (fun D r => D.put (.string r.1) (.lit (.int .u64 (r.2 : Int)))) D) (.string k) = (T.foldl (fun a r => if r.1 = k then some r.2 else a) a).isSome ∧
    ∀ v, T.foldl (fun a r => if r.1 = k then some r.2 else a) a = some v → ∀ z, (T.foldl (fun D r => D.put (.string r.1) (.lit (.int .u64 (r.2 : Int)))) D).atKey (.string k) z = .lit (.int .u64 (v : Int))
  | [], D, a, _, h1, h2 => ⟨h1, h2⟩
  | r :: T, D, a, hm, h1, h2 => by
    rw [List.foldl_cons, List.foldl_cons]
    by_cases e : r.1 = k
    · rw [if_pos e, e]
      refine tab_fold k T _ _ (hm.put _ _) (Maps.has_put_same hm (k := .string k) trivial _) (fun v hv z => ?_)
      obtain rfl := Option.some.inj hv
      exact Maps.atKey_put_same hm (k := .string k) trivial _ _
    · rw [if_neg e]
      have hne : (Lit.string k) ≠ Lit.string r.1 := fun h => e (by injection h with h; exact h.symm)
      refine tab_fold k T _ _ (hm.put _ _) (by rw [Maps.has_put_other hne]; exact h1) (fun v hv z => ?_)
      rw [Maps.atKey_put_other hne]
      exact h2 v hv z
theorem tab_spec (T : List (Bs × Nat)) (k : Bs) : Maps.has (tabD T) (.string k) = (lookT T k).isSome ∧ ∀ v, lookT T k = some v → ∀ z, (tabD T).atKey (.string k) z = .lit (.int .u64 (v : Int)) :=
  tab_fold k T _ _ Maps.isMap_empty rfl (fun v h => by cases h)
theorem lowFrom_len (s : ByteArray) : ∀ f pos, (lowFrom s f pos).length ≤ 4 * f
  | 0, _ => Nat.zero_le _
  | f + 1, pos => by
    unfold lowFrom
    split
    · have := lowFrom_len s f (pos + (Utf8.decode s pos).2)
      have := lowR_len (Utf8.decode s pos).1
      rw [List.length_append]
      omega
    · simp
theorem lower_len (s : ByteArray) : (lower s).length ≤ 4 * s.size := lowFrom_len s _ _
def nmOf (T : List (Bs × Nat)) : Bs → Option Nat := fun l => lookT T (lower ⟨l.toArray⟩)
theorem nmOf_bs (T : List (Bs × Nat)) (s : ByteArray) : nmOf T (bs s) = lookT T (lower s) := rfl
end M
theorem lawS : Keyed Tryd.prog 9 := Maps.string_keyed Tryd.underlying9
theorem zeroU (w : World) : (zeroValue 59).run Tryd.prog w = .ok (.int .u64 0) w := by kernel_rfl
/-- the names of a field, in memory -/
def Nm (w : World) (v : Value) (nm : Option (M.Bs → Option Nat)) : Prop :=
  (v = .map none ∧ nm = none) ∨ ∃ N n T, v = .map (some N) ∧ nm = some (M.nmOf T) ∧ w.ownsMap Tryd.prog 9 (plainElem (H := Unit) Tryd.prog 59) N n (M.tabD T)
theorem Nm.below {w w' : World} {v : Value} {nm : Option (M.Bs → Option Nat)} (h : Nm w v nm) (b : Below w.heap.size w w') : Nm w' v nm := by
  rcases h with h | ⟨N, n, T, h1, h2, h3⟩
  · exact .inl h
  · exact .inr ⟨N, n, T, h1, h2, h3.kept (Below.grown b) (by simp)⟩
set_option maxHeartbeats 2000000 in
theorem parseName_any (s : ByteArray) (v : Value) (nm : Option (M.Bs → Option Nat)) (o : Option Nat) (w : World) (hs : s.size ≤ 2147483647) (hn : NumErrs w) (hv : Nm w v nm) (ho : Hid (M.ion nm (M.bs s) = o)) :
    Calls Tryd.prog 47 #[.string s, v] w (NumRes o w) := by
  have HN := Lib.hid hn
  have hs2 : s.size ≤ 140737488351232 := by omega
  have hnq := fun (w : World) (r : Option Nat) => run_neq_map_nil (P := Tryd.prog) w 60 9 59 r Tryd.underlying60
  clear hn
  rcases hv with ⟨rfl, rfl⟩ | ⟨N, n, T, rfl, rfl, hown⟩
  · have HO : Hid (M.num (M.bs s) = o) := ho
    rcases o with _ | k
    · go_enter Tryd.func47, Tryd.ntmps47
      go_wp2_with (go_at_call 49; (with_reducible refine (mustParse_none s _ hs2 HN.out HO).mono ?_); rintro e w1 ⟨⟨t, v, rfl⟩, hb⟩; have HB := Lib.hid hb; clear hb)
      go_ret2
      exact ⟨⟨_, _, rfl⟩, HB.out⟩
    · go_enter Tryd.func47, Tryd.ntmps47
      go_wp2_with (go_at_call 49; (with_reducible refine (mustParse_some s k _ hs2 HN.out HO).mono ?_); rintro e w1 ⟨rfl, hb⟩; have HB := Lib.hid hb; clear hb)
      go_ret2
      exact ⟨rfl, HB.out⟩
  · have hsp := M.tab_spec T (M.lower s)
    have hkey : keyOf Tryd.prog 9 (.string ⟨(M.lower s).toArray⟩) = some (.string (M.lower s)) := by
      have := WideMaps.keyOf_string_mk (P := Tryd.prog) Tryd.underlying9 (s := ⟨(M.lower s).toArray⟩) (by
        have := M.lower_len s
        show (M.lower s).toArray.size ≤ _
        rw [List.size_toArray]
        unfold maxLen
        omega)
      simpa using this
    have HOW := Lib.hid hown
    have HK := Lib.hid hkey
    cases hl : M.lookT T (M.lower s) with
    | some k =>
      have HO : Hid (o = some k) := Lib.hid (by rw [← ho.out]; unfold M.ion; simp only [M.nmOf_bs, hl])
      have hhas : Maps.has (M.tabD T) (.string (M.lower s)) = true := by rw [hsp.1, hl]; rfl
      have HAT := Lib.hid (hsp.2 k hl)
      clear hsp hl ho hown hkey
      go_enter Tryd.func47, Tryd.ntmps47
      go_wp2_with (first
        | (go_at_call 58; (with_reducible refine (zzLower_any s _ hs).mono ?_); rintro e w1 ⟨rfl, hb⟩; have HB := Lib.hid hb; clear hb)
        | (at_lookup; refine wpList_lookup_own_ok_int _ rfl _ _ 60 rfl 9 59 .u64 lawS Tryd.underlying60 Tryd.underlying59 (zeroU _) N n _ rfl (HOW.out.kept (Below.grown HB.out) (by simp)) _ _ rfl HK.out ?_; intro c hat hwc; rw [HAT.out] at hat; obtain rfl : (k : Int) = c := (by simpa using hat); clear hat hwc))
      go_ret2
      rw [HO.out]
      exact ⟨rfl, HB.out⟩
    | none =>
      have HO : Hid (M.num (M.bs s) = o) := Lib.hid (by rw [← ho.out]; unfold M.ion; simp only [M.nmOf_bs, hl])
      have hhas : Maps.has (M.tabD T) (.string (M.lower s)) = false := by rw [hsp.1, hl]; rfl
      clear hsp hl ho hown hkey
      rcases o with _ | k
      · go_enter Tryd.func47, Tryd.ntmps47
        go_wp2_with (first
          | (go_at_call 58; (with_reducible refine (zzLower_any s _ hs).mono ?_); rintro e w1 ⟨rfl, hb⟩; have HB := Lib.hid hb; clear hb)
          | (at_lookup; refine wpList_lookup_own_ok_int _ rfl _ _ 60 rfl 9 59 .u64 lawS Tryd.underlying60 Tryd.underlying59 (zeroU _) N n _ rfl (HOW.out.kept (Below.grown HB.out) (by simp)) _ _ rfl HK.out ?_; intro c hat hwc; clear hat hwc)
          | (go_at_call 49; (with_reducible refine (mustParse_none s _ hs2 (HN.out.below HB.out) HO).mono ?_); rintro e w2 ⟨⟨t, v, rfl⟩, hb⟩; have HB2 := Lib.hid (Below.up HB.out hb); clear hb))
        go_ret2
        exact ⟨⟨_, _, rfl⟩, HB2.out⟩
      · go_enter Tryd.func47, Tryd.ntmps47
        go_wp2_with (first
          | (go_at_call 58; (with_reducible refine (zzLower_any s _ hs).mono ?_); rintro e w1 ⟨rfl, hb⟩; have HB := Lib.hid hb; clear hb)
          | (at_lookup; refine wpList_lookup_own_ok_int _ rfl _ _ 60 rfl 9 59 .u64 lawS Tryd.underlying60 Tryd.underlying59 (zeroU _) N n _ rfl (HOW.out.kept (Below.grown HB.out) (by simp)) _ _ rfl HK.out ?_; intro c hat hwc; clear hat hwc)
          | (go_at_call 49; (with_reducible refine (mustParse_some s k _ hs2 (HN.out.below HB.out) HO).mono ?_); rintro e w2 ⟨rfl, hb⟩; have HB2 := Lib.hid (Below.up HB.out hb); clear hb))
        go_ret2
        exact ⟨rfl, HB2.out⟩
end Go.Proofs.YtjipjhpehfbpkaaDoor
