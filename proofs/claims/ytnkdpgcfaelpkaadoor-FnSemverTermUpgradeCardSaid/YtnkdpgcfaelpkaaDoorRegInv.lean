/-
  A region that draws its order, walked by an invariant over what has been carried out: one obligation an operation, whatever the order.
-/
import Derived.Orders
import Derived.Lib.Hide
import Derived.WalkKit
namespace Go.Proofs.YtnkdpgcfaelpkaaDoor
open Go Go.RowKit
section
variable {P : Program} {ops : Array Oper} {Q : Exit → Act → World → Prop} {md : Region.Mode}
def unlisted (l : Array Bool) (n : Nat) : Nat := ((List.range n).filter fun i => !l.getD i true).length
theorem wpAny_inv (I : Array Bool → Act → World → Prop)
    (hstep : ∀ (listed : Array Bool) (a : Act) (w : World) (i : Nat), I listed a w → listed.size = ops.size → i ∈ Region.ready md ops listed → wpOp P ops Q i (I (listed.setIfInBounds i true)) a w)
    (hend : ∀ (listed : Array Bool) (a : Act) (w : World), I listed a w → listed.size = ops.size → Region.ready md ops listed = [] → Q .normal a w) :
    ∀ (fuel : Nat) (listed : Array Bool) (a : Act) (w : World), I listed a w → listed.size = ops.size → unlisted listed ops.size ≤ fuel → wpAny P md ops Q fuel listed a w := by
  have mono : ∀ (listed : Array Bool) (i : Nat), listed.size = ops.size → i ∈ Region.ready md ops listed → unlisted (listed.setIfInBounds i true) ops.size < unlisted listed ops.size := by
    intro listed i hs hi
    unfold Region.ready at hi
    rw [List.mem_filter, List.mem_range] at hi
    obtain ⟨hi1, hi2⟩ := hi
    simp only [Bool.and_eq_true, Bool.not_eq_true'] at hi2
    unfold unlisted
    have hsub : ∀ j, (!(listed.setIfInBounds i true).getD j true) = true → (!listed.getD j true) = true := by
      intro j hj
      by_cases hji : j = i
      · subst hji
        simp [Array.getD, hs, hi1] at hj
      · rw [Array.getD_eq_getD_getElem?, Array.getElem?_setIfInBounds_ne (by omega), ← Array.getD_eq_getD_getElem?] at hj
        exact hj
    have key : ∀ (l : List Nat), i ∈ l → (l.filter fun j => !(listed.setIfInBounds i true).getD j true).length < (l.filter fun j => !listed.getD j true).length := by
      intro l
      induction l with
      | nil => intro h; cases h
      | cons b r ih =>
        intro h
        have hle : (r.filter fun j => !(listed.setIfInBounds i true).getD j true).length ≤ (r.filter fun j => !listed.getD j true).length := by
          clear ih h
          induction r with
          | nil => simp
          | cons c r ih2 =>
            rw [List.filter_cons, List.filter_cons]
            split
            · rename_i h1
              rw [if_pos (hsub c h1)]
              rw [List.length_cons, List.length_cons]; exact Nat.succ_le_succ ih2
            · split
              · rw [List.length_cons]; exact Nat.le_succ_of_le ih2
              · exact ih2
        rw [List.filter_cons, List.filter_cons]
        by_cases hb : b = i
        · subst hb
          have e1 : (!(listed.setIfInBounds b true).getD b true) = false := by
            rw [Array.getD_eq_getD_getElem?, Array.getElem?_setIfInBounds]
            simp [hs, hi1]
          have e2 : (!listed.getD b true) = true := by rw [hi2.1]; rfl
          rw [if_neg (by rw [e1]; simp), if_pos e2]
          rw [List.length_cons]; exact Nat.lt_succ_of_le hle
        · have hm : i ∈ r := by
            rcases List.mem_cons.1 h with h | h
            · exact absurd h.symm hb
            · exact h
          have := ih hm
          split
          · rename_i h1
            rw [if_pos (hsub b h1)]
            rw [List.length_cons, List.length_cons]; exact Nat.succ_lt_succ this
          · split
            · rw [List.length_cons]; exact Nat.lt_succ_of_lt this
            · exact this
    exact key _ (List.mem_range.2 hi1)
  intro fuel
  induction fuel with
  | zero =>
    intro listed a w hI hs hf
    have hr : Region.ready md ops listed = [] := by
      cases h : Region.ready md ops listed with
      | nil => rfl
      | cons i t =>
        have := mono listed i hs (by rw [h]; exact List.mem_cons_self)
        omega
    exact ⟨hr, hend listed a w hI hs hr⟩
  | succ fuel ih =>
    intro listed a w hI hs hf
    refine ⟨fun hr => hend listed a w hI hs hr, fun i hi => ?_⟩
    have hm := mono listed i hs hi
    exact wpOp_mono (fun a' w' hI' => ih _ a' w' hI' (by simp [hs]) (by omega)) (hstep listed a w i hI hs hi)
/-- the frame with values laid into some slots -/
def putAll (a : Act) : List Tmp → (Nat → Value) → Act
  | [], _ => a
  | d :: ds, u => putAll (a.put (some d) (u d)) ds u
def upd (u : Nat → Value) (d : Nat) (v : Value) : Nat → Value := fun e => if e = d then v else u e
theorem put_own (a : Act) (d : Tmp) : a.put (some d) (a.tmps.getD d undef) = a := by
  unfold Act.put
  have : a.tmps.setIfInBounds d (a.tmps.getD d undef) = a.tmps := by
    by_cases h : d < a.tmps.size
    · apply Array.ext
      · simp
      · intro i h1 h2
        by_cases e : d = i
        · subst e
          rw [Array.getElem_setIfInBounds_self, Array.getD_eq_getD_getElem?, Array.getElem?_eq_getElem h]
          rfl
        · rw [Array.getElem_setIfInBounds_ne h2 e]
    · simp [Array.setIfInBounds, h]
  show { a with tmps := a.tmps.setIfInBounds d (a.tmps.getD d undef) } = a
  rw [this]
theorem putAll_own (a : Act) : ∀ ds : List Tmp, putAll a ds (fun d => a.tmps.getD d undef) = a
  | [] => rfl
  | d :: ds => by
    unfold putAll
    rw [put_own]
    exact putAll_own a ds
/-- .. with a relation R over what is listed, the slots' values and the world -/
theorem wp_region_vals {id : Nat} {a : Act} {w : World} (hm : P.follows .mixedOrders = true) (ds : List Tmp) (R : Array Bool → (Nat → Value) → World → Prop)
    (hfirst : R (Array.replicate ops.size false) (fun d => a.tmps.getD d undef) w.drew)
    (hstep : ∀ (listed : Array Bool) (u : Nat → Value) (w : World) (i : Nat), R listed u w → listed.size = ops.size → i ∈ Region.ready .any ops listed → wpOp P ops Q i (fun a' w' => ∃ u', a' = putAll a ds u' ∧ R (listed.setIfInBounds i true) u' w') (putAll a ds u) w)
    (hend : ∀ (listed : Array Bool) (u : Nat → Value) (w : World), R listed u w → listed.size = ops.size → Region.ready .any ops listed = [] → Q .normal (putAll a ds u) w) :
    (Code.region id ops true).wp P Q a w :=
  wp_region_any hm (wpAny_inv (fun listed a' w' => ∃ u, a' = putAll a ds u ∧ R listed u w')
    (fun listed a' w' i ⟨u, e, h⟩ hs hi => by subst e; exact hstep listed u w' i h hs hi)
    (fun listed a' w' ⟨u, e, h⟩ hs hr => by subst e; exact hend listed u w' h hs hr) _ _ _ _ ⟨_, (putAll_own a ds).symm, hfirst⟩ (by simp) (by
    unfold unlisted
    exact Nat.le_trans (List.length_filter_le _ _) (by simp)))
/-- an operation without a guard, its follower behind a letter -/
theorem wpOp_free {i : Nat} {o : Oper} {K : Act → World → Prop} {a : Act} {w : World} (ho : ops[i]? = some o) (hg : o.guard = none)
    (h : ∀ K' : Act → World → Prop, Hid (∀ a w, K a w → K' a w) → o.wp P a w K' Q) : wpOp P ops Q i K a w := by
  unfold wpOp
  rw [ho]
  simp only
  rw [if_pos (by unfold Region.wanted; rw [hg])]
  exact .inl (h K (Lib.hid fun _ _ h => h))
theorem ready_mem {i : Nat} {listed : Array Bool} (h : i ∈ Region.ready md ops listed) : i < ops.size ∧ listed.getD i true = false ∧ ((ops[i]?).map (·.after.all fun e => !Region.binds md e || listed.getD e.on false)).getD false = true := by
  unfold Region.ready at h
  rw [List.mem_filter, List.mem_range] at h
  simp only [Bool.and_eq_true, Bool.not_eq_true'] at h
  exact ⟨h.1, h.2.1, h.2.2⟩
theorem not_ready {listed : Array Bool} (h : Region.ready md ops listed = []) (i : Nat) (hi : i < ops.size) (ha : ((ops[i]?).map (·.after.all fun e => !Region.binds md e || listed.getD e.on false)).getD false = true) : listed.getD i true = true := by
  cases hl : listed.getD i true with
  | true => rfl
  | false =>
    exfalso
    have : i ∈ Region.ready md ops listed := by
      unfold Region.ready
      rw [List.mem_filter, List.mem_range]
      exact ⟨hi, by rw [hl, ha]; rfl⟩
    rw [h] at this
    cases this
end
end Go.Proofs.YtnkdpgcfaelpkaaDoor
