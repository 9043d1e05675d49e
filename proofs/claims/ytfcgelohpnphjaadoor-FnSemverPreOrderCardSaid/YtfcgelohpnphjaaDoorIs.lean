/-
  errors.Is of sentinels made by errors.New: the same one is told, another one is not. After the guide's worked SentryIs.lean (Derived/Test).
-/
import Derived.Test.YtfcgelohpnphjaaDoorChecked
import Derived.Test.YtfcgelohpnphjaaDoorSent
import Derived.WalkKit
import Derived.Handy
import Derived.LaidEql
import Derived.Stop.Asserts
import Derived.RowKitTokens
namespace Go.Proofs.YtfcgelohpnphjaaDoor
open Go.RowKit Go.Extern.Stop Go.Stop Go.Extern

namespace Is
theorem isTypeOf (v : Value) (w : World) : (Extern.ReflectliteType.typeOf #[.iface 164 v]).run Tryd.prog w = .ok (.iface 145 (.agg #[.pointer (some ⟨14, 164, none⟩)])) w := by kernel_rfl
def cmpF : TypeId → Sem Value := fun t => do Extern.Rtype.noPackHeld "Comparable" t; pure (.bool (← typeInfo t).comparable)
theorem isComparable (w : World) : ((Extern.ReflectliteType.method cmpF) #[.agg #[.pointer (some ⟨14, 164, none⟩)]]).run Tryd.prog w = .ok (.bool true) w := by kernel_rfl
theorem isComp : (Tryd.prog.info? 164).map (·.comparable) = some true := by kernel_rfl
theorem isSize : (Tryd.prog.info? 166).map (·.size) = some 1 := by kernel_rfl
theorem noIsE (v : Value) (xT : TypeId) (w : World) : (Instr.typeAssert (.iface 164 v) xT 147 true).run Tryd.prog w = .ok (.tuple #[.nilIface, .bool false]) w := run_typeAssert_lacksB Tryd.underlying147 (by kernel_rfl) (by kernel_rfl) v xT w
theorem noUnwrapE (v : Value) (xT : TypeId) (w : World) : (Instr.typeAssert (.iface 164 v) xT 150 true).run Tryd.prog w = .ok (.tuple #[.nilIface, .bool false]) w := run_typeAssert_lacksB Tryd.underlying150 (by kernel_rfl) (by kernel_rfl) v xT w
theorem noUnwrapsE (v : Value) (xT : TypeId) (w : World) : (Instr.typeAssert (.iface 164 v) xT 152 true).run Tryd.prog w = .ok (.tuple #[.nilIface, .bool false]) w := run_typeAssert_lacksB Tryd.underlying152 (by kernel_rfl) (by kernel_rfl) v xT w

/-- errors.Is(x, x), x a pointer to an errors.errorString. -/
theorem same (a : Addr) (w : World) :
    Calls Tryd.prog 109 #[.iface 164 (.pointer (some a)), .iface 164 (.pointer (some a))] w fun e w' => e = .returned (.bool true) ∧ w' = w := by
  obtain ⟨i, hi, hcmp⟩ := Option.map_eq_some_iff.1 isComp
  obtain ⟨j, hj, hjs⟩ := Option.map_eq_some_iff.1 isSize
  have h8 := @run_callFunc_extern Tryd.prog 136 _ Extern.ReflectliteType.typeOf Tryd.func136 (by kernel_rfl) (by kernel_rfl) (by kernel_rfl) (by kernel_rfl)
  have h32 := @run_callFunc_extern Tryd.prog 200 _ (Extern.ReflectliteType.method cmpF) Tryd.func200 (by kernel_rfl) (by kernel_rfl) (by kernel_rfl) (by kernel_rfl)
  have tT := isTypeOf
  have cT := isComparable
  have heq := run_eql_iface_ptr_same (P := Tryd.prog) w a Tryd.underlying75 Tryd.underlying164 hi hcmp hj
  go_enter Tryd.func109, Tryd.ntmps109
  go_wp2
  refine wp_loop_rounds 1 ?_
  rw [rounds_succ]
  go_wp2
  go_ret
  exact ⟨rfl, rfl⟩

/-- errors.Is(x, y), two different pointers to errors.errorString. -/
theorem other (a b : Addr) (ca cb : Array Value) (ta tb : TypeId) (w : World) (hne : a ≠ b) (ha : w.heap[a.block]? = some (.cells ca ta (0, 0))) (hb : w.heap[b.block]? = some (.cells cb tb (0, 0))) :
    Calls Tryd.prog 109 #[.iface 164 (.pointer (some a)), .iface 164 (.pointer (some b))] w fun e w' => e = .returned (.bool false) ∧ w' = w := by
  obtain ⟨i, hi, hcmp⟩ := Option.map_eq_some_iff.1 isComp
  obtain ⟨j, hj, hjs⟩ := Option.map_eq_some_iff.1 isSize
  have h8 := @run_callFunc_extern Tryd.prog 136 _ Extern.ReflectliteType.typeOf Tryd.func136 (by kernel_rfl) (by kernel_rfl) (by kernel_rfl) (by kernel_rfl)
  have h32 := @run_callFunc_extern Tryd.prog 200 _ (Extern.ReflectliteType.method cmpF) Tryd.func200 (by kernel_rfl) (by kernel_rfl) (by kernel_rfl) (by kernel_rfl)
  have tT := isTypeOf
  have cT := isComparable
  have nE := noIsE
  have uE := noUnwrapE
  have vE := noUnwrapsE
  have heq := run_eql_iface_ptr_other (P := Tryd.prog) w Tryd.underlying75 Tryd.underlying164 hi hcmp hj (by rw [hjs]; decide) hne ha hb
  go_enter Tryd.func109, Tryd.ntmps109
  go_wp2
  refine wp_loop_rounds 1 ?_
  rw [rounds_succ]
  go_wp2
  go_ret
  exact ⟨rfl, rfl⟩
end Is

/-- errors.Is of two of the sentinels -/
theorem Sent.Errs.is {gs : List Nat} {w : World} {sa : Nat → Addr} (h : Sent.Errs gs w sa) (i j : Nat) (hi : i < gs.length) (hj : j < gs.length) :
    Calls Tryd.prog 109 #[.iface 164 (.pointer (some (sa i))), .iface 164 (.pointer (some (sa j)))] w fun e w' => e = .returned (.bool (i == j)) ∧ w' = w := by
  by_cases e : i = j
  · subst e
    simpa using Is.same (sa i) w
  · obtain ⟨ca, ta, ha⟩ := h.blk i hi
    obtain ⟨cb, tb, hb⟩ := h.blk j hj
    have := Is.other (sa i) (sa j) ca cb ta tb w (fun q => e (h.inj i j hi hj q)) ha hb
    rw [show (i == j) = false from by simp [e]]
    exact this
end Go.Proofs.YtfcgelohpnphjaaDoor
