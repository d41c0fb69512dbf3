/-
  errors.Is by its contracts, at the sentinels of package io: after the guide's worked SentryIs.lean, turned to this program's numbers.
-/
import Derived.Test.Qxb6618665aDoorChecked
import Derived.WalkKit
import Derived.LaidEql
import Derived.Stop.Asserts
import Derived.RowKitTokens
namespace Go.Proofs.Qxb6618665aDoor
open Go.RowKit Go.Extern.Stop Go.Stop Go.Extern

theorem isTypeOf (v : Value) (w : World) : (Extern.ReflectliteType.typeOf #[.iface 63 v]).run Tryd.prog w = .ok (.iface 53 (.agg #[.pointer (some ⟨3, 63, none⟩)])) w := by kernel_rfl
theorem compEntry : ∃ e, Extern.find Tryd.f41 = some e ∧ ∀ w : World, (e #[.agg #[.pointer (some ⟨3, 63, none⟩)]]).run Tryd.prog w = .ok (.bool true) w :=
  ⟨Extern.ReflectliteType.method fun t => do Extern.Rtype.noPackHeld "Comparable" t; pure (.bool (← typeInfo t).comparable), by kernel_rfl, fun w => by kernel_rfl⟩
theorem isMethodComparable (v : Value) (w : World) : (Go.method 207 53 v "Comparable").run Tryd.prog w = .ok (41, v) w := by kernel_rfl
theorem isComp : (Tryd.prog.info? 63).map (·.comparable) = some true := by kernel_rfl
theorem isSize : (Tryd.prog.info? 91).map (·.size) = some 1 := by kernel_rfl
theorem noIsE (v : Value) (xT : TypeId) (w : World) : (Instr.typeAssert (.iface 63 v) xT 55 true).run Tryd.prog w = .ok (.tuple #[.nilIface, .bool false]) w := run_typeAssert_lacksB Tryd.underlying55 (by kernel_rfl) (by kernel_rfl) v xT w
theorem noUnwrapE (v : Value) (xT : TypeId) (w : World) : (Instr.typeAssert (.iface 63 v) xT 58 true).run Tryd.prog w = .ok (.tuple #[.nilIface, .bool false]) w := run_typeAssert_lacksB Tryd.underlying58 (by kernel_rfl) (by kernel_rfl) v xT w
theorem noUnwrapsE (v : Value) (xT : TypeId) (w : World) : (Instr.typeAssert (.iface 63 v) xT 60 true).run Tryd.prog w = .ok (.tuple #[.nilIface, .bool false]) w := run_typeAssert_lacksB Tryd.underlying60 (by kernel_rfl) (by kernel_rfl) v xT w

/-- errors.Is(x, x), x a pointer to an errors.errorString. -/
theorem is_same (a : Addr) (w : World) :
    Calls Tryd.prog 17 #[.iface 63 (.pointer (some a)), .iface 63 (.pointer (some a))] w fun e w' => e = .returned (.bool true) ∧ w' = w := by
  obtain ⟨i, hi, hcmp⟩ := Option.map_eq_some_iff.1 isComp
  obtain ⟨j, hj, hjs⟩ := Option.map_eq_some_iff.1 isSize
  have h8 := @run_callFunc_extern Tryd.prog 19 _ Extern.ReflectliteType.typeOf Tryd.func19 (by kernel_rfl) (by kernel_rfl) (by kernel_rfl) (by kernel_rfl)
  obtain ⟨ent, hent, cT⟩ := compEntry
  have h32 := @run_callFunc_extern Tryd.prog 41 _ ent Tryd.func41 (by kernel_rfl) (by kernel_rfl) (by kernel_rfl) hent
  clear hent
  have tT := isTypeOf
  have mR := isMethodComparable
  have heq := run_eql_iface_ptr_same (P := Tryd.prog) w a Tryd.underlying38 Tryd.underlying63 hi hcmp hj
  go_enter Tryd.func17, Tryd.ntmps17
  go_wp2
  refine wp_loop_rounds 1 ?_
  rw [rounds_succ]
  go_wp2
  go_ret
  exact ⟨rfl, rfl⟩

/-- errors.Is(nil, x). -/
theorem is_nil (b : Addr) (w : World) :
    Calls Tryd.prog 17 #[.nilIface, .iface 63 (.pointer (some b))] w fun e w' => e = .returned (.bool false) ∧ w' = w := by
  have hn := run_eql_iface_nil_left (P := Tryd.prog) w 63 (.pointer (some b)) Tryd.underlying38
  go_enter Tryd.func17, Tryd.ntmps17
  go_wp2
  go_ret
  exact ⟨rfl, rfl⟩

/-- errors.Is(x, y), two different pointers to errors.errorString: neither has Is nor Unwrap: false. -/
theorem is_other (a b : Addr) (ca cb : Array Value) (ta tb : TypeId) (w : World) (hne : a ≠ b) (ha : w.heap[a.block]? = some (.cells ca ta (0, 0))) (hb : w.heap[b.block]? = some (.cells cb tb (0, 0))) :
    Calls Tryd.prog 17 #[.iface 63 (.pointer (some a)), .iface 63 (.pointer (some b))] w fun e w' => e = .returned (.bool false) ∧ w' = w := by
  obtain ⟨i, hi, hcmp⟩ := Option.map_eq_some_iff.1 isComp
  obtain ⟨j, hj, hjs⟩ := Option.map_eq_some_iff.1 isSize
  have h8 := @run_callFunc_extern Tryd.prog 19 _ Extern.ReflectliteType.typeOf Tryd.func19 (by kernel_rfl) (by kernel_rfl) (by kernel_rfl) (by kernel_rfl)
  obtain ⟨ent, hent, cT⟩ := compEntry
  have h32 := @run_callFunc_extern Tryd.prog 41 _ ent Tryd.func41 (by kernel_rfl) (by kernel_rfl) (by kernel_rfl) hent
  clear hent
  have tT := isTypeOf
  have mR := isMethodComparable
  have nE := noIsE
  have uE := noUnwrapE
  have vE := noUnwrapsE
  have heq := run_eql_iface_ptr_other (P := Tryd.prog) w Tryd.underlying38 Tryd.underlying63 hi hcmp hj (by rw [hjs]; decide) hne ha hb
  go_enter Tryd.func17, Tryd.ntmps17
  go_wp2
  refine wp_loop_rounds 1 ?_
  rw [rounds_succ]
  go_wp2
  go_ret
  exact ⟨rfl, rfl⟩

end Go.Proofs.Qxb6618665aDoor
