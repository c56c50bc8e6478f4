/-
  errors.Is by its contracts, over this program: after the guide's SentryIs.lean, its numbers turned to this dump.
-/
import Derived.Test.Qxb6618597aFmtRows
import Derived.WalkKit
import Derived.LaidEql
import Derived.Stop.Asserts
import Derived.RowKitTokens
namespace Go.Proofs.Qxb6618597aFmt
open Go.RowKit Go.Extern.Stop Go.Stop Go.Extern

/-! ### CLOSED FACTS: what 'reflectlite.TypeOf(target).Comparable()' gives at such a target -/
theorem Tryf.isTypeOf (v : Value) (w : World) : (Extern.ReflectliteType.typeOf #[.iface 34 v]).run Tryf.prog w = .ok (.iface 46 (.agg #[.pointer (some ⟨1, 34, none⟩)])) w := by kernel_rfl
theorem Tryf.isCall38 (w : World) : (callFunc 38 #[.agg #[.pointer (some ⟨1, 34, none⟩)]]).run Tryf.prog w = .ok (.value (.bool true)) w := by kernel_rfl
theorem Tryf.isMethodComparable (v : Value) (w : World) : (Go.method 197 46 v "Comparable").run Tryf.prog w = .ok (38, v) w := by kernel_rfl
theorem Tryf.isComp : (Tryf.prog.info? 34).map (·.comparable) = some true := by kernel_rfl
theorem Tryf.isSize : (Tryf.prog.info? 36).map (·.size) = some 1 := by kernel_rfl

/-! ### CLOSED FACTS ON THE METHOD SETS: what errors.is's assertions find -/
theorem Tryf.noIsE (v : Value) (xT : TypeId) (w : World) : (Instr.typeAssert (.iface 34 v) xT 48 true).run Tryf.prog w = .ok (.tuple #[.nilIface, .bool false]) w := run_typeAssert_lacksB Tryf.underlying48 (by kernel_rfl) (by kernel_rfl) v xT w
theorem Tryf.noUnwrapE (v : Value) (xT : TypeId) (w : World) : (Instr.typeAssert (.iface 34 v) xT 51 true).run Tryf.prog w = .ok (.tuple #[.nilIface, .bool false]) w := run_typeAssert_lacksB Tryf.underlying51 (by kernel_rfl) (by kernel_rfl) v xT w
theorem Tryf.noUnwrapsE (v : Value) (xT : TypeId) (w : World) : (Instr.typeAssert (.iface 34 v) xT 53 true).run Tryf.prog w = .ok (.tuple #[.nilIface, .bool false]) w := run_typeAssert_lacksB Tryf.underlying53 (by kernel_rfl) (by kernel_rfl) v xT w
theorem Tryf.noIsW (v : Value) (xT : TypeId) (w : World) : (Instr.typeAssert (.iface 44 v) xT 48 true).run Tryf.prog w = .ok (.tuple #[.nilIface, .bool false]) w := run_typeAssert_lacksB Tryf.underlying48 (by kernel_rfl) (by kernel_rfl) v xT w
theorem Tryf.hasUnwrapW (v : Value) (xT : TypeId) (w : World) : (Instr.typeAssert (.iface 44 v) xT 51 true).run Tryf.prog w = .ok (.tuple #[.iface 44 v, .bool true]) w := run_typeAssert_hasB Tryf.underlying51 (by kernel_rfl) v xT w
theorem Tryf.methodUnwrap (v : Value) (w : World) : (Go.method 197 44 v "Unwrap").run Tryf.prog w = .ok (34, v) w := by kernel_rfl

/-- errors.Is(x, x), x a pointer to an errors.errorString. -/
theorem is_same (a : Addr) (w : World) :
    Calls Tryf.prog 10 #[.iface 34 (.pointer (some a)), .iface 34 (.pointer (some a))] w fun e w' => e = .returned (.bool true) ∧ w' = w := by
  obtain ⟨i, hi, hcmp⟩ := Option.map_eq_some_iff.1 Tryf.isComp
  obtain ⟨j, hj, hjs⟩ := Option.map_eq_some_iff.1 Tryf.isSize
  have h12 := @run_callFunc_extern Tryf.prog 12 _ Extern.ReflectliteType.typeOf Tryf.func12 (by kernel_rfl) (by kernel_rfl) (by kernel_rfl) (by kernel_rfl)
  have h38 := Tryf.isCall38
  have tT := Tryf.isTypeOf
  have mR := Tryf.isMethodComparable
  have heq := run_eql_iface_ptr_same (P := Tryf.prog) w a Tryf.underlying30 Tryf.underlying34 hi hcmp hj
  go_enter Tryf.func10, Tryf.ntmps10
  go_wp2
  refine wp_loop_rounds 1 ?_
  rw [rounds_succ]
  go_wp2
  go_ret
  exact ⟨rfl, rfl⟩

/-- errors.Is(x, y), two different pointers to errors.errorString: neither has Is nor Unwrap: false. -/
theorem is_other (a b : Addr) (ca cb : Array Value) (ta tb : TypeId) (w : World) (hne : a ≠ b) (ha : w.heap[a.block]? = some (.cells ca ta (0, 0))) (hb : w.heap[b.block]? = some (.cells cb tb (0, 0))) :
    Calls Tryf.prog 10 #[.iface 34 (.pointer (some a)), .iface 34 (.pointer (some b))] w fun e w' => e = .returned (.bool false) ∧ w' = w := by
  obtain ⟨i, hi, hcmp⟩ := Option.map_eq_some_iff.1 Tryf.isComp
  obtain ⟨j, hj, hjs⟩ := Option.map_eq_some_iff.1 Tryf.isSize
  have h12 := @run_callFunc_extern Tryf.prog 12 _ Extern.ReflectliteType.typeOf Tryf.func12 (by kernel_rfl) (by kernel_rfl) (by kernel_rfl) (by kernel_rfl)
  have h38 := Tryf.isCall38
  have tT := Tryf.isTypeOf
  have mR := Tryf.isMethodComparable
  have nE := Tryf.noIsE
  have uE := Tryf.noUnwrapE
  have vE := Tryf.noUnwrapsE
  have nW := Tryf.noIsW
  have uW := Tryf.hasUnwrapW
  have mU := Tryf.methodUnwrap
  have heq := run_eql_iface_ptr_other (P := Tryf.prog) w Tryf.underlying30 Tryf.underlying34 hi hcmp hj (by rw [hjs]; decide) hne ha hb
  go_enter Tryf.func10, Tryf.ntmps10
  go_wp2
  refine wp_loop_rounds 1 ?_
  rw [rounds_succ]
  go_wp2
  go_ret
  exact ⟨rfl, rfl⟩

/-- errors.Is(e, x), e a *fmt.wrapError that wraps x itself: one Unwrap, then equal. -/
theorem is_wrap_same (pb po : Nat) (b : Addr) (w : World) (h1 : w.cell? ⟨pb, po + 1, none⟩ = some (.iface 34 (.pointer (some b)))) :
    Calls Tryf.prog 10 #[.iface 44 (.pointer (some ⟨pb, po, none⟩)), .iface 34 (.pointer (some b))] w fun e w' => e = .returned (.bool true) ∧ w' = w := by
  obtain ⟨i, hi, hcmp⟩ := Option.map_eq_some_iff.1 Tryf.isComp
  obtain ⟨j, hj, hjs⟩ := Option.map_eq_some_iff.1 Tryf.isSize
  have h12 := @run_callFunc_extern Tryf.prog 12 _ Extern.ReflectliteType.typeOf Tryf.func12 (by kernel_rfl) (by kernel_rfl) (by kernel_rfl) (by kernel_rfl)
  have h38 := Tryf.isCall38
  have tT := Tryf.isTypeOf
  have mR := Tryf.isMethodComparable
  have nE := Tryf.noIsE
  have uE := Tryf.noUnwrapE
  have vE := Tryf.noUnwrapsE
  have nW := Tryf.noIsW
  have uW := Tryf.hasUnwrapW
  have mU := Tryf.methodUnwrap
  have heq := run_eql_iface_ptr_same (P := Tryf.prog) w b Tryf.underlying30 Tryf.underlying34 hi hcmp hj
  have hty := run_eql_iface_types (P := Tryf.prog) 44 34 (.pointer (some ⟨pb, po, none⟩)) (.pointer (some b)) Tryf.underlying30 (by decide) w
  go_enter Tryf.func10, Tryf.ntmps10
  go_wp2
  refine wp_loop_rounds 2 ?_
  rw [rounds_succ]
  go_wp2
  rw [rounds_succ]
  go_wp2
  go_ret
  exact ⟨rfl, rfl⟩

/-- errors.Is(e, x), e a *fmt.wrapError that wraps another error of errors.New's make. -/
theorem is_wrap_other (pb po : Nat) (b a : Addr) (ca cb : Array Value) (ta tb : TypeId) (w : World) (h1 : w.cell? ⟨pb, po + 1, none⟩ = some (.iface 34 (.pointer (some a)))) (hne : a ≠ b) (ha : w.heap[a.block]? = some (.cells ca ta (0, 0))) (hb : w.heap[b.block]? = some (.cells cb tb (0, 0))) :
    Calls Tryf.prog 10 #[.iface 44 (.pointer (some ⟨pb, po, none⟩)), .iface 34 (.pointer (some b))] w fun e w' => e = .returned (.bool false) ∧ w' = w := by
  obtain ⟨i, hi, hcmp⟩ := Option.map_eq_some_iff.1 Tryf.isComp
  obtain ⟨j, hj, hjs⟩ := Option.map_eq_some_iff.1 Tryf.isSize
  have h12 := @run_callFunc_extern Tryf.prog 12 _ Extern.ReflectliteType.typeOf Tryf.func12 (by kernel_rfl) (by kernel_rfl) (by kernel_rfl) (by kernel_rfl)
  have h38 := Tryf.isCall38
  have tT := Tryf.isTypeOf
  have mR := Tryf.isMethodComparable
  have nE := Tryf.noIsE
  have uE := Tryf.noUnwrapE
  have vE := Tryf.noUnwrapsE
  have nW := Tryf.noIsW
  have uW := Tryf.hasUnwrapW
  have mU := Tryf.methodUnwrap
  have heq := run_eql_iface_ptr_other (P := Tryf.prog) w Tryf.underlying30 Tryf.underlying34 hi hcmp hj (by rw [hjs]; decide) hne ha hb
  have hty := run_eql_iface_types (P := Tryf.prog) 44 34 (.pointer (some ⟨pb, po, none⟩)) (.pointer (some b)) Tryf.underlying30 (by decide) w
  go_enter Tryf.func10, Tryf.ntmps10
  go_wp2
  refine wp_loop_rounds 2 ?_
  rw [rounds_succ]
  go_wp2
  rw [rounds_succ]
  go_wp2
  go_ret
  exact ⟨rfl, rfl⟩

end Go.Proofs.Qxb6618597aFmt
