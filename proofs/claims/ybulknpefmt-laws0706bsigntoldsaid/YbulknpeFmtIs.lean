/-
  errors.Is(e, x) at this dump, e a *fmt.wrapError that wraps x itself, x an error of errors.New's make: true.
-/
import Derived.Test.YbulknpeFmtRows
import Derived.WalkKit
import Derived.LaidEql
import Derived.Stop.Asserts
import Derived.RowKitTokens
namespace Go.Proofs.YbulknpeFmt
open Go.RowKit Go.Extern.Stop Go.Stop Go.Extern

theorem Ybaf.isTypeOf (v : Value) (w : World) : (Extern.ReflectliteType.typeOf #[.iface 48 v]).run Ybaf.prog w = .ok (.iface 38 (.agg #[.pointer (some ⟨1, 48, none⟩)])) w := by kernel_rfl
theorem Ybaf.compRun (w : World) : (callFunc 38 #[.agg #[.pointer (some ⟨1, 48, none⟩)]]).run Ybaf.prog w = .ok (.value (.bool true)) w := by kernel_rfl
theorem Ybaf.isMethodComparable (v : Value) (w : World) : (Go.method 202 38 v "Comparable").run Ybaf.prog w = .ok (38, v) w := by kernel_rfl
theorem Ybaf.isComp : (Ybaf.prog.info? 48).map (·.comparable) = some true := by kernel_rfl
theorem Ybaf.isSize : (Ybaf.prog.info? 50).map (·.size) = some 1 := by kernel_rfl
theorem Ybaf.noIsE (v : Value) (xT : TypeId) (w : World) : (Instr.typeAssert (.iface 48 v) xT 40 true).run Ybaf.prog w = .ok (.tuple #[.nilIface, .bool false]) w := run_typeAssert_lacksB Ybaf.underlying40 (by kernel_rfl) (by kernel_rfl) v xT w
theorem Ybaf.noIsW (v : Value) (xT : TypeId) (w : World) : (Instr.typeAssert (.iface 36 v) xT 40 true).run Ybaf.prog w = .ok (.tuple #[.nilIface, .bool false]) w := run_typeAssert_lacksB Ybaf.underlying40 (by kernel_rfl) (by kernel_rfl) v xT w
theorem Ybaf.hasUnwrapW (v : Value) (xT : TypeId) (w : World) : (Instr.typeAssert (.iface 36 v) xT 43 true).run Ybaf.prog w = .ok (.tuple #[.iface 36 v, .bool true]) w := run_typeAssert_hasB Ybaf.underlying43 (by kernel_rfl) v xT w
theorem Ybaf.methodUnwrap (v : Value) (w : World) : (Go.method 202 36 v "Unwrap").run Ybaf.prog w = .ok (34, v) w := by kernel_rfl

/-- errors.Is(e, x), e a *fmt.wrapError that wraps x itself: one Unwrap, then equal. -/
theorem is_wrap_same (pb po : Nat) (b : Addr) (w : World) (h1 : w.cell? ⟨pb, po + 1, none⟩ = some (.iface 48 (.pointer (some b)))) :
    Calls Ybaf.prog 6 #[.iface 36 (.pointer (some ⟨pb, po, none⟩)), .iface 48 (.pointer (some b))] w fun e w' => e = .returned (.bool true) ∧ w' = w := by
  obtain ⟨i, hi, hcmp⟩ := Option.map_eq_some_iff.1 Ybaf.isComp
  obtain ⟨j, hj, hjs⟩ := Option.map_eq_some_iff.1 Ybaf.isSize
  have h8 := @run_callFunc_extern Ybaf.prog 8 _ Extern.ReflectliteType.typeOf Ybaf.func8 (by kernel_rfl) (by kernel_rfl) (by kernel_rfl) (by kernel_rfl)
  have h38 := Ybaf.compRun
  have tT := Ybaf.isTypeOf
  have mR := Ybaf.isMethodComparable
  have nW := Ybaf.noIsW
  have uW := Ybaf.hasUnwrapW
  have mU := Ybaf.methodUnwrap
  have heq := run_eql_iface_ptr_same (P := Ybaf.prog) w b Ybaf.underlying23 Ybaf.underlying48 hi hcmp hj
  have hty := run_eql_iface_types (P := Ybaf.prog) 36 48 (.pointer (some ⟨pb, po, none⟩)) (.pointer (some b)) Ybaf.underlying23 (by decide) w
  go_enter Ybaf.func6, Ybaf.ntmps6
  go_wp2
  refine wp_loop_rounds 2 ?_
  rw [rounds_succ]
  go_wp2
  rw [rounds_succ]
  go_wp2
  go_ret
  exact ⟨rfl, rfl⟩
end Go.Proofs.YbulknpeFmt
