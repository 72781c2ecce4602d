/-
  errors.Is BY ITS CONTRACT (the guide's HOWTO 10.9; after SentryIs.lean): a *fmt.wrapError that wraps the sentinel itself.
-/
import Derived.Test.Qxb6613921aFmtChecked
import Derived.WalkKit
import Derived.LaidEql
import Derived.Stop.Asserts
import Derived.RowKitTokens
namespace Go.Proofs.Qxb6613921aFmt
open Go.RowKit Go.Extern.Stop Go.Stop Go.Extern

theorem callTypeOf (v : Value) (w : World) : (callFunc 14 #[.iface 58 v]).run Tryf.prog w = .ok (.value (.iface 48 (.agg #[.pointer (some ⟨1, 58, none⟩)]))) w := by kernel_rfl
theorem callComparable (w : World) : (callFunc 39 #[.agg #[.pointer (some ⟨1, 58, none⟩)]]).run Tryf.prog w = .ok (.value (.bool true)) w := by kernel_rfl
theorem isMethodComparable (v : Value) (w : World) : (Go.method 200 48 v "Comparable").run Tryf.prog w = .ok (39, v) w := by kernel_rfl
theorem isComp : (Tryf.prog.info? 58).map (·.comparable) = some true := by kernel_rfl
theorem isSize : (Tryf.prog.info? 60).map (·.size) = some 1 := by kernel_rfl
theorem noIsE (v : Value) (xT : TypeId) (w : World) : (Instr.typeAssert (.iface 58 v) xT 50 true).run Tryf.prog w = .ok (.tuple #[.nilIface, .bool false]) w := run_typeAssert_lacksB Tryf.underlying50 (by kernel_rfl) (by kernel_rfl) v xT w
theorem noIsW (v : Value) (xT : TypeId) (w : World) : (Instr.typeAssert (.iface 46 v) xT 50 true).run Tryf.prog w = .ok (.tuple #[.nilIface, .bool false]) w := run_typeAssert_lacksB Tryf.underlying50 (by kernel_rfl) (by kernel_rfl) v xT w
theorem hasUnwrapW (v : Value) (xT : TypeId) (w : World) : (Instr.typeAssert (.iface 46 v) xT 53 true).run Tryf.prog w = .ok (.tuple #[.iface 46 v, .bool true]) w := run_typeAssert_hasB Tryf.underlying53 (by kernel_rfl) v xT w
theorem methodUnwrap (v : Value) (w : World) : (Go.method 200 46 v "Unwrap").run Tryf.prog w = .ok (35, v) w := by kernel_rfl

/-- errors.Is(e, x), e a *fmt.wrapError that wraps x itself: one Unwrap, then equal. -/
theorem is_wrap_same (pb po : Nat) (b : Addr) (w : World) (h1 : w.cell? ⟨pb, po + 1, none⟩ = some (.iface 58 (.pointer (some b)))) :
    Calls Tryf.prog 11 #[.iface 46 (.pointer (some ⟨pb, po, none⟩)), .iface 58 (.pointer (some b))] w fun e w' => e = .returned (.bool true) ∧ w' = w := by
  obtain ⟨i, hi, hcmp⟩ := Option.map_eq_some_iff.1 isComp
  obtain ⟨j, hj, hjs⟩ := Option.map_eq_some_iff.1 isSize
  have h8 := callTypeOf
  have h32 := callComparable
  have mR := isMethodComparable
  have nE := noIsE
  have nW := noIsW
  have uW := hasUnwrapW
  have mU := methodUnwrap
  have heq := run_eql_iface_ptr_same (P := Tryf.prog) w b Tryf.underlying32 Tryf.underlying58 hi hcmp hj
  have hty := run_eql_iface_types (P := Tryf.prog) 46 58 (.pointer (some ⟨pb, po, none⟩)) (.pointer (some b)) Tryf.underlying32 (by decide) w
  go_enter Tryf.func11, Tryf.ntmps11
  go_wp2
  refine wp_loop_rounds 2 ?_
  rw [rounds_succ]
  go_wp2
  rw [rounds_succ]
  go_wp2
  go_ret
  exact ⟨rfl, rfl⟩
end Go.Proofs.Qxb6613921aFmt
