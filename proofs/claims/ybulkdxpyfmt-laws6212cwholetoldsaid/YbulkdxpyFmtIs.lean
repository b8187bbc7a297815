/- errors.Is at a *fmt.wrapError that wraps the sentinel itself; after the guide's SentryIs.lean, turned to this dump. -/
import Derived.Test.YbulkdxpyFmtChecked
import Derived.WalkKit
import Derived.LaidEql
import Derived.Stop.Asserts
import Derived.RowKitTokens
namespace Go.Proofs.YbulkdxpyFmt
open Go.RowKit Go.Extern.Stop Go.Stop Go.Extern

theorem callTypeOf (v : Value) (w : World) : (callFunc 7 #[.iface 62 v]).run Ybaf.prog w = .ok (.value (.iface 52 (.agg #[.pointer (some ⟨1, 62, none⟩)]))) w := by kernel_rfl
theorem callComp (w : World) : (callFunc 32 #[.agg #[.pointer (some ⟨1, 62, none⟩)]]).run Ybaf.prog w = .ok (.value (.bool true)) w := by kernel_rfl
theorem methodComp (v : Value) (w : World) : (Go.method 208 52 v "Comparable").run Ybaf.prog w = .ok (32, v) w := by kernel_rfl
theorem methodUnwrap (v : Value) (w : World) : (Go.method 208 50 v "Unwrap").run Ybaf.prog w = .ok (28, v) w := by kernel_rfl
theorem isComp : (Ybaf.prog.info? 62).map (·.comparable) = some true := by kernel_rfl
theorem isSize : (Ybaf.prog.info? 64).map (·.size) = some 1 := by kernel_rfl
theorem noIsE (v : Value) (xT : TypeId) (w : World) : (Instr.typeAssert (.iface 62 v) xT 54 true).run Ybaf.prog w = .ok (.tuple #[.nilIface, .bool false]) w := run_typeAssert_lacksB Ybaf.underlying54 (by kernel_rfl) (by kernel_rfl) v xT w
theorem noIsW (v : Value) (xT : TypeId) (w : World) : (Instr.typeAssert (.iface 50 v) xT 54 true).run Ybaf.prog w = .ok (.tuple #[.nilIface, .bool false]) w := run_typeAssert_lacksB Ybaf.underlying54 (by kernel_rfl) (by kernel_rfl) v xT w
theorem hasUnwrapW (v : Value) (xT : TypeId) (w : World) : (Instr.typeAssert (.iface 50 v) xT 57 true).run Ybaf.prog w = .ok (.tuple #[.iface 50 v, .bool true]) w := run_typeAssert_hasB Ybaf.underlying57 (by kernel_rfl) v xT w

theorem is_wrap_same (pb po : Nat) (b : Addr) (w : World) (h1 : w.cell? ⟨pb, po + 1, none⟩ = some (.iface 62 (.pointer (some b)))) :
    Calls Ybaf.prog 5 #[.iface 50 (.pointer (some ⟨pb, po, none⟩)), .iface 62 (.pointer (some b))] w fun e w' => e = .returned (.bool true) ∧ w' = w := by
  obtain ⟨i, hi, hcmp⟩ := Option.map_eq_some_iff.1 isComp
  obtain ⟨j, hj, hjs⟩ := Option.map_eq_some_iff.1 isSize
  have h8 := callTypeOf
  have h32 := callComp
  have mR := methodComp
  have mU := methodUnwrap
  have nE := noIsE
  have nW := noIsW
  have uW := hasUnwrapW
  have heq := run_eql_iface_ptr_same (P := Ybaf.prog) w b Ybaf.underlying37 Ybaf.underlying62 hi hcmp hj
  have hty := run_eql_iface_types (P := Ybaf.prog) 50 62 (.pointer (some ⟨pb, po, none⟩)) (.pointer (some b)) Ybaf.underlying37 (by decide) w
  go_enter Ybaf.func5, Ybaf.ntmps5
  go_wp2
  refine wp_loop_rounds 2 ?_
  rw [rounds_succ]
  go_wp2
  rw [rounds_succ]
  go_wp2
  go_ret
  exact ⟨rfl, rfl⟩
end Go.Proofs.YbulkdxpyFmt
