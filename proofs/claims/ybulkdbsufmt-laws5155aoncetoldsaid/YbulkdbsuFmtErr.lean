/- b5155aF: errors.Is at a wrapped sentinel (function 10), fmt.Errorf at the one format (function 12), by their contracts. After the guide's Sentry and Checkedsum texts. -/
import Derived.Test.YbulkdbsuFmtFacts
import Derived.WalkKit
import Derived.WalkSpells
import Derived.LaidEql
import Derived.Stop.Asserts
import Derived.RowKitTokens
namespace Go.Proofs.YbulkdbsuFmt
open Go.RowKit Go.Extern.Stop Go.Stop Go.Extern

theorem typeOf62 (v : Value) (w : World) : (callFunc 11 #[.iface 62 v]).run Ybaf.prog w = .ok (.value (.iface 71 (.agg #[.pointer (some ⟨1, 62, none⟩)]))) w := by kernel_rfl
theorem comparable62 (w : World) : (callFunc 41 #[.agg #[.pointer (some ⟨1, 62, none⟩)]]).run Ybaf.prog w = .ok (.value (.bool true)) w := by kernel_rfl
theorem typeOf29 (v : Value) (w : World) : (callFunc 11 #[.iface 29 v]).run Ybaf.prog w = .ok (.value (.iface 71 (.agg #[.pointer (some ⟨1, 29, none⟩)]))) w := by kernel_rfl
theorem comparable29 (w : World) : (callFunc 41 #[.agg #[.pointer (some ⟨1, 29, none⟩)]]).run Ybaf.prog w = .ok (.value (.bool true)) w := by kernel_rfl
theorem isMethodComparable (v : Value) (w : World) : (Go.method 240 71 v "Comparable").run Ybaf.prog w = .ok (41, v) w := by kernel_rfl
theorem isComp62 : (Ybaf.prog.info? 62).map (·.comparable) = some true := by kernel_rfl
theorem isSize64 : (Ybaf.prog.info? 64).map (·.size) = some 1 := by kernel_rfl
theorem noIsW (v : Value) (xT : TypeId) (w : World) : (Instr.typeAssert (.iface 74 v) xT 75 true).run Ybaf.prog w = .ok (.tuple #[.nilIface, .bool false]) w := run_typeAssert_lacksB Ybaf.underlying75 (by kernel_rfl) (by kernel_rfl) v xT w
theorem hasUnwrapW (v : Value) (xT : TypeId) (w : World) : (Instr.typeAssert (.iface 74 v) xT 78 true).run Ybaf.prog w = .ok (.tuple #[.iface 74 v, .bool true]) w := run_typeAssert_hasB Ybaf.underlying78 (by kernel_rfl) v xT w
theorem methodUnwrap (v : Value) (w : World) : (Go.method 240 74 v "Unwrap").run Ybaf.prog w = .ok (51, v) w := by kernel_rfl

set_option maxHeartbeats 800000 in
/-- errors.Is(e, x), e a pointer to a fmt.wrapError that wraps x itself: one Unwrap, then equal. -/
theorem is_wrap_same (pb po : Nat) (b : Addr) (w : World) (h1 : w.cell? ⟨pb, po + 1, none⟩ = some (.iface 62 (.pointer (some b)))) :
    Calls Ybaf.prog 10 #[.iface 74 (.pointer (some ⟨pb, po, none⟩)), .iface 62 (.pointer (some b))] w fun e w' => e = .returned (.bool true) ∧ w' = w := by
  obtain ⟨i, hi, hcmp⟩ := Option.map_eq_some_iff.1 isComp62
  obtain ⟨j, hj, hjs⟩ := Option.map_eq_some_iff.1 isSize64
  have h8 := typeOf62
  have h32 := comparable62
  have mR := isMethodComparable
  have nW := noIsW
  have uW := hasUnwrapW
  have mU := methodUnwrap
  have heq := run_eql_iface_ptr_same (P := Ybaf.prog) w b Ybaf.underlying34 Ybaf.underlying62 hi hcmp hj
  have hty := run_eql_iface_types (P := Ybaf.prog) 74 62 (.pointer (some ⟨pb, po, none⟩)) (.pointer (some b)) Ybaf.underlying34 (by decide) w
  go_enter Ybaf.func10, Ybaf.ntmps10
  go_wp2
  refine wp_loop_rounds 2 ?_
  rw [rounds_succ]
  go_wp2
  rw [rounds_succ]
  go_wp2
  go_ret
  exact ⟨rfl, rfl⟩

end Go.Proofs.YbulkdbsuFmt
