import Derived.Test.Qxb6614532aFmtRows
import Derived.WalkKit
import Derived.WalkSpells
import Derived.WalkLawsBesides
import Derived.LaidEql
import Derived.Stop.Asserts
import Derived.RowKitTokens
namespace Go.Proofs.Qxb6614532aFmt
open Go.RowKit Go.Extern.Stop Go.Stop Go.Extern

theorem Tryf.isTypeOf (v : Value) (w : World) : (callFunc 29 #[.iface 90 v]).run Tryf.prog w = .ok (.value (.iface 78 (.agg #[.pointer (some ⟨8, 90, none⟩)]))) w := by kernel_rfl
theorem Tryf.isComparable (w : World) : (callFunc 62 #[.agg #[.pointer (some ⟨8, 90, none⟩)]]).run Tryf.prog w = .ok (.value (.bool true)) w := by kernel_rfl
theorem Tryf.isMethodComparable (v : Value) (w : World) : (Go.method 231 78 v "Comparable").run Tryf.prog w = .ok (62, v) w := by kernel_rfl
theorem Tryf.isComp : (Tryf.prog.info? 90).map (·.comparable) = some true := by kernel_rfl
theorem Tryf.isSize : (Tryf.prog.info? 92).map (·.size) = some 1 := by kernel_rfl
theorem Tryf.noIsW (v : Value) (xT : TypeId) (w : World) : (Instr.typeAssert (.iface 76 v) xT 80 true).run Tryf.prog w = .ok (.tuple #[.nilIface, .bool false]) w := run_typeAssert_lacksB Tryf.underlying80 (by kernel_rfl) (by kernel_rfl) v xT w
theorem Tryf.hasUnwrapW (v : Value) (xT : TypeId) (w : World) : (Instr.typeAssert (.iface 76 v) xT 83 true).run Tryf.prog w = .ok (.tuple #[.iface 76 v, .bool true]) w := run_typeAssert_hasB Tryf.underlying83 (by kernel_rfl) v xT w
theorem Tryf.methodUnwrap (v : Value) (w : World) : (Go.method 231 76 v "Unwrap").run Tryf.prog w = .ok (58, v) w := by kernel_rfl

set_option maxRecDepth 100000 in
set_option maxHeartbeats 1000000 in
/-- errors.Is(e, x), e a *fmt.wrapError that wraps x itself: one Unwrap, then equal. -/
theorem is_wrap_same (pb po : Nat) (b : Addr) (w : World) (h1 : w.cell? ⟨pb, po + 1, none⟩ = some (.iface 90 (.pointer (some b)))) :
    Calls Tryf.prog 21 #[.iface 76 (.pointer (some ⟨pb, po, none⟩)), .iface 90 (.pointer (some b))] w fun e w' => e = .returned (.bool true) ∧ w = w' := by
  obtain ⟨i, hi, hcmp⟩ := Option.map_eq_some_iff.1 Tryf.isComp
  obtain ⟨j, hj, hjs⟩ := Option.map_eq_some_iff.1 Tryf.isSize
  have tT := Tryf.isTypeOf
  have cT := Tryf.isComparable
  have mR := Tryf.isMethodComparable
  have nW := Tryf.noIsW
  have uW := Tryf.hasUnwrapW
  have mU := Tryf.methodUnwrap
  have heq := run_eql_iface_ptr_same (P := Tryf.prog) w b Tryf.underlying30 Tryf.underlying90 hi hcmp hj
  have hty := run_eql_iface_types (P := Tryf.prog) 76 90 (.pointer (some ⟨pb, po, none⟩)) (.pointer (some b)) Tryf.underlying30 (by decide) w
  go_enter Tryf.func21, Tryf.ntmps21
  go_wp2
  refine wp_loop_rounds 2 ?_
  rw [rounds_succ]
  go_wp2
  rw [rounds_succ]
  go_wp2
  go_ret
  exact ⟨rfl, rfl⟩
end Go.Proofs.Qxb6614532aFmt
