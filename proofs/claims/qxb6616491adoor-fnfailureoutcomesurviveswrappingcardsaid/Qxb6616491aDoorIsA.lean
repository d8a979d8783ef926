import Derived.Test.Qxb6616491aDoorRows
import Derived.WalkKit
import Derived.WalkSpells
import Derived.LaidEql
import Derived.Stop.Asserts
import Derived.RowKitTokens
import Derived.LoopN
namespace Go.Proofs.Qxb6616491aDoor
open Go.RowKit Go.Extern.Stop Go.Stop Go.Extern

theorem Tryd.isTypeOf (v : Value) (w : World) : (Extern.ReflectliteType.typeOf #[.iface 33 v]).run Tryd.prog w = .ok (.iface 46 (.agg #[.pointer (some ⟨2, 33, none⟩)])) w := by kernel_rfl
/-- what '(rtype).Comparable' does -/
theorem Tryd.isComparable (w : World) : (callFunc 39 #[.agg #[.pointer (some ⟨2, 33, none⟩)]]).run Tryd.prog w = .ok (.value (.bool true)) w := by kernel_rfl
theorem Tryd.isMethodComparable (v : Value) (w : World) : (Go.method 194 46 v "Comparable").run Tryd.prog w = .ok (39, v) w := by kernel_rfl
theorem Tryd.isComp : (Tryd.prog.info? 33).map (·.comparable) = some true := by kernel_rfl
theorem Tryd.isSize : (Tryd.prog.info? 35).map (·.size) = some 1 := by kernel_rfl
theorem Tryd.noIsE (v : Value) (xT : TypeId) (w : World) : (Instr.typeAssert (.iface 33 v) xT 48 true).run Tryd.prog w = .ok (.tuple #[.nilIface, .bool false]) w := run_typeAssert_lacksB Tryd.underlying48 (by kernel_rfl) (by kernel_rfl) v xT w
theorem Tryd.noUnwrapE (v : Value) (xT : TypeId) (w : World) : (Instr.typeAssert (.iface 33 v) xT 51 true).run Tryd.prog w = .ok (.tuple #[.nilIface, .bool false]) w := run_typeAssert_lacksB Tryd.underlying51 (by kernel_rfl) (by kernel_rfl) v xT w
theorem Tryd.noUnwrapsE (v : Value) (xT : TypeId) (w : World) : (Instr.typeAssert (.iface 33 v) xT 52 true).run Tryd.prog w = .ok (.tuple #[.nilIface, .bool false]) w := run_typeAssert_lacksB Tryd.underlying52 (by kernel_rfl) (by kernel_rfl) v xT w
theorem Tryd.noIsJ (v : Value) (xT : TypeId) (w : World) : (Instr.typeAssert (.iface 37 v) xT 48 true).run Tryd.prog w = .ok (.tuple #[.nilIface, .bool false]) w := run_typeAssert_lacksB Tryd.underlying48 (by kernel_rfl) (by kernel_rfl) v xT w
theorem Tryd.noUnwrapJ (v : Value) (xT : TypeId) (w : World) : (Instr.typeAssert (.iface 37 v) xT 51 true).run Tryd.prog w = .ok (.tuple #[.nilIface, .bool false]) w := run_typeAssert_lacksB Tryd.underlying51 (by kernel_rfl) (by kernel_rfl) v xT w
theorem Tryd.hasUnwrapsJ (v : Value) (xT : TypeId) (w : World) : (Instr.typeAssert (.iface 37 v) xT 52 true).run Tryd.prog w = .ok (.tuple #[.iface 37 v, .bool true]) w := run_typeAssert_hasB Tryd.underlying52 (by kernel_rfl) v xT w

/-- the pointer to an error of errors.New's make -/
theorem is_same (a : Addr) (w : World) :
    Calls Tryd.prog 17 #[.iface 33 (.pointer (some a)), .iface 33 (.pointer (some a)), .bool true] w fun e w' => e = .returned (.bool true) ∧ w' = w := by
  obtain ⟨i, hi, hcmp⟩ := Option.map_eq_some_iff.1 Tryd.isComp
  obtain ⟨j, hj, hjs⟩ := Option.map_eq_some_iff.1 Tryd.isSize
  have heq := run_eql_iface_ptr_same (P := Tryd.prog) w a Tryd.underlying26 Tryd.underlying33 hi hcmp hj
  go_enter Tryd.func17, Tryd.ntmps17
  go_wp2
  refine wp_loop_rounds 1 ?_
  rw [rounds_succ]
  go_wp2
  go_ret
  exact ⟨rfl, rfl⟩

theorem is_other (a b : Addr) (ca cb : Array Value) (ta tb : TypeId) (w : World) (hne : a ≠ b) (ha : w.heap[a.block]? = some (.cells ca ta (0, 0))) (hb : w.heap[b.block]? = some (.cells cb tb (0, 0))) :
    Calls Tryd.prog 17 #[.iface 33 (.pointer (some a)), .iface 33 (.pointer (some b)), .bool true] w fun e w' => e = .returned (.bool false) ∧ w' = w := by
  obtain ⟨i, hi, hcmp⟩ := Option.map_eq_some_iff.1 Tryd.isComp
  obtain ⟨j, hj, hjs⟩ := Option.map_eq_some_iff.1 Tryd.isSize
  have nE := Tryd.noIsE
  have uE := Tryd.noUnwrapE
  have vE := Tryd.noUnwrapsE
  have heq := run_eql_iface_ptr_other (P := Tryd.prog) w Tryd.underlying26 Tryd.underlying33 hi hcmp hj (by rw [hjs]; decide) hne ha hb
  go_enter Tryd.func17, Tryd.ntmps17
  go_wp2
  refine wp_loop_rounds 1 ?_
  rw [rounds_succ]
  go_wp2
  go_ret
  exact ⟨rfl, rfl⟩

end Go.Proofs.Qxb6616491aDoor
