/-
  errors.Is, by its contracts, at this program's numbers (after the guide's SentryIs).
-/
import Derived.Test.YbulkcufiFmtRows
import Derived.WalkKit
import Derived.LaidEql
import Derived.Stop.Asserts
import Derived.RowKitTokens
namespace Go.Proofs.YbulkcufiFmt
open Go.RowKit Go.Extern.Stop Go.Stop Go.Extern

def cmpFn : Array Value → Sem Value := Extern.ReflectliteType.method fun t => do Extern.Rtype.noPackHeld "Comparable" t; pure (.bool (← typeInfo t).comparable)
def toFn : Array Value → Sem Value := Extern.ReflectliteType.typeOf
theorem isTypeOf (v : Value) (w : World) : (toFn #[.iface 111 v]).run Ybaf.prog w = .ok (.iface 75 (.agg #[.pointer (some ⟨7, 111, none⟩)])) w := by kernel_rfl
theorem isComparable (w : World) : (cmpFn #[.agg #[.pointer (some ⟨7, 111, none⟩)]]).run Ybaf.prog w = .ok (.bool true) w := by kernel_rfl
theorem isComp : (Ybaf.prog.info? 111).map (·.comparable) = some true := by kernel_rfl
theorem isSize : (Ybaf.prog.info? 113).map (·.size) = some 1 := by kernel_rfl
theorem call19 (args : Array Value) (w : World) : (callFunc 19 args).run Ybaf.prog w = ((toFn args).run Ybaf.prog w).andThen fun v w' => .ok (.value v) w' :=
  @run_callFunc_extern Ybaf.prog 19 _ toFn Ybaf.func19 (by kernel_rfl) (by kernel_rfl) (by kernel_rfl) (by kernel_rfl) args w
theorem call69 (args : Array Value) (w : World) : (callFunc 69 args).run Ybaf.prog w = ((cmpFn args).run Ybaf.prog w).andThen fun v w' => .ok (.value v) w' :=
  @run_callFunc_extern Ybaf.prog 69 _ cmpFn Ybaf.func69 (by kernel_rfl) (by kernel_rfl) (by kernel_rfl) (by kernel_rfl) args w

theorem isMethodComparable (v : Value) (w : World) : (Go.method 257 75 v "Comparable").run Ybaf.prog w = .ok (69, v) w := by kernel_rfl
theorem noIsE (v : Value) (xT : TypeId) (w : World) : (Instr.typeAssert (.iface 111 v) xT 121 true).run Ybaf.prog w = .ok (.tuple #[.nilIface, .bool false]) w := run_typeAssert_lacksB Ybaf.underlying121 (by kernel_rfl) (by kernel_rfl) v xT w
theorem noUnwrapE (v : Value) (xT : TypeId) (w : World) : (Instr.typeAssert (.iface 111 v) xT 83 true).run Ybaf.prog w = .ok (.tuple #[.nilIface, .bool false]) w := run_typeAssert_lacksB Ybaf.underlying83 (by kernel_rfl) (by kernel_rfl) v xT w
theorem noUnwrapsE (v : Value) (xT : TypeId) (w : World) : (Instr.typeAssert (.iface 111 v) xT 85 true).run Ybaf.prog w = .ok (.tuple #[.nilIface, .bool false]) w := run_typeAssert_lacksB Ybaf.underlying85 (by kernel_rfl) (by kernel_rfl) v xT w

set_option maxRecDepth 100000 in
set_option maxHeartbeats 4000000 in
theorem is_same (a : Addr) (w : World) :
    Calls Ybaf.prog 37 #[.iface 111 (.pointer (some a)), .iface 111 (.pointer (some a))] w fun e w' => e = .returned (.bool true) ∧ w' = w := by
  obtain ⟨i, hi, hcmp⟩ := Option.map_eq_some_iff.1 isComp
  obtain ⟨j, hj, hjs⟩ := Option.map_eq_some_iff.1 isSize
  have h8 := call19
  have h32 := call69
  have tT := isTypeOf
  have cT := isComparable
  have mR := isMethodComparable
  have heq := run_eql_iface_ptr_same (P := Ybaf.prog) w a Ybaf.underlying28 Ybaf.underlying111 hi hcmp hj
  go_enter Ybaf.func37, Ybaf.ntmps37
  go_wp2
  refine wp_loop_rounds 1 ?_
  rw [rounds_succ]
  go_wp2
  go_ret
  exact ⟨rfl, rfl⟩

set_option maxRecDepth 100000 in
set_option maxHeartbeats 4000000 in
theorem is_other (a b : Addr) (ca cb : Array Value) (ta tb : TypeId) (w : World) (hne : a ≠ b) (ha : w.heap[a.block]? = some (.cells ca ta (0, 0))) (hb : w.heap[b.block]? = some (.cells cb tb (0, 0))) :
    Calls Ybaf.prog 37 #[.iface 111 (.pointer (some a)), .iface 111 (.pointer (some b))] w fun e w' => e = .returned (.bool false) ∧ w' = w := by
  obtain ⟨i, hi, hcmp⟩ := Option.map_eq_some_iff.1 isComp
  obtain ⟨j, hj, hjs⟩ := Option.map_eq_some_iff.1 isSize
  have h8 := call19
  have h32 := call69
  have tT := isTypeOf
  have cT := isComparable
  have mR := isMethodComparable
  have nE := noIsE
  have uE := noUnwrapE
  have vE := noUnwrapsE
  have heq := run_eql_iface_ptr_other (P := Ybaf.prog) w Ybaf.underlying28 Ybaf.underlying111 hi hcmp hj (by rw [hjs]; decide) hne ha hb
  go_enter Ybaf.func37, Ybaf.ntmps37
  go_wp2
  refine wp_loop_rounds 1 ?_
  rw [rounds_succ]
  go_wp2
  go_ret
  exact ⟨rfl, rfl⟩
end Go.Proofs.YbulkcufiFmt
