/-
  errors.As, where the error's own type is the target's (after the guide's ToyasAs), at this program's numbers.
-/
import Derived.Test.YbulkcufiFmtRows
import Derived.WalkKit
import Derived.LaidEql
import Derived.Stop.Asserts
import Derived.RowKitTokens
namespace Go.Proofs.YbulkcufiFmt
open Go.RowKit Go.Extern.Stop Go.Stop Go.Extern

/-! ### CLOSED FACTS ON THE MODEL's ENTRIES FOR internal/reflectlite, at this program's types: 25: *p.E · 27: **p.E · 23: error · 45: reflectlite's rtype · 1: how many package-level variables the dump has -/
theorem valueOf27 (t : Addr) (w : World) : (ReflectliteValue.unpack (.iface 33 (.pointer (some t)))).run Ybaf.prog w
    = .ok (.agg #[.pointer (some ⟨7, 33, none⟩), .pointer (some ⟨w.heap.size, 0, none⟩), .int .u64 150]) (w.alloc (.cells #[.pointer (some t)] 33)) := by kernel_rfl
theorem type27 (a : Addr) (w : World) : (ReflectliteValue.methodAny (ReflectliteValue.valueError "reflectlite.Value.Type" 0) (fun t _ _ _ => ReflectliteType.toType t) #[.agg #[.pointer (some ⟨7, 33, none⟩), .pointer (some a), .int .u64 150]]).run Ybaf.prog w
    = .ok (.iface 75 (.agg #[.pointer (some ⟨7, 33, none⟩)])) w := by kernel_rfl
theorem methodKind (h : Value) (w : World) : (Go.method 257 75 (.agg #[h]) "Kind").run Ybaf.prog w = .ok (56, h) w := by kernel_rfl
theorem kind27 (w : World) : ((ReflectliteType.abiMethod fun t => (fun a : Nat => Value.int IntKind.u8 (a : Int)) <$> Rtype.kind t) #[.pointer (some ⟨7, 33, none⟩)]).run Ybaf.prog w = .ok (.int .u8 22) w := by kernel_rfl
theorem kind25 (w : World) : ((ReflectliteType.abiMethod fun t => (fun a : Nat => Value.int IntKind.u8 (a : Int)) <$> Rtype.kind t) #[.pointer (some ⟨7, 23, none⟩)]).run Ybaf.prog w = .ok (.int .u8 22) w := by kernel_rfl

/-! ### THE ENTRIES THAT READ OR WRITE MEMORY: laws with a premise on the cell (after Derived/Lib/ReflectliteSlice.lean's manner: each unfolding a lemma of its own, by rfl) -/
theorem rlm (z : Sem Value) (f : TypeId → Addr → Nat → Nat → Sem Value) (v : Value) :
    ReflectliteValue.method z f #[v] = (do match ← ReflectliteValue.parts v with | none => z | some (t, a, fl) => f t a fl (fl % 32)) := rfl
theorem parts27 (a : Addr) (w : World) : (ReflectliteValue.parts (.agg #[.pointer (some ⟨7, 33, none⟩), .pointer (some a), .int .u64 150])).run Ybaf.prog w = .ok (some (33, a, 150)) w := by kernel_rfl
/-- (Value).IsNil at the Value of a **p.E that is not nil. -/
theorem isNil27 (a p : Addr) (W : World) (ha : W.cell? a = some (.pointer (some p))) :
    (ReflectliteValue.method (ReflectliteValue.valueError "reflectlite.Value.IsNil" 0) ReflectliteValue.isNil #[.agg #[.pointer (some ⟨7, 33, none⟩), .pointer (some a), .int .u64 150]]).run Ybaf.prog W = .ok (.bool false) W := by
  rw [rlm]
  simp only [Sem.run_bind, parts27, Result.andThen]
  simp [ReflectliteValue.isNil, loadVar, isAgg, underlying, Ybaf.underlying33, ha, Result.andThen]

theorem methodElem (h : Value) (w : World) : (Go.method 257 75 (.agg #[h]) "Elem").run Ybaf.prog w = .ok (70, .agg #[h]) w := by kernel_rfl
theorem methodImplements (h : Value) (w : World) : (Go.method 257 75 (.agg #[h]) "Implements").run Ybaf.prog w = .ok (71, .agg #[h]) w := by kernel_rfl
theorem methodAssignableTo (h : Value) (w : World) : (Go.method 257 75 (.agg #[h]) "AssignableTo").run Ybaf.prog w = .ok (68, .agg #[h]) w := by kernel_rfl
theorem elem27 (w : World) : (ReflectliteType.method ReflectliteType.elem #[.agg #[.pointer (some ⟨7, 33, none⟩)]]).run Ybaf.prog w = .ok (.iface 75 (.agg #[.pointer (some ⟨7, 23, none⟩)])) w := by kernel_rfl
theorem implements25 (w : World) : (ReflectliteType.relation "Implements" ReflectliteType.implements_ #[.agg #[.pointer (some ⟨7, 23, none⟩)], .iface 75 (.agg #[.pointer (some ⟨7, 28, none⟩)])]).run Ybaf.prog w = .ok (.bool true) w := by kernel_rfl
theorem typeOf25 (v : Value) (w : World) : (ReflectliteType.typeOf #[.iface 23 v]).run Ybaf.prog w = .ok (.iface 75 (.agg #[.pointer (some ⟨7, 23, none⟩)])) w := by kernel_rfl
theorem assignable25 (w : World) : (ReflectliteType.relation "AssignableTo" ReflectliteType.assignableTo #[.agg #[.pointer (some ⟨7, 23, none⟩)], .iface 75 (.agg #[.pointer (some ⟨7, 23, none⟩)])]).run Ybaf.prog w = .ok (.bool true) w := by kernel_rfl
theorem valueOf25 (e : Addr) (w : World) : (ReflectliteValue.unpack (.iface 23 (.pointer (some e)))).run Ybaf.prog w
    = .ok (.agg #[.pointer (some ⟨7, 23, none⟩), .pointer (some ⟨w.heap.size, 0, none⟩), .int .u64 150]) (w.alloc (.cells #[.pointer (some e)] 23)) := by kernel_rfl

theorem elemOf27 (w : World) : (Rtype.elem? 33).run Ybaf.prog w = .ok (some 23) w := by kernel_rfl
theorem mk25 (p : Addr) (w : World) : (ReflectliteValue.mk 23 p ReflectliteValue.flagAddr).run Ybaf.prog w = .ok (.agg #[.pointer (some ⟨7, 23, none⟩), .pointer (some p), .int .u64 406]) w := by kernel_rfl
/-- (Value).Elem at the Value of a **p.E that is not nil: the Value of the *p.E variable that it points to, addressable. -/
theorem elemV27 (a p : Addr) (W : World) (ha : W.cell? a = some (.pointer (some p))) :
    (ReflectliteValue.method (ReflectliteValue.valueError "reflectlite.Value.Elem" 0) ReflectliteValue.elem #[.agg #[.pointer (some ⟨7, 33, none⟩), .pointer (some a), .int .u64 150]]).run Ybaf.prog W
      = .ok (.agg #[.pointer (some ⟨7, 23, none⟩), .pointer (some p), .int .u64 406]) W := by
  rw [rlm]
  simp only [Sem.run_bind, parts27, Result.andThen]
  simp [ReflectliteValue.elem, loadVar, isAgg, underlying, Ybaf.underlying33, ha, Result.andThen, elemOf27, mk25]
theorem rls (v x : Value) : ReflectliteValue.set #[v, x] = (do
    let (some (dst, a, fl), some (src, b, _)) := (← ReflectliteValue.parts v, ← ReflectliteValue.parts x)
      | unsupported (.noEntry "extern/(internal/reflectlite.Value).Set.zeroValue")
    if fl / ReflectliteValue.flagAddr % 2 == 0 then unsupported (.noEntry "extern/(internal/reflectlite.Value).Set.unaddressable")
    let val ← loadVar src b
    if ← Rtype.directlyAssignable dst src then storeVar dst a val
    else if ← Rtype.implements dst src then
      if (← Rtype.kind src) == 20 then
        match val with
        | .nilIface => unsupported (.noEntry "extern/reflectlite: a nil value of one interface type handed on as a value of another")
        | _ => storeVar dst a val
      else storeVar dst a (.iface src val)
    else panicString ("reflectlite.Set: value of type " ++ (← Rtype.spelt src) ++ " is not assignable to type " ++ (← Rtype.spelt dst))
    pure (.tuple #[])) := rfl
theorem parts25a (a : Addr) (w : World) : (ReflectliteValue.parts (.agg #[.pointer (some ⟨7, 23, none⟩), .pointer (some a), .int .u64 406])).run Ybaf.prog w = .ok (some (23, a, 406)) w := by kernel_rfl
theorem parts25 (a : Addr) (w : World) : (ReflectliteValue.parts (.agg #[.pointer (some ⟨7, 23, none⟩), .pointer (some a), .int .u64 150])).run Ybaf.prog w = .ok (some (23, a, 150)) w := by kernel_rfl
theorem direct25 (w : World) : (Rtype.directlyAssignable 23 23).run Ybaf.prog w = .ok true w := by kernel_rfl
theorem size25 (w : World) : (sizeOf 23).run Ybaf.prog w = .ok 1 w := by kernel_rfl
/-- (Value).Set: the *p.E variable at 'ta' gets what the Value's own variable 'b' holds. -/
theorem set25 (ta b e : Addr) (old : Value) (W : World) (hb : W.cell? b = some (.pointer (some e))) (ht : W.cell? ta = some old) (hf : W.frozen? ta = false) :
    (ReflectliteValue.set #[.agg #[.pointer (some ⟨7, 23, none⟩), .pointer (some ta), .int .u64 406], .agg #[.pointer (some ⟨7, 23, none⟩), .pointer (some b), .int .u64 150]]).run Ybaf.prog W
      = .ok (.tuple #[]) (W.setCell ta (.pointer (some e))) := by
  rw [rls]
  simp only [Sem.run_bind, parts25a, parts25, Result.andThen]
  simp [ReflectliteValue.flagAddr, loadVar, isAgg, underlying, Ybaf.underlying23, hb, Result.andThen, direct25, storeVar, Value.cells, storeCells, Addr.add]
  rw [run_store Ybaf.prog W ta _ _ (by rfl)]
  simp [ht, hf]

set_option maxRecDepth 100000 in
set_option maxHeartbeats 4000000 in
theorem as_hit (e t : Addr) (old : Value) (w : World) (hg : w.cell? ⟨1, 0, none⟩ = some (.iface 75 (.agg #[.pointer (some ⟨7, 28, none⟩)]))) (ht0 : w.cell? t = some old) (hf0 : w.frozen? t = false) :
    Calls Ybaf.prog 6 #[.iface 23 (.pointer (some e)), .iface 33 (.pointer (some t))] w fun ev w' => ev = .returned (.bool true) ∧ w' = ((((w.alloc (.cells #[.pointer (some t)] 33)).alloc (.cells #[.pointer (some ⟨7, 33, none⟩), .pointer (some ⟨w.heap.size, 0, none⟩), .int .u64 150] 52)).alloc (.cells #[.pointer (some ⟨7, 33, none⟩), .pointer (some ⟨w.heap.size, 0, none⟩), .int .u64 150] 52)).alloc (.cells #[.pointer (some e)] 23)).setCell t (.pointer (some e)) := by
  have h6 := @run_callFunc_extern Ybaf.prog 11 _ (fun args => ReflectliteValue.unpack (args.getD 0 (.tuple #[]))) Ybaf.func11 (by kernel_rfl) (by kernel_rfl) (by kernel_rfl) (by kernel_rfl)
  have h7 := @run_callFunc_extern Ybaf.prog 12 _ (ReflectliteValue.methodAny (ReflectliteValue.valueError "reflectlite.Value.Type" 0) (fun t _ _ _ => ReflectliteType.toType t)) Ybaf.func12 (by kernel_rfl) (by kernel_rfl) (by kernel_rfl) (by kernel_rfl)
  have h8 := @run_callFunc_extern Ybaf.prog 13 _ (ReflectliteValue.method (ReflectliteValue.valueError "reflectlite.Value.IsNil" 0) ReflectliteValue.isNil) Ybaf.func13 (by kernel_rfl) (by kernel_rfl) (by kernel_rfl) (by kernel_rfl)
  have h27 := @run_callFunc_extern Ybaf.prog 56 _ (ReflectliteType.abiMethod fun t => do pure (.int .u8 (← Rtype.kind t))) Ybaf.func56 (by kernel_rfl) (by kernel_rfl) (by kernel_rfl) (by kernel_rfl)
  have h37 := @run_callFunc_extern Ybaf.prog 70 _ (ReflectliteType.method ReflectliteType.elem) Ybaf.func70 (by kernel_rfl) (by kernel_rfl) (by kernel_rfl) (by kernel_rfl)
  have h38 := @run_callFunc_extern Ybaf.prog 71 _ (ReflectliteType.relation "Implements" ReflectliteType.implements_) Ybaf.func71 (by kernel_rfl) (by kernel_rfl) (by kernel_rfl) (by kernel_rfl)
  have h10 := @run_callFunc_extern Ybaf.prog 19 _ ReflectliteType.typeOf Ybaf.func19 (by kernel_rfl) (by kernel_rfl) (by kernel_rfl) (by kernel_rfl)
  have h35 := @run_callFunc_extern Ybaf.prog 68 _ (ReflectliteType.relation "AssignableTo" ReflectliteType.assignableTo) Ybaf.func68 (by kernel_rfl) (by kernel_rfl) (by kernel_rfl) (by kernel_rfl)
  have h11 := @run_callFunc_extern Ybaf.prog 20 _ (ReflectliteValue.method (ReflectliteValue.valueError "reflectlite.Value.Elem" 0) ReflectliteValue.elem) Ybaf.func20 (by kernel_rfl) (by kernel_rfl) (by kernel_rfl) (by kernel_rfl)
  have h12 := @run_callFunc_extern Ybaf.prog 21 _ ReflectliteValue.set Ybaf.func21 (by kernel_rfl) (by kernel_rfl) (by kernel_rfl) (by kernel_rfl)
  have tO := typeOf25
  have mA := methodAssignableTo
  have a25 := assignable25
  have v25 := valueOf25
  have f6 := valueOf27
  have f7 := type27
  have mK := methodKind
  have mE := methodElem
  have mI := methodImplements
  have k27 := kind27
  have k25 := kind25
  have e27 := elem27
  have i25 := implements25
  have n8 := isNil27 ⟨w.heap.size, 0, none⟩ t ((w.alloc (.cells #[.pointer (some t)] 33)).alloc (.cells #[.pointer (some ⟨7, 33, none⟩), .pointer (some ⟨w.heap.size, 0, none⟩), .int .u64 150] 52)) (by simp)
  have hlt : 1 < w.heap.size := by
    rcases Nat.lt_or_ge 1 w.heap.size with h | h
    · exact h
    · simp [World.cell?, Array.getElem?_eq_none h] at hg
  have hg2 : ((w.alloc (.cells #[.pointer (some t)] 33)).alloc (.cells #[.pointer (some ⟨7, 33, none⟩), .pointer (some ⟨w.heap.size, 0, none⟩), .int .u64 150] 52)).cell? ⟨1, 0, none⟩ = some (.iface 75 (.agg #[.pointer (some ⟨7, 28, none⟩)])) := by
    rw [World.cell?_alloc_lt _ _ ⟨1, 0, none⟩ (by simp; omega), World.cell?_alloc_lt _ _ ⟨1, 0, none⟩ hlt]; exact hg
  have htl : t.block < w.heap.size := by
    rcases Nat.lt_or_ge t.block w.heap.size with h | h
    · exact h
    · simp [World.cell?, Array.getElem?_eq_none h] at ht0
  have el := elemV27 ⟨w.heap.size, 0, none⟩ t (((w.alloc (.cells #[.pointer (some t)] 33)).alloc (.cells #[.pointer (some ⟨7, 33, none⟩), .pointer (some ⟨w.heap.size, 0, none⟩), .int .u64 150] 52)).alloc (.cells #[.pointer (some ⟨7, 33, none⟩), .pointer (some ⟨w.heap.size, 0, none⟩), .int .u64 150] 52)) (by rw [World.cell?_alloc_lt _ _ ⟨w.heap.size, 0, none⟩ (by simp; omega)]; simp)
  have st := set25 t ⟨w.heap.size + 1 + 1 + 1, 0, none⟩ e old ((((w.alloc (.cells #[.pointer (some t)] 33)).alloc (.cells #[.pointer (some ⟨7, 33, none⟩), .pointer (some ⟨w.heap.size, 0, none⟩), .int .u64 150] 52)).alloc (.cells #[.pointer (some ⟨7, 33, none⟩), .pointer (some ⟨w.heap.size, 0, none⟩), .int .u64 150] 52)).alloc (.cells #[.pointer (some e)] 23))
    (by rw [World.cell?_alloc_at _ _ _ _ (by simp)]; rfl)
    (by rw [World.cell?_alloc_lt _ _ t (by simp; omega), World.cell?_alloc_lt _ _ t (by simp; omega), World.cell?_alloc_lt _ _ t (by simp; omega), World.cell?_alloc_lt _ _ t htl]; exact ht0)
    (by rw [World.frozen?_alloc_old _ _ t (by simp; omega), World.frozen?_alloc_old _ _ t (by simp; omega), World.frozen?_alloc_old _ _ t (by simp; omega), World.frozen?_alloc_old _ _ t (Nat.ne_of_lt htl)]; exact hf0)
  go_enter Ybaf.func6, Ybaf.ntmps6
  go_wp2
  refine wp_loop_rounds 1 ?_
  rw [rounds_succ]
  go_wp2
  go_ret
  exact ⟨rfl, rfl⟩
end Go.Proofs.YbulkcufiFmt
