/-
  Seat b6604436aD: errors.As and errors.as by their contracts, at the concrete target '**protocol.Error'. After the guide's worked toy 'toyas', turned to this program's numbers: 23: *protocol.Error, 34: **protocol.Error, 31: error, 54: reflectlite's rtype, 43: reflectlite.Value, 37: *errors.joinError; the dump has 1 package-level variable.
-/
import Derived.Test.Qxb6604436aDoorRows
import Derived.WalkKit
import Derived.WalkSpells
import Derived.WalkLawsBesides
import Derived.LaidEql
import Derived.Stop.Asserts
import Derived.RowKitTokens
namespace Go.Proofs.Qxb6604436aDoor
open Go.RowKit Go.Extern.Stop Go.Stop Go.Extern

theorem valueOf34 (t : Addr) (w : World) : (ReflectliteValue.unpack (.iface 34 (.pointer (some t)))).run Tryd.prog w
    = .ok (.agg #[.pointer (some ⟨1, 34, none⟩), .pointer (some ⟨w.heap.size, 0, none⟩), .int .u64 150]) (w.alloc (.cells #[.pointer (some t)] 34)) := by kernel_rfl
theorem type34 (a : Addr) (w : World) : (ReflectliteValue.methodAny (ReflectliteValue.valueError "reflectlite.Value.Type" 0) (fun t _ _ _ => ReflectliteType.toType t) #[.agg #[.pointer (some ⟨1, 34, none⟩), .pointer (some a), .int .u64 150]]).run Tryd.prog w
    = .ok (.iface 54 (.agg #[.pointer (some ⟨1, 34, none⟩)])) w := by kernel_rfl
theorem kind34 (w : World) : ((ReflectliteType.abiMethod fun t => Functor.map (fun a : Nat => Value.int IntKind.u8 (a : Int)) (Rtype.kind t)) #[.pointer (some ⟨1, 34, none⟩)]).run Tryd.prog w = .ok (.int .u8 22) w := by kernel_rfl
theorem kind23 (w : World) : ((ReflectliteType.abiMethod fun t => Functor.map (fun a : Nat => Value.int IntKind.u8 (a : Int)) (Rtype.kind t)) #[.pointer (some ⟨1, 23, none⟩)]).run Tryd.prog w = .ok (.int .u8 22) w := by kernel_rfl
theorem methodKind (h : Value) (w : World) : (Go.method 196 54 (.agg #[h]) "Kind").run Tryd.prog w = .ok (31, h) w := by kernel_rfl
theorem methodElem (h : Value) (w : World) : (Go.method 196 54 (.agg #[h]) "Elem").run Tryd.prog w = .ok (44, .agg #[h]) w := by kernel_rfl
theorem methodImplements (h : Value) (w : World) : (Go.method 196 54 (.agg #[h]) "Implements").run Tryd.prog w = .ok (45, .agg #[h]) w := by kernel_rfl
theorem methodAssignableTo (h : Value) (w : World) : (Go.method 196 54 (.agg #[h]) "AssignableTo").run Tryd.prog w = .ok (42, .agg #[h]) w := by kernel_rfl
theorem elem34 (w : World) : (ReflectliteType.method ReflectliteType.elem #[.agg #[.pointer (some ⟨1, 34, none⟩)]]).run Tryd.prog w = .ok (.iface 54 (.agg #[.pointer (some ⟨1, 23, none⟩)])) w := by kernel_rfl
theorem implements23 (w : World) : (ReflectliteType.relation "Implements" ReflectliteType.implements_ #[.agg #[.pointer (some ⟨1, 23, none⟩)], .iface 54 (.agg #[.pointer (some ⟨1, 31, none⟩)])]).run Tryd.prog w = .ok (.bool true) w := by kernel_rfl
theorem typeOf23 (v : Value) (w : World) : (ReflectliteType.typeOf #[.iface 23 v]).run Tryd.prog w = .ok (.iface 54 (.agg #[.pointer (some ⟨1, 23, none⟩)])) w := by kernel_rfl
theorem typeOf37 (v : Value) (w : World) : (ReflectliteType.typeOf #[.iface 37 v]).run Tryd.prog w = .ok (.iface 54 (.agg #[.pointer (some ⟨1, 37, none⟩)])) w := by kernel_rfl
theorem assignable23 (w : World) : (ReflectliteType.relation "AssignableTo" ReflectliteType.assignableTo #[.agg #[.pointer (some ⟨1, 23, none⟩)], .iface 54 (.agg #[.pointer (some ⟨1, 23, none⟩)])]).run Tryd.prog w = .ok (.bool true) w := by kernel_rfl
theorem assignable37 (w : World) : (ReflectliteType.relation "AssignableTo" ReflectliteType.assignableTo #[.agg #[.pointer (some ⟨1, 37, none⟩)], .iface 54 (.agg #[.pointer (some ⟨1, 23, none⟩)])]).run Tryd.prog w = .ok (.bool false) w := by kernel_rfl
theorem valueOf23 (e : Addr) (w : World) : (ReflectliteValue.unpack (.iface 23 (.pointer (some e)))).run Tryd.prog w
    = .ok (.agg #[.pointer (some ⟨1, 23, none⟩), .pointer (some ⟨w.heap.size, 0, none⟩), .int .u64 150]) (w.alloc (.cells #[.pointer (some e)] 23)) := by kernel_rfl
theorem elemOf34 (w : World) : (Rtype.elem? 34).run Tryd.prog w = .ok (some 23) w := by kernel_rfl
theorem mk23 (p : Addr) (w : World) : (ReflectliteValue.mk 23 p ReflectliteValue.flagAddr).run Tryd.prog w = .ok (.agg #[.pointer (some ⟨1, 23, none⟩), .pointer (some p), .int .u64 406]) w := by kernel_rfl
theorem parts34 (a : Addr) (w : World) : (ReflectliteValue.parts (.agg #[.pointer (some ⟨1, 34, none⟩), .pointer (some a), .int .u64 150])).run Tryd.prog w = .ok (some (34, a, 150)) w := by kernel_rfl
theorem parts23a (a : Addr) (w : World) : (ReflectliteValue.parts (.agg #[.pointer (some ⟨1, 23, none⟩), .pointer (some a), .int .u64 406])).run Tryd.prog w = .ok (some (23, a, 406)) w := by kernel_rfl
theorem parts23 (a : Addr) (w : World) : (ReflectliteValue.parts (.agg #[.pointer (some ⟨1, 23, none⟩), .pointer (some a), .int .u64 150])).run Tryd.prog w = .ok (some (23, a, 150)) w := by kernel_rfl
theorem direct23 (w : World) : (Rtype.directlyAssignable 23 23).run Tryd.prog w = .ok true w := by kernel_rfl
theorem size23 (w : World) : (sizeOf 23).run Tryd.prog w = .ok 1 w := by kernel_rfl

/-- each unfolding a lemma of its own, by rfl -/
theorem rlm (z : Sem Value) (f : TypeId → Addr → Nat → Nat → Sem Value) (v : Value) :
    ReflectliteValue.method z f #[v] = (do match ← ReflectliteValue.parts v with | none => z | some (t, a, fl) => f t a fl (fl % 32)) := rfl
theorem isNil34 (a p : Addr) (W : World) (ha : W.cell? a = some (.pointer (some p))) :
    (ReflectliteValue.method (ReflectliteValue.valueError "reflectlite.Value.IsNil" 0) ReflectliteValue.isNil #[.agg #[.pointer (some ⟨1, 34, none⟩), .pointer (some a), .int .u64 150]]).run Tryd.prog W = .ok (.bool false) W := by
  rw [rlm]
  simp only [Sem.run_bind, parts34, Result.andThen]
  simp [ReflectliteValue.isNil, loadVar, isAgg, underlying, Tryd.underlying34, ha, Result.andThen]
theorem elemV34 (a p : Addr) (W : World) (ha : W.cell? a = some (.pointer (some p))) :
    (ReflectliteValue.method (ReflectliteValue.valueError "reflectlite.Value.Elem" 0) ReflectliteValue.elem #[.agg #[.pointer (some ⟨1, 34, none⟩), .pointer (some a), .int .u64 150]]).run Tryd.prog W
      = .ok (.agg #[.pointer (some ⟨1, 23, none⟩), .pointer (some p), .int .u64 406]) W := by
  rw [rlm]
  simp only [Sem.run_bind, parts34, Result.andThen]
  simp [ReflectliteValue.elem, loadVar, isAgg, underlying, Tryd.underlying34, ha, Result.andThen, elemOf34, mk23]
theorem set23 (ta b e : Addr) (old : Value) (W : World) (hb : W.cell? b = some (.pointer (some e))) (ht : W.cell? ta = some old) (hf : W.frozen? ta = false) :
    (ReflectliteValue.set #[.agg #[.pointer (some ⟨1, 23, none⟩), .pointer (some ta), .int .u64 406], .agg #[.pointer (some ⟨1, 23, none⟩), .pointer (some b), .int .u64 150]]).run Tryd.prog W
      = .ok (.tuple #[]) (W.setCell ta (.pointer (some e))) := by
  change Sem.run Tryd.prog (ReflectliteValue.parts (.agg #[.pointer (some ⟨1, 23, none⟩), .pointer (some ta), .int .u64 406]) >>= fun p => ReflectliteValue.parts (.agg #[.pointer (some ⟨1, 23, none⟩), .pointer (some b), .int .u64 150]) >>= fun q => _) W = _
  simp only [Sem.run_bind, parts23a, parts23, Result.andThen]
  simp [ReflectliteValue.flagAddr, loadVar, isAgg, underlying, Tryd.underlying23, hb, Result.andThen, direct23, storeVar, Value.cells, storeCells, Addr.add]
  rw [run_store Tryd.prog W ta _ _ (by rfl)]
  simp [ht, hf]

theorem noAs37 (v : Value) (xT : TypeId) (w : World) : (Instr.typeAssert (.iface 37 v) xT 59 true).run Tryd.prog w = .ok (.tuple #[.nilIface, .bool false]) w := run_typeAssert_lacksB Tryd.underlying59 (by kernel_rfl) (by kernel_rfl) v xT w
theorem noUnwrap37 (v : Value) (xT : TypeId) (w : World) : (Instr.typeAssert (.iface 37 v) xT 62 true).run Tryd.prog w = .ok (.tuple #[.nilIface, .bool false]) w := run_typeAssert_lacksB Tryd.underlying62 (by kernel_rfl) (by kernel_rfl) v xT w
theorem isUnwraps37 (v : Value) (xT : TypeId) (w : World) : (Instr.typeAssert (.iface 37 v) xT 64 true).run Tryd.prog w = .ok (.tuple #[.iface 37 v, .bool true]) w := run_typeAssert_hasB Tryd.underlying64 (by kernel_rfl) v xT w
theorem methodUnwrap (h : Value) (w : World) : (Go.method 196 37 h "Unwrap").run Tryd.prog w = .ok (37, h) w := by kernel_rfl

end Go.Proofs.Qxb6604436aDoor
