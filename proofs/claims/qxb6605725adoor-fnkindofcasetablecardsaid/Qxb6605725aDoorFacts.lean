/-
  CLOSED FACTS ON THE MODEL's ENTRIES FOR reflectlite, at this program's types: 31: a pointer to Refusal; 39: a pointer to such a pointer; 35: error; 61: reflectlite's rtype; 40: what errors.New makes; 44: what errors.Join makes. After the guide's worked text of errors.As (ToyasAs).
-/
import Derived.Test.Qxb6605725aDoorRows
import Derived.WalkKit
import Derived.LaidEql
import Derived.Stop.Asserts
import Derived.RowKitTokens
namespace Go.Proofs.Qxb6605725aDoor
open Go.RowKit Go.Extern.Stop Go.Stop Go.Extern

theorem handle35 : typeHandle Tryd.prog 35 = .pointer (some ⟨1, 35, none⟩) := by kernel_rfl

theorem valueOf39 (t : Addr) (w : World) : (ReflectliteValue.unpack (.iface 39 (.pointer (some t)))).run Tryd.prog w
    = .ok (.agg #[.pointer (some ⟨1, 39, none⟩), .pointer (some ⟨w.heap.size, 0, none⟩), .int .u64 150]) (w.alloc (.cells #[.pointer (some t)] 39)) := by kernel_rfl
theorem type39 (a : Addr) (w : World) : (ReflectliteValue.methodAny (ReflectliteValue.valueError "reflectlite.Value.Type" 0) (fun t _ _ _ => ReflectliteType.toType t) #[.agg #[.pointer (some ⟨1, 39, none⟩), .pointer (some a), .int .u64 150]]).run Tryd.prog w
    = .ok (.iface 61 (.agg #[.pointer (some ⟨1, 39, none⟩)])) w := by kernel_rfl
theorem kind39 (w : World) : ((ReflectliteType.abiMethod fun t => (fun a : Nat => Value.int IntKind.u8 (a : Int)) <$> Rtype.kind t) #[.pointer (some ⟨1, 39, none⟩)]).run Tryd.prog w = .ok (.int .u8 22) w := by kernel_rfl
theorem kind31 (w : World) : ((ReflectliteType.abiMethod fun t => (fun a : Nat => Value.int IntKind.u8 (a : Int)) <$> Rtype.kind t) #[.pointer (some ⟨1, 31, none⟩)]).run Tryd.prog w = .ok (.int .u8 22) w := by kernel_rfl

theorem parts39 (a : Addr) (w : World) : (ReflectliteValue.parts (.agg #[.pointer (some ⟨1, 39, none⟩), .pointer (some a), .int .u64 150])).run Tryd.prog w = .ok (some (39, a, 150)) w := by kernel_rfl
/-- IsNil at the Value of a pointer that is not nil. -/
theorem isNil39 (a p : Addr) (W : World) (ha : W.cell? a = some (.pointer (some p))) :
    (ReflectliteValue.method (ReflectliteValue.valueError "reflectlite.Value.IsNil" 0) ReflectliteValue.isNil #[.agg #[.pointer (some ⟨1, 39, none⟩), .pointer (some a), .int .u64 150]]).run Tryd.prog W = .ok (.bool false) W := by
  show (Bind.bind (ReflectliteValue.parts (.agg #[.pointer (some ⟨1, 39, none⟩), .pointer (some a), .int .u64 150])) _ : Sem Value).run Tryd.prog W = _
  simp only [Sem.run_bind, parts39, Result.andThen]
  simp [ReflectliteValue.isNil, loadVar, isAgg, underlying, Tryd.underlying39, ha, Result.andThen]

theorem elem39 (w : World) : (ReflectliteType.method ReflectliteType.elem #[.agg #[.pointer (some ⟨1, 39, none⟩)]]).run Tryd.prog w = .ok (.iface 61 (.agg #[.pointer (some ⟨1, 31, none⟩)])) w := by kernel_rfl
theorem implements31 (w : World) : (ReflectliteType.relation "Implements" ReflectliteType.implements_ #[.agg #[.pointer (some ⟨1, 31, none⟩)], .iface 61 (.agg #[.pointer (some ⟨1, 35, none⟩)])]).run Tryd.prog w = .ok (.bool true) w := by kernel_rfl
theorem typeOf31 (v : Value) (w : World) : (ReflectliteType.typeOf #[.iface 31 v]).run Tryd.prog w = .ok (.iface 61 (.agg #[.pointer (some ⟨1, 31, none⟩)])) w := by kernel_rfl
theorem typeOf40 (v : Value) (w : World) : (ReflectliteType.typeOf #[.iface 40 v]).run Tryd.prog w = .ok (.iface 61 (.agg #[.pointer (some ⟨1, 40, none⟩)])) w := by kernel_rfl
theorem typeOf44 (v : Value) (w : World) : (ReflectliteType.typeOf #[.iface 44 v]).run Tryd.prog w = .ok (.iface 61 (.agg #[.pointer (some ⟨1, 44, none⟩)])) w := by kernel_rfl
theorem assignable31 (w : World) : (ReflectliteType.relation "AssignableTo" ReflectliteType.assignableTo #[.agg #[.pointer (some ⟨1, 31, none⟩)], .iface 61 (.agg #[.pointer (some ⟨1, 31, none⟩)])]).run Tryd.prog w = .ok (.bool true) w := by kernel_rfl
theorem assignable40 (w : World) : (ReflectliteType.relation "AssignableTo" ReflectliteType.assignableTo #[.agg #[.pointer (some ⟨1, 40, none⟩)], .iface 61 (.agg #[.pointer (some ⟨1, 31, none⟩)])]).run Tryd.prog w = .ok (.bool false) w := by kernel_rfl
theorem assignable44 (w : World) : (ReflectliteType.relation "AssignableTo" ReflectliteType.assignableTo #[.agg #[.pointer (some ⟨1, 44, none⟩)], .iface 61 (.agg #[.pointer (some ⟨1, 31, none⟩)])]).run Tryd.prog w = .ok (.bool false) w := by kernel_rfl
theorem valueOf31 (e : Addr) (w : World) : (ReflectliteValue.unpack (.iface 31 (.pointer (some e)))).run Tryd.prog w
    = .ok (.agg #[.pointer (some ⟨1, 31, none⟩), .pointer (some ⟨w.heap.size, 0, none⟩), .int .u64 150]) (w.alloc (.cells #[.pointer (some e)] 31)) := by kernel_rfl

theorem elemOf39 (w : World) : (Rtype.elem? 39).run Tryd.prog w = .ok (some 31) w := by kernel_rfl
theorem mk31 (p : Addr) (w : World) : (ReflectliteValue.mk 31 p ReflectliteValue.flagAddr).run Tryd.prog w = .ok (.agg #[.pointer (some ⟨1, 31, none⟩), .pointer (some p), .int .u64 406]) w := by kernel_rfl
/-- Elem at the Value of a pointer that is not nil. -/
theorem elemV39 (a p : Addr) (W : World) (ha : W.cell? a = some (.pointer (some p))) :
    (ReflectliteValue.method (ReflectliteValue.valueError "reflectlite.Value.Elem" 0) ReflectliteValue.elem #[.agg #[.pointer (some ⟨1, 39, none⟩), .pointer (some a), .int .u64 150]]).run Tryd.prog W
      = .ok (.agg #[.pointer (some ⟨1, 31, none⟩), .pointer (some p), .int .u64 406]) W := by
  show (Bind.bind (ReflectliteValue.parts (.agg #[.pointer (some ⟨1, 39, none⟩), .pointer (some a), .int .u64 150])) _ : Sem Value).run Tryd.prog W = _
  simp only [Sem.run_bind, parts39, Result.andThen]
  simp [ReflectliteValue.elem, loadVar, isAgg, underlying, Tryd.underlying39, ha, Result.andThen, elemOf39, mk31]
theorem parts31a (a : Addr) (w : World) : (ReflectliteValue.parts (.agg #[.pointer (some ⟨1, 31, none⟩), .pointer (some a), .int .u64 406])).run Tryd.prog w = .ok (some (31, a, 406)) w := by kernel_rfl
theorem parts31 (a : Addr) (w : World) : (ReflectliteValue.parts (.agg #[.pointer (some ⟨1, 31, none⟩), .pointer (some a), .int .u64 150])).run Tryd.prog w = .ok (some (31, a, 150)) w := by kernel_rfl
theorem direct31 (w : World) : (Rtype.directlyAssignable 31 31).run Tryd.prog w = .ok true w := by kernel_rfl
/-- Set: the variable at 'ta' gets what the Value's own variable 'b' holds. -/
theorem set31 (ta b e : Addr) (old : Value) (W : World) (hb : W.cell? b = some (.pointer (some e))) (ht : W.cell? ta = some old) (hf : W.frozen? ta = false) :
    (ReflectliteValue.set #[.agg #[.pointer (some ⟨1, 31, none⟩), .pointer (some ta), .int .u64 406], .agg #[.pointer (some ⟨1, 31, none⟩), .pointer (some b), .int .u64 150]]).run Tryd.prog W
      = .ok (.tuple #[]) (W.setCell ta (.pointer (some e))) := by
  show (Bind.bind (ReflectliteValue.parts (.agg #[.pointer (some ⟨1, 31, none⟩), .pointer (some ta), .int .u64 406])) fun _ => Bind.bind (ReflectliteValue.parts (.agg #[.pointer (some ⟨1, 31, none⟩), .pointer (some b), .int .u64 150])) _ : Sem Value).run Tryd.prog W = _
  simp only [Sem.run_bind, parts31a, parts31, Result.andThen]
  simp [ReflectliteValue.flagAddr, loadVar, isAgg, underlying, Tryd.underlying31, hb, Result.andThen, direct31, storeVar, Value.cells, storeCells, Addr.add]
  rw [run_store Tryd.prog W ta _ _ (by rfl)]
  simp [ht, hf]

/-! ### rtype's methods, found by name -/
theorem methodKind (h : Value) (w : World) : (Go.method 203 61 (.agg #[h]) "Kind").run Tryd.prog w = .ok (37, h) w := by kernel_rfl
theorem methodElem (h : Value) (w : World) : (Go.method 203 61 (.agg #[h]) "Elem").run Tryd.prog w = .ok (50, .agg #[h]) w := by kernel_rfl
theorem methodImplements (h : Value) (w : World) : (Go.method 203 61 (.agg #[h]) "Implements").run Tryd.prog w = .ok (51, .agg #[h]) w := by kernel_rfl
theorem methodAssignableTo (h : Value) (w : World) : (Go.method 203 61 (.agg #[h]) "AssignableTo").run Tryd.prog w = .ok (48, .agg #[h]) w := by kernel_rfl
theorem methodUnwrap (a : Addr) (w : World) : (Go.method 203 44 (.pointer (some a)) "Unwrap").run Tryd.prog w = .ok (43, .pointer (some a)) w := by kernel_rfl

end Go.Proofs.Qxb6605725aDoor
