/-
  errors.As (6, 13) at a wrapped *zzs3518berr and a target of type **zzs3518berr (34). The facts on the entries for internal/reflectlite, after the guide's worked text ToyasAs.lean, at this program's numbers.
-/
import Derived.Test.YbulkbtviFmtS2
namespace Go.Proofs.YbulkbtviFmt
open Go.RowKit Go.Extern.Stop Go.Stop Go.Extern

theorem Ybaf.valueOf34 (t : Addr) (w : World) : (ReflectliteValue.unpack (.iface 34 (.pointer (some t)))).run Ybaf.prog w
    = .ok (.agg #[.pointer (some ⟨1, 34, none⟩), .pointer (some ⟨w.heap.size, 0, none⟩), .int .u64 150]) (w.alloc (.cells #[.pointer (some t)] 34)) := by kernel_rfl
theorem Ybaf.type34 (a : Addr) (w : World) : (ReflectliteValue.methodAny (ReflectliteValue.valueError "reflectlite.Value.Type" 0) (fun t _ _ _ => ReflectliteType.toType t) #[.agg #[.pointer (some ⟨1, 34, none⟩), .pointer (some a), .int .u64 150]]).run Ybaf.prog w
    = .ok (.iface 56 (.agg #[.pointer (some ⟨1, 34, none⟩)])) w := by kernel_rfl
theorem Ybaf.methodKind (h : Value) (w : World) : (Go.method 204 56 (.agg #[h]) "Kind").run Ybaf.prog w = .ok (32, h) w := by kernel_rfl
theorem Ybaf.kind34 (w : World) : ((ReflectliteType.abiMethod fun t => (fun a : Nat => Value.int IntKind.u8 (a : Int)) <$> Rtype.kind t) #[.pointer (some ⟨1, 34, none⟩)]).run Ybaf.prog w = .ok (.int .u8 22) w := by kernel_rfl
theorem Ybaf.kind25 (w : World) : ((ReflectliteType.abiMethod fun t => (fun a : Nat => Value.int IntKind.u8 (a : Int)) <$> Rtype.kind t) #[.pointer (some ⟨1, 25, none⟩)]).run Ybaf.prog w = .ok (.int .u8 22) w := by kernel_rfl

theorem mm1 {α : Type} (v : Value) (h1 : Value → α) (h2 : Array Value → α) : ReflectliteValue.method.match_2 (fun _ => α) #[v] h1 h2 = h1 v := rfl
theorem mm2 {α : Type} (v x : Value) (h1 : Value → Value → α) (h2 : Array Value → α) : ReflectliteValue.set.match_3 (fun _ => α) #[v, x] h1 h2 = h1 v x := rfl
theorem Ybaf.parts34 (a : Addr) (w : World) : (ReflectliteValue.parts (.agg #[.pointer (some ⟨1, 34, none⟩), .pointer (some a), .int .u64 150])).run Ybaf.prog w = .ok (some (34, a, 150)) w := by kernel_rfl
theorem Ybaf.isNil34 (a p : Addr) (W : World) (ha : W.cell? a = some (.pointer (some p))) :
    (ReflectliteValue.method (ReflectliteValue.valueError "reflectlite.Value.IsNil" 0) ReflectliteValue.isNil #[.agg #[.pointer (some ⟨1, 34, none⟩), .pointer (some a), .int .u64 150]]).run Ybaf.prog W = .ok (.bool false) W := by
  delta ReflectliteValue.method
  rw [mm1]
  simp only [Sem.run_bind, Ybaf.parts34, Result.andThen]
  simp [ReflectliteValue.isNil, loadVar, isAgg, underlying, Ybaf.underlying34, ha, Result.andThen]

theorem Ybaf.methodElem (h : Value) (w : World) : (Go.method 204 56 (.agg #[h]) "Elem").run Ybaf.prog w = .ok (44, .agg #[h]) w := by kernel_rfl
theorem Ybaf.methodImplements (h : Value) (w : World) : (Go.method 204 56 (.agg #[h]) "Implements").run Ybaf.prog w = .ok (45, .agg #[h]) w := by kernel_rfl
theorem Ybaf.methodAssignableTo (h : Value) (w : World) : (Go.method 204 56 (.agg #[h]) "AssignableTo").run Ybaf.prog w = .ok (42, .agg #[h]) w := by kernel_rfl
theorem Ybaf.elem34 (w : World) : (ReflectliteType.method ReflectliteType.elem #[.agg #[.pointer (some ⟨1, 34, none⟩)]]).run Ybaf.prog w = .ok (.iface 56 (.agg #[.pointer (some ⟨1, 25, none⟩)])) w := by kernel_rfl
theorem Ybaf.implements25 (w : World) : (ReflectliteType.relation "Implements" ReflectliteType.implements_ #[.agg #[.pointer (some ⟨1, 25, none⟩)], .iface 56 (.agg #[.pointer (some ⟨1, 23, none⟩)])]).run Ybaf.prog w = .ok (.bool true) w := by kernel_rfl
theorem Ybaf.assignable25 (w : World) : (ReflectliteType.relation "AssignableTo" ReflectliteType.assignableTo #[.agg #[.pointer (some ⟨1, 25, none⟩)], .iface 56 (.agg #[.pointer (some ⟨1, 25, none⟩)])]).run Ybaf.prog w = .ok (.bool true) w := by kernel_rfl
theorem Ybaf.valueOf25 (e : Addr) (w : World) : (ReflectliteValue.unpack (.iface 25 (.pointer (some e)))).run Ybaf.prog w
    = .ok (.agg #[.pointer (some ⟨1, 25, none⟩), .pointer (some ⟨w.heap.size, 0, none⟩), .int .u64 150]) (w.alloc (.cells #[.pointer (some e)] 25)) := by kernel_rfl

theorem Ybaf.elemOf34 (w : World) : (Rtype.elem? 34).run Ybaf.prog w = .ok (some 25) w := by kernel_rfl
theorem Ybaf.mk25 (p : Addr) (w : World) : (ReflectliteValue.mk 25 p ReflectliteValue.flagAddr).run Ybaf.prog w = .ok (.agg #[.pointer (some ⟨1, 25, none⟩), .pointer (some p), .int .u64 406]) w := by kernel_rfl
theorem Ybaf.elemV34 (a p : Addr) (W : World) (ha : W.cell? a = some (.pointer (some p))) :
    (ReflectliteValue.method (ReflectliteValue.valueError "reflectlite.Value.Elem" 0) ReflectliteValue.elem #[.agg #[.pointer (some ⟨1, 34, none⟩), .pointer (some a), .int .u64 150]]).run Ybaf.prog W
      = .ok (.agg #[.pointer (some ⟨1, 25, none⟩), .pointer (some p), .int .u64 406]) W := by
  delta ReflectliteValue.method
  rw [mm1]
  simp only [Sem.run_bind, Ybaf.parts34, Result.andThen]
  simp [ReflectliteValue.elem, loadVar, isAgg, underlying, Ybaf.underlying34, ha, Result.andThen, Ybaf.elemOf34, Ybaf.mk25]
theorem Ybaf.parts25a (a : Addr) (w : World) : (ReflectliteValue.parts (.agg #[.pointer (some ⟨1, 25, none⟩), .pointer (some a), .int .u64 406])).run Ybaf.prog w = .ok (some (25, a, 406)) w := by kernel_rfl
theorem Ybaf.parts25 (a : Addr) (w : World) : (ReflectliteValue.parts (.agg #[.pointer (some ⟨1, 25, none⟩), .pointer (some a), .int .u64 150])).run Ybaf.prog w = .ok (some (25, a, 150)) w := by kernel_rfl
theorem Ybaf.direct25 (w : World) : (Rtype.directlyAssignable 25 25).run Ybaf.prog w = .ok true w := by kernel_rfl
theorem Ybaf.size25 (w : World) : (sizeOf 25).run Ybaf.prog w = .ok 1 w := by kernel_rfl
theorem Ybaf.set25 (ta b e : Addr) (old : Value) (W : World) (hb : W.cell? b = some (.pointer (some e))) (ht : W.cell? ta = some old) (hf : W.frozen? ta = false) :
    (ReflectliteValue.set #[.agg #[.pointer (some ⟨1, 25, none⟩), .pointer (some ta), .int .u64 406], .agg #[.pointer (some ⟨1, 25, none⟩), .pointer (some b), .int .u64 150]]).run Ybaf.prog W
      = .ok (.tuple #[]) (W.setCell ta (.pointer (some e))) := by
  delta ReflectliteValue.set
  rw [mm2]
  simp only [Sem.run_bind, Ybaf.parts25a, Ybaf.parts25, Result.andThen]
  simp [ReflectliteValue.flagAddr, loadVar, isAgg, underlying, Ybaf.underlying25, hb, Result.andThen, Ybaf.direct25, storeVar, Value.cells, storeCells, Addr.add]
  rw [run_store Ybaf.prog W ta _ _ (by rfl)]
  simp [ht, hf]


end Go.Proofs.YbulkbtviFmt
