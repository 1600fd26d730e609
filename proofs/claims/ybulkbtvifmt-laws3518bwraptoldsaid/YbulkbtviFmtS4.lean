/-
  errors.As (6, 13) at a wrapped *zzs3518berr: the walk, after the guide's worked text ToyasAs.lean; here the error that fits lies one Unwrap further down.
-/
import Derived.Test.YbulkbtviFmtS3
namespace Go.Proofs.YbulkbtviFmt
open Go.RowKit Go.Extern.Stop Go.Stop Go.Extern

theorem Ybaf.assignable54 (w : World) : (ReflectliteType.relation "AssignableTo" ReflectliteType.assignableTo #[.agg #[.pointer (some ⟨1, 54, none⟩)], .iface 56 (.agg #[.pointer (some ⟨1, 25, none⟩)])]).run Ybaf.prog w = .ok (.bool false) w := by kernel_rfl
theorem Ybaf.asAs (v : Value) (xT : TypeId) (w : World) : (Instr.typeAssert (.iface 54 v) xT 66 true).run Ybaf.prog w = .ok (.tuple #[.nilIface, .bool false]) w := run_typeAssert_lacksB Ybaf.underlying66 (by kernel_rfl) (by kernel_rfl) v xT w

set_option maxHeartbeats 4000000 in
theorem as_hit (rb : Nat) (e t : Addr) (old : Value) (w : World) (hr : w.cell? ⟨rb, 1, none⟩ = some (.iface 25 (.pointer (some e)))) (hg : w.cell? ⟨0, 0, none⟩ = some (.iface 56 (.agg #[.pointer (some ⟨1, 23, none⟩)]))) (ht0 : w.cell? t = some old) (hf0 : w.frozen? t = false) :
    Calls Ybaf.prog 6 #[.iface 54 (.pointer (some ⟨rb, 0, none⟩)), .iface 34 (.pointer (some t))] w fun ev w' => ev = .returned (.bool true) ∧ w' = ((((w.alloc (.cells #[.pointer (some t)] 34)).alloc (.cells #[.pointer (some ⟨1, 34, none⟩), .pointer (some ⟨w.heap.size, 0, none⟩), .int .u64 150] 45)).alloc (.cells #[.pointer (some ⟨1, 34, none⟩), .pointer (some ⟨w.heap.size, 0, none⟩), .int .u64 150] 45)).alloc (.cells #[.pointer (some e)] 25)).setCell t (.pointer (some e)) := by
  have h10 := @run_callFunc_extern Ybaf.prog 10 _ (fun args => ReflectliteValue.unpack (args.getD 0 (.tuple #[]))) Ybaf.func10 (by kernel_rfl) (by kernel_rfl) (by kernel_rfl) (by kernel_rfl)
  have h11 := @run_callFunc_extern Ybaf.prog 11 _ (ReflectliteValue.methodAny (ReflectliteValue.valueError "reflectlite.Value.Type" 0) (fun t _ _ _ => ReflectliteType.toType t)) Ybaf.func11 (by kernel_rfl) (by kernel_rfl) (by kernel_rfl) (by kernel_rfl)
  have h12 := @run_callFunc_extern Ybaf.prog 12 _ (ReflectliteValue.method (ReflectliteValue.valueError "reflectlite.Value.IsNil" 0) ReflectliteValue.isNil) Ybaf.func12 (by kernel_rfl) (by kernel_rfl) (by kernel_rfl) (by kernel_rfl)
  have h32 := @run_callFunc_extern Ybaf.prog 32 _ (ReflectliteType.abiMethod fun t => do pure (.int .u8 (← Rtype.kind t))) Ybaf.func32 (by kernel_rfl) (by kernel_rfl) (by kernel_rfl) (by kernel_rfl)
  have h44 := @run_callFunc_extern Ybaf.prog 44 _ (ReflectliteType.method ReflectliteType.elem) Ybaf.func44 (by kernel_rfl) (by kernel_rfl) (by kernel_rfl) (by kernel_rfl)
  have h45 := @run_callFunc_extern Ybaf.prog 45 _ (ReflectliteType.relation "Implements" ReflectliteType.implements_) Ybaf.func45 (by kernel_rfl) (by kernel_rfl) (by kernel_rfl) (by kernel_rfl)
  have h8 := @run_callFunc_extern Ybaf.prog 8 _ ReflectliteType.typeOf Ybaf.func8 (by kernel_rfl) (by kernel_rfl) (by kernel_rfl) (by kernel_rfl)
  have h42 := @run_callFunc_extern Ybaf.prog 42 _ (ReflectliteType.relation "AssignableTo" ReflectliteType.assignableTo) Ybaf.func42 (by kernel_rfl) (by kernel_rfl) (by kernel_rfl) (by kernel_rfl)
  have h16 := @run_callFunc_extern Ybaf.prog 16 _ (ReflectliteValue.method (ReflectliteValue.valueError "reflectlite.Value.Elem" 0) ReflectliteValue.elem) Ybaf.func16 (by kernel_rfl) (by kernel_rfl) (by kernel_rfl) (by kernel_rfl)
  have h17 := @run_callFunc_extern Ybaf.prog 17 _ ReflectliteValue.set Ybaf.func17 (by kernel_rfl) (by kernel_rfl) (by kernel_rfl) (by kernel_rfl)
  have tO := Ybaf.typeOf25
  have mA := Ybaf.methodAssignableTo
  have a25 := Ybaf.assignable25
  have v25 := Ybaf.valueOf25
  have f6 := Ybaf.valueOf34
  have f7 := Ybaf.type34
  have mK := Ybaf.methodKind
  have mE := Ybaf.methodElem
  have mI := Ybaf.methodImplements
  have k27 := Ybaf.kind34
  have k25 := Ybaf.kind25
  have e27 := Ybaf.elem34
  have i25 := Ybaf.implements25
  have n8 := Ybaf.isNil34 ⟨w.heap.size, 0, none⟩ t ((w.alloc (.cells #[.pointer (some t)] 34)).alloc (.cells #[.pointer (some ⟨1, 34, none⟩), .pointer (some ⟨w.heap.size, 0, none⟩), .int .u64 150] 45)) (by simp)
  have hlt : 0 < w.heap.size := by
    rcases Nat.eq_zero_or_pos w.heap.size with h0 | h
    · simp [World.cell?, h0] at hg
    · exact h
  have hg2 : ((w.alloc (.cells #[.pointer (some t)] 34)).alloc (.cells #[.pointer (some ⟨1, 34, none⟩), .pointer (some ⟨w.heap.size, 0, none⟩), .int .u64 150] 45)).cell? ⟨0, 0, none⟩ = some (.iface 56 (.agg #[.pointer (some ⟨1, 23, none⟩)])) := by
    rw [World.cell?_alloc_lt _ _ ⟨0, 0, none⟩ (by simp), World.cell?_alloc_lt _ _ ⟨0, 0, none⟩ hlt]; exact hg
  have htl : t.block < w.heap.size := by
    rcases Nat.lt_or_ge t.block w.heap.size with h | h
    · exact h
    · simp [World.cell?, Array.getElem?_eq_none h] at ht0
  have el := Ybaf.elemV34 ⟨w.heap.size, 0, none⟩ t (((w.alloc (.cells #[.pointer (some t)] 34)).alloc (.cells #[.pointer (some ⟨1, 34, none⟩), .pointer (some ⟨w.heap.size, 0, none⟩), .int .u64 150] 45)).alloc (.cells #[.pointer (some ⟨1, 34, none⟩), .pointer (some ⟨w.heap.size, 0, none⟩), .int .u64 150] 45)) (by rw [World.cell?_alloc_lt _ _ ⟨w.heap.size, 0, none⟩ (by simp; omega)]; simp)
  have st := Ybaf.set25 t ⟨w.heap.size + 1 + 1 + 1, 0, none⟩ e old ((((w.alloc (.cells #[.pointer (some t)] 34)).alloc (.cells #[.pointer (some ⟨1, 34, none⟩), .pointer (some ⟨w.heap.size, 0, none⟩), .int .u64 150] 45)).alloc (.cells #[.pointer (some ⟨1, 34, none⟩), .pointer (some ⟨w.heap.size, 0, none⟩), .int .u64 150] 45)).alloc (.cells #[.pointer (some e)] 25))
    (by rw [World.cell?_alloc_at _ _ _ _ (by simp)]; rfl)
    (by rw [World.cell?_alloc_lt _ _ t (by simp; omega), World.cell?_alloc_lt _ _ t (by simp; omega), World.cell?_alloc_lt _ _ t (by simp; omega), World.cell?_alloc_lt _ _ t htl]; exact ht0)
    (by rw [World.frozen?_alloc_old _ _ t (by simp; omega), World.frozen?_alloc_old _ _ t (by simp; omega), World.frozen?_alloc_old _ _ t (by simp; omega), World.frozen?_alloc_old _ _ t (Nat.ne_of_lt htl)]; exact hf0)
  have rb0 : rb < w.heap.size := World.block_lt_of_cell? _ _ hr
  have rb1 : rb < w.heap.size + 1 := by omega
  have rb2 : rb < w.heap.size + 1 + 1 := by omega
  have hr1 : ∀ o, (w.alloc o).cell? ⟨rb, 1, none⟩ = some (.iface 25 (.pointer (some e))) := fun o => (World.cell?_of_block (Below.heap_alloc w o rb rb0)).trans hr
  have tO4 := Ybaf.typeOf54
  have a54 := Ybaf.assignable54
  have mU := Ybaf.mUnwrap
  have n66 := Ybaf.asAs
  have n28 := Ybaf.asUn
  go_enter Ybaf.func6, Ybaf.ntmps6
  go_wp2
  refine wp_loop_rounds 2 ?_
  rw [rounds_succ]
  go_wp2
  rw [rounds_succ]
  go_wp2
  go_ret
  exact ⟨rfl, rfl⟩
end Go.Proofs.YbulkbtviFmt
