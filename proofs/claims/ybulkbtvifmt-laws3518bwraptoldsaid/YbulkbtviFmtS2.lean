/-
  errors.Is (5, 9) at a wrapped *zzs3518berr.
-/
import Derived.Test.YbulkbtviFmtS1
namespace Go.Proofs.YbulkbtviFmt
open Go.RowKit Go.Extern.Stop Go.Stop Go.Extern

theorem Ybaf.typeOf25 (v : Value) (w : World) : (ReflectliteType.typeOf #[.iface 25 v]).run Ybaf.prog w = .ok (.iface 56 (.agg #[.pointer (some ⟨1, 25, none⟩)])) w := by kernel_rfl
theorem Ybaf.typeOf54 (v : Value) (w : World) : (ReflectliteType.typeOf #[.iface 54 v]).run Ybaf.prog w = .ok (.iface 56 (.agg #[.pointer (some ⟨1, 54, none⟩)])) w := by kernel_rfl
theorem Ybaf.comparable25 (w : World) : ((ReflectliteType.method fun t => do Rtype.noPackHeld "Comparable" t; (fun a : TypeInfo => Value.bool a.comparable) <$> typeInfo t) #[.agg #[.pointer (some ⟨1, 25, none⟩)]]).run Ybaf.prog w = .ok (.bool true) w := by kernel_rfl

theorem Ybaf.mComparable (h : Value) (w : World) : (Go.method 204 56 (.agg #[h]) "Comparable").run Ybaf.prog w = .ok (43, .agg #[h]) w := by kernel_rfl
theorem Ybaf.mUnwrap (a : Addr) (w : World) : (Go.method 204 54 (.pointer (some a)) "Unwrap").run Ybaf.prog w = .ok (40, .pointer (some a)) w := by kernel_rfl
theorem Ybaf.asIs (v : Value) (xT : TypeId) (w : World) : (Instr.typeAssert (.iface 54 v) xT 58 true).run Ybaf.prog w = .ok (.tuple #[.nilIface, .bool false]) w := run_typeAssert_lacksB Ybaf.underlying58 (by kernel_rfl) (by kernel_rfl) v xT w
theorem Ybaf.asUn (v : Value) (xT : TypeId) (w : World) : (Instr.typeAssert (.iface 54 v) xT 28 true).run Ybaf.prog w = .ok (.tuple #[.iface 54 v, .bool true]) w := run_typeAssert_hasB Ybaf.underlying28 (by kernel_rfl) v xT w
theorem Ybaf.neq5425 (x y : Value) (w : World) : (binOp .eql 23 (.iface 54 x) (.iface 25 y)).run Ybaf.prog w = .ok (.bool false) w := run_eql_iface_types 54 25 x y Ybaf.underlying23 (by decide) w
theorem Ybaf.info25 : ∃ i, Ybaf.prog.info? 25 = some i ∧ i.comparable = true := ⟨Ybaf.t25, by kernel_rfl, by kernel_rfl⟩
theorem Ybaf.info27 : ∃ i, Ybaf.prog.info? 27 = some i := ⟨Ybaf.t27, by kernel_rfl⟩
theorem Ybaf.eq25 (a : Addr) (w : World) : (binOp .eql 23 (.iface 25 (.pointer (some a))) (.iface 25 (.pointer (some a)))).run Ybaf.prog w = .ok (.bool true) w := by
  obtain ⟨i, hi, hc⟩ := Ybaf.info25
  obtain ⟨j, hj⟩ := Ybaf.info27
  exact run_eql_iface_ptr_same w a Ybaf.underlying23 Ybaf.underlying25 hi hc hj

set_option maxHeartbeats 800000 in
set_option maxRecDepth 100000 in
theorem is_loop (eb rb : Nat) (w : World) (hr : w.cell? ⟨rb, 1, none⟩ = some (.iface 25 (.pointer (some ⟨eb, 0, none⟩)))) :
    Calls Ybaf.prog 9 #[.iface 54 (.pointer (some ⟨rb, 0, none⟩)), .iface 25 (.pointer (some ⟨eb, 0, none⟩)), .bool true] w fun e w' => e = .returned (.bool true) ∧ w' = w := by
  have f1 := Ybaf.mUnwrap
  have f2 := Ybaf.asIs
  have f3 := Ybaf.asUn
  have f4 := Ybaf.neq5425
  have f5 := Ybaf.eq25
  go_enter Ybaf.func9, Ybaf.ntmps9
  go_wp2
  refine wp_loop_rounds 2 ?_
  rw [rounds_succ]
  go_wp2
  rw [rounds_succ]
  go_wp2
  go_ret
  exact ⟨rfl, rfl⟩

set_option maxHeartbeats 800000 in
set_option maxRecDepth 100000 in
theorem is_hit (eb rb : Nat) (w : World) (hr : w.cell? ⟨rb, 1, none⟩ = some (.iface 25 (.pointer (some ⟨eb, 0, none⟩)))) :
    Calls Ybaf.prog 5 #[.iface 54 (.pointer (some ⟨rb, 0, none⟩)), .iface 25 (.pointer (some ⟨eb, 0, none⟩))] w fun e w' => e = .returned (.bool true) ∧ w' = w := by
  have h8 := @run_callFunc_extern Ybaf.prog 8 _ ReflectliteType.typeOf Ybaf.func8 (by kernel_rfl) (by kernel_rfl) (by kernel_rfl) (by kernel_rfl)
  have h43 := @run_callFunc_extern Ybaf.prog 43 _ (ReflectliteType.method fun t => do Rtype.noPackHeld "Comparable" t; pure (.bool (← typeInfo t).comparable)) Ybaf.func43 (by kernel_rfl) (by kernel_rfl) (by kernel_rfl) (by kernel_rfl)
  have t25 := Ybaf.typeOf25
  have c25 := Ybaf.comparable25
  have m1 := Ybaf.mComparable
  go_enter Ybaf.func5, Ybaf.ntmps5
  go_wp2_with (go_at_call 9; refine (is_loop eb rb _ hr).mono ?_; rintro e w' ⟨rfl, hw⟩; subst hw)
  go_ret
  exact ⟨rfl, rfl⟩
end Go.Proofs.YbulkbtviFmt
