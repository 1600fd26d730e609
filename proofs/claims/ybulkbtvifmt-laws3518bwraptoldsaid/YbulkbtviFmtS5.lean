/-
  The walk of LawS3518BWrap (3), for every text of fmt's.
-/
import Derived.Test.YbulkbtviFmtS4
namespace Go.Proofs.YbulkbtviFmt
open Go.RowKit Go.Extern.Stop Go.Stop Go.Extern

theorem Ybaf.neqSame (p : Option Addr) (w : World) : (binOp .neq 23 (.iface 25 (.pointer p)) (.iface 25 (.pointer p))).run Ybaf.prog w = .ok (.bool false) w := by
  obtain ⟨i, hi, hc⟩ := Ybaf.info25
  obtain ⟨j, hj⟩ := Ybaf.info27
  cases p with
  | none =>
    have h : ∀ d : Nat, (Op.equalIn (d + 2) 23 (.iface 25 (.pointer none)) (.iface 25 (.pointer none))).run Ybaf.prog w = .ok true w := fun d => by
      simp [Op.equalIn, run_underlying Ybaf.underlying23, run_underlying Ybaf.underlying25, typeInfo, hi, hc]
    simp only [binOp]
    simp [Op.equal, Op.maxDepth, h 9998]
  | some a =>
    simp only [binOp]
    simp [Op.equal, Op.maxDepth, run_equalIn_iface_ptr_same w 9998 a Ybaf.underlying23 Ybaf.underlying25 hi hc hj]
theorem Ybaf.neqPtr (a : Addr) (w : World) : (binOp .neq 25 (.pointer (some a)) (.pointer (some a))).run Ybaf.prog w = .ok (.bool false) w := by
  obtain ⟨j, hj⟩ := Ybaf.info27
  have h : ∀ d : Nat, (Op.equalIn (d + 1) 25 (.pointer (some a)) (.pointer (some a))).run Ybaf.prog w = .ok true w := fun d => by
    simp [Op.equalIn, run_underlying Ybaf.underlying25, sizeOf, typeInfo, hj, run_sameAddr_same]
  simp only [binOp]
  simp [Op.equal, Op.maxDepth, h 9999]
theorem Ybaf.asUn29 (v : Value) (xT : TypeId) (w : World) : (Instr.typeAssert (.iface 54 v) xT 29 true).run Ybaf.prog w = .ok (.tuple #[.iface 54 v, .bool true]) w := run_typeAssert_hasB Ybaf.underlying29 (by kernel_rfl) v xT w

set_option maxHeartbeats 400000 in
theorem shut_nil (w : World) : Calls Ybaf.prog 4 #[.nilIface] w fun e w' => e = .returned .nilIface ∧ w' = w := by
  go_enter Ybaf.func4, Ybaf.ntmps4
  go_wp2
  go_ret
  exact ⟨rfl, rfl⟩

set_option maxHeartbeats 400000 in
theorem law0 (n : Nat) (code : Int) (msg : ByteArray) (w : World) (hn : n ≤ 255) (h3 : ((n : Int) % 3 == 0) = true) :
    Calls Ybaf.prog 3 #[.int .u8 n, .int .i64 code, .string msg] w fun e w' => e = .returned (.bool true) ∧ Below w.heap.size w w' := by
  go_enter Ybaf.func3, Ybaf.ntmps3
  go_wp2_with (go_at_call 4; refine (shut_nil _).mono ?_; rintro e w' ⟨rfl, hw⟩; subst hw)
  go_ret
  exact ⟨rfl, Below.refl _ _⟩

set_option maxHeartbeats 800000 in
set_option maxRecDepth 100000 in
theorem law2 (F : Interp) (n : Nat) (code : Int) (msg : ByteArray) (w : World) (hn : n ≤ 255) (h3 : ((n : Int) % 3 == 0) = false) (h31 : ((n : Int) % 3 == 1) = false) (hF : F.answers w.tape) :
    Calls Ybaf.prog 3 #[.int .u8 n, .int .i64 code, .string msg] w fun e w' => e = .returned (.bool true) ∧ Below w.heap.size w w' := by
  have f1 := Ybaf.mUnwrap
  have f2 := Ybaf.neq5425
  have f3 := Ybaf.neqSame
  have f4 := Ybaf.asUn29
  go_enter Ybaf.func3, Ybaf.ntmps3
  go_wp2_with fail
  refine (shut_any F none ⟨#[110, 105, 108]⟩ _ hF (fun o => error_nil _)).mono ?_
  rintro e w' ⟨txt, rfl, hw⟩
  subst hw
  go_wp2
  go_ret
  exact ⟨rfl, (((Below.refl _ _).alloc (Nat.le_refl _) _).alloc (by simp) _).drew⟩
end Go.Proofs.YbulkbtviFmt
