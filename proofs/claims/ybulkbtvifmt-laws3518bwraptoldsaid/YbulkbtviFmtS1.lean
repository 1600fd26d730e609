/-
  fmt.Errorf at an operand of type *zzs3518berr (25): closed facts on the stop; the method Error (35); exporterShutdownError (4).
-/
import Derived.Test.YbulkbtviFmtRows
import Derived.WalkKit
import Derived.WalkSpells
import Derived.WalkLawsBesides
import Derived.Stop.CallBack
import Derived.Stop.IfaceNil
import Derived.Stop.Texts
import Derived.Stop.Asserts
import Derived.LaidEql
namespace Go.Proofs.YbulkbtviFmt
open Go.RowKit Go.Extern.Stop Go.Stop Go.Extern

theorem Ybaf.call14 (args : Array Value) (w : World) : (callFunc 14 args).run Ybaf.prog w = (FmtCalls.errorf #[9, 52] #[23] args).run Ybaf.prog w :=
  run_callFunc_next Ybaf.func14 (by kernel_rfl) (by kernel_rfl) (by kernel_rfl) args w
theorem Ybaf.guard (name : String) (w : World) : (FmtStop.guard name).run Ybaf.prog w = .ok () w := by kernel_rfl
theorem Ybaf.nextTurns : Extern.next FmtCalls.turnsRow = some (FmtCalls.begun #[] #[]) := by kernel_rfl
theorem Ybaf.nextReturned : Extern.next FmtCalls.returnedRow = some (FmtCalls.returned #[] #[]) := by kernel_rfl
theorem Ybaf.fmt0 : FmtStop.printed? ⟨#[115, 112, 111, 111, 114, 58, 32, 115, 104, 117, 116, 116, 105, 110, 103, 32, 100, 111, 119, 110, 32, 101, 120, 112, 111, 114, 116, 101, 114, 58, 32, 37, 119]⟩ 1 = some [(0, 119, false)] := by kernel_rfl
theorem Ybaf.fmt0r (w : World) : (FmtDoors.printed ⟨#[115, 112, 111, 111, 114, 58, 32, 115, 104, 117, 116, 116, 105, 110, 103, 32, 100, 111, 119, 110, 32, 101, 120, 112, 111, 114, 116, 101, 114, 58, 32, 37, 119]⟩ 1).run Ybaf.prog w = .ok [(0, 119, false)] w := by kernel_rfl
theorem Ybaf.act25 (name : String) (x : Value) (w : World) : (FmtCalls.act name true 119 false (.iface 25 x)).run Ybaf.prog w = .ok (.call true) w := by kernel_rfl
theorem Ybaf.isError25 (w : World) : (FmtDoors.textMethod 25 "Error").run Ybaf.prog w = .ok true w := by kernel_rfl
theorem Ybaf.invokeError25 (x : Value) (w : World) : (invoke (.fn (.method "Error") #[]) #[.iface 25 x]).run Ybaf.prog w = .ok (.enter 35 #[x]) w := by kernel_rfl
def nm25 : String := String.ofList (Char.ofNat 42 :: "spoor.zzs3518berr".toList)
theorem Ybaf.str25 (w : World) : (typeStr 25).run Ybaf.prog w = .ok nm25 w := by kernel_rfl
theorem Ybaf.ptr54 (w : World) : (FmtStop.ptrTo "fmt.wrapError").run Ybaf.prog w = .ok 54 w := by kernel_rfl
theorem Ybaf.elem54 (w : World) : (elemOf 54).run Ybaf.prog w = .ok 91 w := by kernel_rfl
theorem Ybaf.isError54 (w : World) : (FmtDoors.textMethod 54 "Error").run Ybaf.prog w = .ok true w := by kernel_rfl

set_option maxHeartbeats 400000 in
theorem error_nil (w : World) : Calls Ybaf.prog 35 #[.pointer none] w fun e w' => e = .returned (.string ⟨#[110, 105, 108]⟩) ∧ w' = w := by
  go_enter Ybaf.func35, Ybaf.ntmps35
  go_wp2
  go_ret
  exact ⟨rfl, rfl⟩

set_option maxHeartbeats 400000 in
theorem error_some (b : Nat) (msg : ByteArray) (w : World) (hc : w.cell? ⟨b, 1, none⟩ = some (.string msg)) : Calls Ybaf.prog 35 #[.pointer (some ⟨b, 0, none⟩)] w fun e w' => e = .returned (.string msg) ∧ w' = w := by
  go_enter Ybaf.func35, Ybaf.ntmps35
  go_wp2
  go_ret
  exact ⟨rfl, rfl⟩

attribute [local go_sem] Ybaf.call14 Ybaf.guard Ybaf.fmt0 Ybaf.fmt0r Ybaf.act25 Ybaf.isError25 Ybaf.str25 Ybaf.ptr54 Ybaf.elem54 Ybaf.isError54

def ShutRes (w : World) (pe : Option Addr) (e : Ending) (w' : World) : Prop :=
  ∃ txt, e = .returned (.iface 54 (.pointer (some ⟨w.heap.size + 1, 0, none⟩))) ∧ w' = ((w.alloc (.cells #[.iface 25 (.pointer pe)] 20)).alloc (.cells #[.string txt, .iface 25 (.pointer pe)] 91)).drew

set_option maxHeartbeats 800000 in
set_option maxRecDepth 100000 in
theorem shut_any (F : Interp) (pe : Option Addr) (msg : ByteArray) (w : World) (hF : F.answers w.tape)
    (hm : ∀ o, Calls Ybaf.prog 35 #[.pointer pe] (w.alloc o) fun e w' => e = .returned (.string msg) ∧ w' = w.alloc o) :
    Calls Ybaf.prog 4 #[.iface 25 (.pointer pe)] w fun e w' => ShutRes w pe e w' := by
  have hF' := answers_open hF
  have HM : Hid (∀ o, Calls Ybaf.prog 35 #[.pointer pe] (w.alloc o) fun e w' => e = .returned (.string msg) ∧ w' = w.alloc o) := hm
  clear hm
  go_enter Ybaf.func4, Ybaf.ntmps4
  go_wp2
  apply rows_call Ybaf.nextTurns
  case hr =>
    go_simp
    exact ⟨⟨rfl, rfl, rfl⟩, rfl⟩
  case hi => exact Ybaf.invokeError25 _ _
  case hc =>
    refine (HM.out _).mono ?_
    rintro e w3 ⟨rfl, hw⟩
    subst hw
    apply rows_value Ybaf.nextReturned
    case hr =>
      go_simp
      exact ⟨rfl, rfl⟩
    case h =>
      go_wp2
      go_ret
      exact ⟨_, rfl, rfl⟩
end Go.Proofs.YbulkbtviFmt
