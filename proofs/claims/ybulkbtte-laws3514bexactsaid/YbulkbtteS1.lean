/-
  The walks of the leaves: zzs3514bsmall (5), zzs3514bcopyparams (6), zzs3514bmodel (8), bytes.Equal (9).
-/
import Derived.Test.YbulkbtteRows
import Derived.WalkKit
import Derived.WalkSpells
import Derived.WalkLawsBesides
import Derived.Deep.LoopGhost
import Derived.Deep.Upon
import Derived.Deep.QuietTactic
import Derived.BigQuiet
namespace Go.Proofs.Ybulkbtte
open Go.RowKit

/-- A slice of strings, as the walks see it: where there is an element there is an address, and the cells hold the strings. -/
structure StrsAt (w : World) (a : Option Addr) (b o n : Nat) (ss : List ByteArray) : Prop where
  len : ss.length = n
  addr : 0 < n → a = some ⟨b, o, none⟩
  cell : ∀ i, i < n → w.cell? ⟨b, o + i, none⟩ = some (.string (ss[i]?.getD ByteArray.empty))

theorem StrsAt.mono {w w' : World} {a : Option Addr} {b o n : Nat} {ss : List ByteArray} (h : StrsAt w a b o n ss) (hk : ∀ i, i < n → w'.cell? ⟨b, o + i, none⟩ = w.cell? ⟨b, o + i, none⟩) : StrsAt w' a b o n ss :=
  ⟨h.len, h.addr, fun i hi => (hk i hi).trans (h.cell i hi)⟩

/-- What 'zzs3514bsmall' answers true to. -/
def Small (lb : Nat) (p c : ByteArray) (ss : List ByteArray) : Prop :=
  lb ≤ 65536 ∧ p.size ≤ 65536 ∧ c.size ≤ 65536 ∧ ss.length ≤ 1024 ∧ ∀ i, i < ss.length → (ss[i]?.getD ByteArray.empty).size ≤ 65536

def SmallRes (lb : Nat) (p c : ByteArray) (ss : List ByteArray) (e : Ending) : Prop := ∃ r : Bool, e = .returned (.bool r) ∧ (r = true → Small lb p c ss)
theorem smallRes_no {lb : Nat} {p c : ByteArray} {ss : List ByteArray} : SmallRes lb p c ss (.returned (.bool false)) := ⟨false, rfl, fun h => by cases h⟩

set_option maxHeartbeats 400000 in
theorem small_any (a0 : Option Addr) (lb cb : Nat) (p c : ByteArray) (a : Option Addr) (b o n cp : Nat) (ss : List ByteArray) (w : World) (hs : StrsAt w a b o n ss) :
    Calls Yba.prog 5 #[.slice a0 lb cb, .string p, .string c, .slice a n cp] w fun e w' => SmallRes lb p c ss e ∧ w' = w := by
  by_cases h1 : (65536 : Int) < (lb : Int)
  · go_enter Yba.func5, Yba.ntmps5
    go_wp2
    go_ret
    exact ⟨smallRes_no, rfl⟩
  by_cases h2 : (65536 : Int) < (p.size : Int)
  · go_enter Yba.func5, Yba.ntmps5
    go_wp2
    go_ret
    exact ⟨smallRes_no, rfl⟩
  by_cases h3 : (65536 : Int) < (c.size : Int)
  · go_enter Yba.func5, Yba.ntmps5
    go_wp2
    go_ret
    exact ⟨smallRes_no, rfl⟩
  by_cases h4 : (1024 : Int) < (n : Int)
  · go_enter Yba.func5, Yba.ntmps5
    go_wp2
    go_ret
    exact ⟨smallRes_no, rfl⟩
  go_enter Yba.func5, Yba.ntmps5
  go_wp2
  go_loop [9] (fun i => ∃ k : Nat, k ≤ n ∧ i = .int .i64 k ∧ ∀ j, j < k → (ss[j]?.getD ByteArray.empty).size ≤ 65536) (fun i => n - (intOf i).toNat)
  case atStart => exact ⟨0, Nat.zero_le _, rfl, fun j h => absurd h (Nat.not_lt_zero _)⟩
  case round =>
    obtain ⟨k, hk, rfl, hsm⟩ := hrel
    have HS : Hid (∀ j, j < k → (ss[j]?.getD ByteArray.empty).size ≤ 65536) := hsm
    clear hsm
    by_cases hlt : k < n
    · have hlt' : (k : Int) < (n : Int) := by omega
      obtain rfl := hs.addr (by omega)
      have hc := hs.cell k hlt
      by_cases hb : (65536 : Int) < ((ss[k]?.getD ByteArray.empty).size : Int)
      · go_wp2
        go_ret
        exact ⟨smallRes_no, rfl⟩
      · go_wp2
        go_round
        case rel =>
          refine ⟨k + 1, by omega, by go_num, fun j hj => ?_⟩
          rcases Nat.lt_or_ge j k with h | h
          · exact HS.out j h
          · obtain rfl : j = k := by omega
            omega
        case measure => simp [intOf]; omega
    · obtain rfl : k = n := by omega
      go_wp2
      go_ret
      exact ⟨⟨true, rfl, fun _ => ⟨by omega, by omega, by omega, by rw [hs.len]; omega, fun i hi => HS.out i (by rw [hs.len] at hi; exact hi)⟩⟩, rfl⟩

end Go.Proofs.Ybulkbtte
