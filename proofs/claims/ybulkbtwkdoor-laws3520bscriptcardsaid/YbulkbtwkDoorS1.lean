/-
  The walks that only read: nameOf (12), zzs3520bfind (5), findNamed (13), find (9).
-/
import Derived.Test.YbulkbtwkDoorP
import Derived.WalkSpells
import Derived.WalkLawsBesides
import Derived.Deep.LoopGhost
import Derived.Deep.QuietTactic
import Derived.BigQuiet
import Derived.Maps.OwnOps
namespace Go.Proofs.YbulkbtwkDoor
open Go.RowKit

theorem hide {p : Prop} (h : p) : Hid p := h
theorem unhide {p : Prop} (h : Hid p) : p := h

/-- A row of savepoints, as the walks that read see it. -/
structure RowAt (w : World) (a : Option Addr) (g : Nat) (L : Sps) : Prop where
  addr : 0 < L.length → a = some ⟨g, 0, none⟩
  name : ∀ i, i < L.length → w.cell? ⟨g, i * 2, none⟩ = some (.string (nmA L i))
  mark : ∀ i, i < L.length → w.cell? ⟨g, i * 2 + 1, none⟩ = some (.int .i64 (mkA L i))

set_option maxHeartbeats 400000 in
theorem nameOf_any (g o : Nat) (s : ByteArray) (w : World) (h : w.cell? ⟨g, o, none⟩ = some (.string s)) : Calls Ybad.prog 12 #[.pointer (some ⟨g, o, none⟩)] w fun e w' => e = .returned (.string s) ∧ w' = w := by
  go_enter Ybad.func12, Ybad.ntmps12
  go_wp2
  go_ret
  exact ⟨rfl, rfl⟩

theorem neq24 (w : World) (r : Option Nat) : (binOp .neq 24 (.map r) (.map none)).run Ybad.prog w = .ok (.bool (!r.isNone)) w := run_neq_map_nil w 24 9 3 r Ybad.underlying24

/-- What a search answers. -/
def Found (L : Sps) (s : ByteArray) (e : Ending) : Prop := e = .returned (.tuple #[.int .i64 (((ix L s).getD 0 : Nat) : Int), .bool (ix L s).isSome])

set_option maxHeartbeats 400000 in
theorem find_model (a : Option Addr) (g n cp : Nat) (L : Sps) (s : ByteArray) (w : World) (h : RowAt w a g L) (hn : n = L.length) (hlen : n ≤ 1024) :
    Calls Ybad.prog 5 #[.slice a n cp, .string s] w fun e w' => Found L s e ∧ w' = w := by
  have HN := hide hn
  clear hn
  go_enter Ybad.func5, Ybad.ntmps5
  go_wp2
  go_loop [6] (fun i => ∃ k : Nat, k ≤ n ∧ i = .int .i64 k ∧ ∀ j, j < k → nmA L j ≠ s) (fun i => n - (intOf i).toNat)
  case atStart => exact ⟨0, Nat.zero_le _, rfl, fun j hj => absurd hj (Nat.not_lt_zero _)⟩
  case round =>
    obtain ⟨k, hk, rfl, hno⟩ := hrel
    have HNo := hide hno
    clear hno
    by_cases hlt : k < n
    · have hlt' : (k : Int) < (n : Int) := by omega
      obtain rfl := h.addr (by rw [← HN.out]; omega)
      have hc := h.name k (by rw [← HN.out]; exact hlt)
      by_cases hm : nmA L k = s
      · have hb : ((nmA L k).toList == s.toList) = true := toList_inj.2 hm
        have Hx : Hid (ix L s = some k) := (ix_some_iff L s k).2 ⟨by rw [← HN.out]; exact hlt, hm, HNo.out⟩
        clear hm
        go_wp2
        go_ret2
        exact ⟨by unfold Found; rw [Hx.out]; rfl, rfl⟩
      · have hb : ((nmA L k).toList == s.toList) = false := by rw [Bool.eq_false_iff]; intro e; exact hm (toList_inj.1 e)
        have Hm := hide hm
        clear hm
        go_wp2
        go_round
        case rel =>
          refine ⟨k + 1, by omega, by go_num, fun j hj => ?_⟩
          rcases Nat.lt_or_ge j k with h3 | h3
          · exact HNo.out j h3
          · obtain rfl : j = k := by omega
            exact Hm.out
        case measure => simp [intOf]; omega
    · obtain rfl : k = n := by omega
      have Hx : Hid (ix L s = none) := (ix_none_iff L s).2 fun i hi => HNo.out i (by rw [HN.out]; exact hi)
      go_wp2
      go_ret2
      exact ⟨by unfold Found; rw [Hx.out]; rfl, rfl⟩

set_option maxHeartbeats 800000 in
theorem named_nil (a : Option Addr) (g n cp : Nat) (L : Sps) (s : ByteArray) (w : World) (h : RowAt w a g L) (hn : n = L.length) (hlen : n ≤ 1024) :
    Calls Ybad.prog 13 #[.slice a n cp, .map none, .string s, .func (.func 12) #[] #[]] w fun e w' => Found L s e ∧ w' = w := by
  have HN := hide hn
  clear hn
  have nq := neq24
  go_enter Ybad.func13, Ybad.ntmps13
  go_wp2
  go_loop [25] (fun i => ∃ k : Nat, k ≤ n ∧ i = .int .i64 k ∧ ∀ j, j < k → nmA L j ≠ s) (fun i => n - (intOf i).toNat)
  case atStart => exact ⟨0, Nat.zero_le _, rfl, fun j hj => absurd hj (Nat.not_lt_zero _)⟩
  case round =>
    obtain ⟨k, hk, rfl, hno⟩ := hrel
    have HNo := hide hno
    clear hno
    by_cases hlt : k < n
    · have hlt' : (k : Int) < (n : Int) := by omega
      obtain rfl := h.addr (by rw [← HN.out]; omega)
      have hc := h.name k (by rw [← HN.out]; exact hlt)
      by_cases hm : nmA L k = s
      · have hb : ((nmA L k).toList == s.toList) = true := toList_inj.2 hm
        have Hx : Hid (ix L s = some k) := (ix_some_iff L s k).2 ⟨by rw [← HN.out]; exact hlt, hm, HNo.out⟩
        clear hm
        go_wp2_with (go_at_call 12; refine (nameOf_any _ _ _ _ hc).mono ?_; rintro e w' ⟨rfl, hw⟩; subst hw)
        go_ret2
        exact ⟨by unfold Found; rw [Hx.out]; rfl, rfl⟩
      · have hb : ((nmA L k).toList == s.toList) = false := by rw [Bool.eq_false_iff]; intro e; exact hm (toList_inj.1 e)
        have Hm := hide hm
        clear hm
        go_wp2_with (go_at_call 12; refine (nameOf_any _ _ _ _ hc).mono ?_; rintro e w' ⟨rfl, hw⟩; subst hw)
        go_round
        case rel =>
          refine ⟨k + 1, by omega, by go_num, fun j hj => ?_⟩
          rcases Nat.lt_or_ge j k with h3 | h3
          · exact HNo.out j h3
          · obtain rfl : j = k := by omega
            exact Hm.out
        case measure => simp [intOf]; omega
    · obtain rfl : k = n := by omega
      have Hx : Hid (ix L s = none) := (ix_none_iff L s).2 fun i hi => HNo.out i (by rw [HN.out]; exact hi)
      go_wp2
      go_ret2
      exact ⟨by unfold Found; rw [Hx.out]; rfl, rfl⟩

theorem law9 : Maps.Keyed Ybad.prog 9 := Maps.string_keyed Ybad.underlying9
theorem zero3 (w : World) : (zeroValue 3).run Ybad.prog w = .ok (.int .i64 0) w := by kernel_rfl
abbrev OwnM (w : World) (mb n : Nat) (D : DataW Unit) : Prop := w.ownsMap Ybad.prog 9 (plainElem Ybad.prog 3) mb n D

set_option maxHeartbeats 800000 in
theorem named_map (v : Value) (mb : Nat) (L : Sps) (s : ByteArray) (n : Nat) (D : DataW Unit) (w : World) (hD : Ix D L) (hown : OwnM w mb n D) (hs : s.size ≤ maxLen) :
    Calls Ybad.prog 13 #[v, .map (some mb), .string s, .func (.func 12) #[] #[]] w fun e w' => Found L s e ∧ w' = w := by
  have hkey : keyOf Ybad.prog 9 (.string s) = some (key s) := WideMaps.keyOf_string_mk Ybad.underlying9 hs
  have Hh : Hid (Maps.has D (key s) = (ix L s).isSome) := hD.has s
  have nq := neq24
  go_enter Ybad.func13, Ybad.ntmps13
  go_wp2_with (at_lookup; refine wpList_lookup_own_ok_int _ rfl _ _ 24 rfl 9 3 .i64 law9 Ybad.underlying24 Ybad.underlying3 (zero3 _) mb n D rfl hown _ _ rfl hkey ?_)
  intro c hat hwc
  have Hc : Hid (c = (((ix L s).getD 0 : Nat) : Int)) := by
    unfold Hid
    cases hx : ix L s with
    | some j =>
      have := hD.at_ s j hx (.lit (.int .i64 0))
      rw [this] at hat
      simpa using hat.symm
    | none =>
      have hno : Maps.has D (key s) = false := by rw [hD.has, hx]; rfl
      rw [Maps.atKey_of_not_has hno] at hat
      simpa using hat.symm
  clear hat hwc
  go_wp2
  go_ret2
  exact ⟨by unfold Found; rw [← Hc.out, ← Hh.out]; rfl, rfl⟩

/-- What the receiver's second field holds: nil, or a map that indexes the list. -/
def MapOk (w : World) (B : Nat) (mv : Value) (L : Sps) : Prop :=
  mv = .map none ∨ ∃ mb D, mv = .map (some mb) ∧ B ≤ mb ∧ OwnM w mb L.length D ∧ Ix D L

set_option maxHeartbeats 800000 in
theorem find_any (sb B : Nat) (a : Option Addr) (g cp : Nat) (mv : Value) (L : Sps) (s : ByteArray) (w : World) (c0 : w.cell? ⟨sb, 0, none⟩ = some (.slice a L.length cp)) (c1 : w.cell? ⟨sb, 1, none⟩ = some mv)
    (h : RowAt w a g L) (hm : MapOk w B mv L) (hlen : L.length ≤ 1024) (hs : s.size ≤ maxLen) :
    Calls Ybad.prog 9 #[.pointer (some ⟨sb, 0, none⟩), .string s] w fun e w' => Found L s e ∧ ∃ q, w' = w.drewN q := by
  obtain ⟨r, rfl, hcall⟩ : ∃ r, mv = .map r ∧ ∀ q, Calls Ybad.prog 13 #[.slice a L.length cp, .map r, .string s, .func (.func 12) #[] #[]] (w.drewN q) fun e w' => e = .returned (.tuple #[.int .i64 (((ix L s).getD 0 : Nat) : Int), .bool (ix L s).isSome]) ∧ w' = w.drewN q := by
    rcases hm with rfl | ⟨mb, D, rfl, _, hown, hD⟩
    · exact ⟨none, rfl, fun q => named_nil a g L.length cp L s (w.drewN q) ⟨h.addr, fun i hi => by simpa using h.name i hi, fun i hi => by simpa using h.mark i hi⟩ rfl hlen⟩
    · exact ⟨some mb, rfl, fun q => named_map _ mb L s L.length D (w.drewN q) hD hown hs⟩
  have HC := hide hcall
  clear hcall
  go_enter Ybad.func9, Ybad.ntmps9
  go_wp2
  go_quiet ((go_at_call 13; exact Calls.quiet_of_same (unhide HC _)))
  go_wp2
  go_ret2
  exact ⟨rfl, _, rfl⟩
end Go.Proofs.YbulkbtwkDoor
