/-
  The walk of zzs3520bsame (8).
-/
import Derived.Test.YbulkbtwkDoorS1
namespace Go.Proofs.YbulkbtwkDoor
open Go.RowKit

theorem look_at {w : World} {mb n : Nat} {D : DataW Unit} {L : Sps} (hown : OwnM w mb n D) (hD : Ix D L) (hn : Nd L) (hf : Fits L) {j : Nat} (hj : j < L.length) :
    (Instr.lookup 24 (.map (some mb)) (.string (nmA L j)) true).run Ybad.prog w = .ok (.tuple #[.int .i64 j, .bool true]) w := by
  obtain ⟨v, ps, hrun, hv⟩ := hown.look_ok law9 Ybad.underlying24 (zero3 w) (plainElem_int (H := Unit) Ybad.underlying3 (q := .i64) (a := 0) (by decide)) (WideMaps.keyOf_string_mk Ybad.underlying9 (hf j hj).1)
  obtain ⟨c, rfl, hc, _⟩ := plainElem_int_inv Ybad.underlying3 hv
  have hx : ix L (nmA L j) = some j := ix_at hn hj rfl
  have h1 : Maps.has D (key (nmA L j)) = true := by rw [hD.has, hx]; rfl
  have h2 := hD.at_ (nmA L j) j hx (.lit (.int .i64 0))
  unfold key at h1 h2
  rw [h1] at hrun
  simp only [Prod.mk.injEq] at hc
  rw [h2] at hc
  have : c = (j : Int) := by simpa using hc.1.symm
  rw [this] at hrun
  exact hrun

theorem RowAt.drewN {w : World} {a : Option Addr} {g : Nat} {L : Sps} (h : RowAt w a g L) (q : Nat) : RowAt (w.drewN q) a g L := ⟨h.addr, fun i hi => by simpa using h.name i hi, fun i hi => by simpa using h.mark i hi⟩

set_option maxHeartbeats 800000 in
set_option maxRecDepth 100000 in
theorem same_any (sb B : Nat) (a a2 : Option Addr) (g g2 n cp cp2 : Nat) (mv : Value) (L : Sps) (w : World) (c0 : w.cell? ⟨sb, 0, none⟩ = some (.slice a n cp)) (c1 : w.cell? ⟨sb, 1, none⟩ = some mv)
    (h : RowAt w a g L) (h2 : RowAt w a2 g2 L) (hm : MapOk w B mv L) (hn : n = L.length) (hlen : n ≤ 1024) (hnd : Nd L) (hf : Fits L) :
    Calls Ybad.prog 8 #[.pointer (some ⟨sb, 0, none⟩), .slice a2 n cp2] w fun e w' => e = .returned (.bool true) ∧ ∃ q, w' = w.drewN q := by
  have HN := hide hn
  clear hn
  have nq := neq24
  have nn : ((n : Int) != (n : Int)) = false := by simp
  obtain ⟨r, rfl⟩ : ∃ r, mv = .map r := by rcases hm with rfl | ⟨mb, D, rfl, _⟩ <;> exact ⟨_, rfl⟩
  have HM := hide hm
  have HND := hide hnd
  have HF := hide hf
  clear hm hnd hf
  go_enter Ybad.func8, Ybad.ntmps8
  go_wp2
  go_loopg [5] n (fun k i wr => ∃ j q, k = n - j ∧ j ≤ n ∧ i = .int .i64 (j : Nat) ∧ wr = w.drewN q)
  case atStart => exact ⟨0, 0, rfl, Nat.zero_le _, rfl, rfl⟩
  case round =>
    obtain ⟨j, q, hk, hj, rfl, rfl⟩ := hrel
    by_cases hlt : j < n
    · have hlt' : (j : Int) < (n : Int) := by omega
      obtain rfl := h.addr (by rw [← HN.out]; omega)
      obtain rfl := h2.addr (by rw [← HN.out]; omega)
      have y1 := h.name j (by rw [← HN.out]; exact hlt)
      have y2 := h.mark j (by rw [← HN.out]; exact hlt)
      have y3 := h2.name j (by rw [← HN.out]; exact hlt)
      have y4 := h2.mark j (by rw [← HN.out]; exact hlt)
      have e1 : (!((nmA L j).toList == (nmA L j).toList)) = false := by simp
      have e2 : (mkA L j != mkA L j) = false := by simp
      go_wp2
      go_quiet (fail)
      go_wp2
      go_roundg (n - (j + 1))
      case measure => omega
      case rel => exact ⟨j + 1, _, rfl, by omega, by go_num, rfl⟩
    · obtain rfl : j = n := by omega
      cases r with
      | none =>
        go_wp2
        go_ret
        exact ⟨rfl, _, rfl⟩
      | some mb =>
        obtain ⟨D, hown, hD⟩ : ∃ D, OwnM w mb L.length D ∧ Ix D L := by
          rcases HM.out with e | ⟨mb', D, e, _, hown, hD⟩
          · cases e
          · cases e; exact ⟨D, hown, hD⟩
        have hl : ∀ q ty, (Builtin.len_ #[24] ty #[.map (some mb)]).run Ybad.prog (w.drewN q) = .ok (.int .i64 (j : Int)) (w.drewN q) := fun q ty => by
          have e := World.ownsMap.len (w := w.drewN q) hown Ybad.underlying24 ty
          rw [hD.size, ← HN.out] at e
          exact e
        have Hlk : Hid (∀ q i, i < j → (Instr.lookup 24 (.map (some mb)) (.string (nmA L i)) true).run Ybad.prog (w.drewN q) = .ok (.tuple #[.int .i64 (i : Int), .bool true]) (w.drewN q)) := fun q i hi =>
          look_at (w := w.drewN q) hown hD HND.out HF.out (by rw [← HN.out]; exact hi)
        clear hown hD
        go_wp2
        go_quiet (fail)
        go_wp2
        go_loopg [6] j (fun k i wr => ∃ t q, k = j - t ∧ t ≤ j ∧ i = .int .i64 (t : Nat) ∧ wr = w.drewN q)
        case atStart => exact ⟨0, _, rfl, Nat.zero_le _, rfl, World.drewN_drewN _ _ _⟩
        case round =>
          obtain ⟨t, q2, hk2, ht, rfl, rfl⟩ := hrel
          clear hl
          by_cases hlt : t < j
          · have hlt' : (t : Int) < (j : Int) := by omega
            obtain rfl := h.addr (by rw [← HN.out]; omega)
            have y1 := h.name t (by rw [← HN.out]; exact hlt)
            have lk := fun q => Hlk.out q t hlt
            have e1 : ((t : Int) != (t : Int)) = false := by simp
            go_wp2
            go_quiet (fail)
            go_wp2
            go_roundg (j - (t + 1))
            case measure => omega
            case rel => exact ⟨t + 1, _, rfl, by omega, by go_num, rfl⟩
          · obtain rfl : t = j := by omega
            go_wp2
            go_ret
            exact ⟨rfl, _, rfl⟩
end Go.Proofs.YbulkbtwkDoor
