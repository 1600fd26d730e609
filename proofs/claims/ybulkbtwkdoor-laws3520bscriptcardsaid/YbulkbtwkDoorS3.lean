/-
  The walk of indexNamed (11).
-/
import Derived.Test.YbulkbtwkDoorS2
namespace Go.Proofs.YbulkbtwkDoor
open Go.RowKit

def IxnMap (w : World) (mb k : Nat) (D : DataW Unit) (e : Ending) (w' : World) : Prop := e = .returned (.map (some mb)) ∧ OwnM w' mb k D ∧ w.grownBy w' (some mb)

theorem at64_elem (j : Nat) (h : j ≤ 4096) : plainElem (H := Unit) Ybad.prog 3 (.int .i64 (j : Int)) = some (at64 j, []) :=
  plainElem_int Ybad.underlying3 (WalkArith.wf_i64 (by omega))

set_option maxHeartbeats 800000 in
theorem ixn_map (a : Option Addr) (g m cp mb k : Nat) (L : Sps) (D : DataW Unit) (w : World) (h : RowAt w a g L) (hm : L.length = m + 1) (hlen : m ≤ 1024) (hown : OwnM w mb k D) (hk : k ≤ 4096) (hf : Fits L) :
    Calls Ybad.prog 11 #[.slice a (m + 1) cp, .map (some mb), .func (.func 12) #[] #[]] w fun e w' => IxnMap w mb (k + 1) (D.put (key (nmA L m)) (at64 m)) e w' := by
  have nq := neq24
  obtain rfl := h.addr (by omega)
  have hc := h.name m (by omega)
  have hkey : keyOf Ybad.prog 9 (.string (nmA L m)) = some (key (nmA L m)) := WideMaps.keyOf_string_mk Ybad.underlying9 (hf m (by omega)).1
  have HF := hide hf
  have HL := hide hm
  clear hf hm
  go_enter Ybad.func11, Ybad.ntmps11
  go_wp2_with (first | (go_at_call 12; refine (nameOf_any _ _ _ _ hc).mono ?_; rintro e w' ⟨rfl, hw⟩; subst hw) | (at_mapUpdate; refine wpList_mapUpdate_own _ rfl _ _ _ 24 rfl 9 3 law9 Ybad.underlying24 _ mb k D rfl hown (by unfold maxLen; omega) _ _ _ rfl rfl hkey _ [] (at64_elem m (by omega)) ?_))
  intro w1 hown1 hgrow1
  go_wp2
  go_ret
  exact ⟨rfl, hown1, hgrow1⟩

set_option maxHeartbeats 800000 in
theorem ixn_small (a : Option Addr) (n cp : Nat) (w : World) (hn : n ≤ 8) (hg : w.cell? ⟨0, 0, none⟩ = some (.int .i64 8)) :
    Calls Ybad.prog 11 #[.slice a n cp, .map none, .func (.func 12) #[] #[]] w fun e w' => e = .returned (.map none) ∧ w' = w := by
  have nq := neq24
  have hn' : ¬ (8 : Int) < (n : Int) := by omega
  go_enter Ybad.func11, Ybad.ntmps11
  go_wp2
  go_ret
  exact ⟨rfl, rfl⟩

theorem makeMap_hint (n : Int) (w : World) : (Instr.makeMap 24 (some (.int .i64 n))).run Ybad.prog w = .ok (.map (some w.heap.size)) (w.alloc (.map #[] 0)) := by
  simp [Instr.makeMap, run_underlying Ybad.underlying24, asInt, asIntOf]

def IxnNew (w : World) (L : Sps) (e : Ending) (w' : World) : Prop := ∃ D, e = .returned (.map (some w.heap.size)) ∧ OwnM w' w.heap.size L.length D ∧ Ix D L ∧ Below w.heap.size w w'

set_option maxHeartbeats 800000 in
theorem ixn_big (a : Option Addr) (g n cp : Nat) (L : Sps) (w : World) (h : RowAt w a g L) (hn : n = L.length) (h8 : 8 < n) (hlen : n ≤ 1025) (hf : Fits L) (hnd : Nd L) (hg : w.cell? ⟨0, 0, none⟩ = some (.int .i64 8)) :
    Calls Ybad.prog 11 #[.slice a n cp, .map none, .func (.func 12) #[] #[]] w fun e w' => IxnNew w L e w' := by
  have nq := neq24
  have hmm := makeMap_hint
  obtain rfl := h.addr (by omega)
  have hgl : g < w.heap.size := World.block_lt_of_cell? _ _ (h.name 0 (by omega))
  have h8' : (8 : Int) < (n : Int) := by omega
  have HN := hide hn
  have HF := hide hf
  have HND := hide hnd
  have HR := hide h
  clear hn hf hnd h
  go_enter Ybad.func11, Ybad.ntmps11
  go_wp2
  go_loopg [31] n (fun k i wr => ∃ t D, k = n - t ∧ t ≤ n ∧ i = .int .i64 (t : Nat) ∧ OwnM wr w.heap.size t D ∧ Ix D (L.take t) ∧ Below w.heap.size w wr)
  case atStart => exact ⟨0, .map [], rfl, Nat.zero_le _, rfl, World.ownsMap_made _ _ _ _, ix_empty, (Below.refl _ _).alloc (Nat.le_refl _) _⟩
  case round =>
    obtain ⟨t, D, hk, ht, rfl, hown, hD, hnx⟩ := hrel
    have HD := hide hD
    clear hD
    by_cases hlt : t < n
    · have hlt' : (t : Int) < (n : Int) := by omega
      have htl : t < L.length := by rw [← HN.out]; exact hlt
      have hc : wr.cell? ⟨g, t * 2, none⟩ = some (.string (nmA L t)) := (hnx.cell (p := ⟨g, t * 2, none⟩) hgl).trans (HR.out.name t htl)
      have hkey : keyOf Ybad.prog 9 (.string (nmA L t)) = some (key (nmA L t)) := WideMaps.keyOf_string_mk Ybad.underlying9 (HF.out t htl).1
      go_wp2_with (first | (go_at_call 12; refine (nameOf_any _ _ _ _ hc).mono ?_; rintro e w' ⟨rfl, hw⟩; subst hw) | (at_mapUpdate; refine wpList_mapUpdate_own _ rfl _ _ _ 24 rfl 9 3 law9 Ybad.underlying24 _ w.heap.size t D rfl hown (by unfold maxLen; omega) _ _ _ rfl rfl hkey _ [] (at64_elem t (by omega)) ?_))
      intro w1 hown1 hgrow1
      go_wp2
      go_roundg (n - (t + 1))
      case measure => omega
      case rel =>
        refine ⟨t + 1, _, rfl, by omega, by go_num, hown1, ?_, hnx.grown hgrow1 hnx.size (fun j hj => by cases hj; exact Nat.le_refl _)⟩
        have hlt3 : (L.take t).length = t := by simp; omega
        have := HD.out.put_new (hown.tidy law9) (HND.out.take t) (x := (nmA L t, mkA L t)) (take_free HND.out t htl)
        rw [hlt3, ← take_snoc L t htl] at this
        exact this
    · obtain rfl : t = n := by omega
      go_wp2
      go_ret
      refine ⟨D, rfl, ?_, ?_, hnx⟩
      · rw [← HN.out]; exact hown
      · have := HD.out; rw [List.take_of_length_le (by rw [← HN.out]; exact Nat.le_refl _)] at this; exact this
end Go.Proofs.YbulkbtwkDoor
