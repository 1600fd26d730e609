/-
  The walk of slices.Delete (10) at one entry.
-/
import Derived.Test.YbulkbtwkDoorS3
import Derived.Deep.RegionLaw
namespace Go.Proofs.YbulkbtwkDoor
open Go.RowKit

/-- A block that is a row of savepoints of cap entries, of which the first are L. -/
structure Blk (w : World) (E : TypeId) (g cap : Nat) (L : Sps) : Prop where
  mk ::
  blk : ∃ cur : Array Value, w.heap[g]? = some (.cells cur E (0, 0)) ∧ cur.size = cap * 2 ∧ cur.toList.take (L.length * 2) = cellsL L
  le : L.length ≤ cap

theorem Blk.rowAt {w : World} {E : TypeId} {g cap : Nat} {L : Sps} (h : Blk w E g cap L) : RowAt w (some ⟨g, 0, none⟩) g L := by
  obtain ⟨⟨cur, hg, hs, ht⟩, hle⟩ := h
  refine ⟨fun _ => rfl, fun i hi => ?_, fun i hi => ?_⟩
  · rw [cell_of_row w g _ cur E (0, 0) hg]
    have := cellsL_name L i hi
    rw [← ht, List.getElem?_take, if_pos (by omega)] at this
    simpa using this
  · rw [cell_of_row w g _ cur E (0, 0) hg]
    have := cellsL_mark L i hi
    rw [← ht, List.getElem?_take, if_pos (by omega)] at this
    simpa using this

theorem step_append_run {P : Program} {ops : Array Oper} {o : Oper} {a : Act} {w w' : World} {K : Act → World → Prop} {Q : Exit → Act → World → Prop} {E : Prop}
    (hg : o.guard = none) (s x : Operand) (t : TypeId) (hop : o.op = Op.call { callee := Callee.builtin Builtin.append, args := #[s, x], argTypes := #[t, t] })
    (sv xv v' : Value) (hs : a.eval s = sv) (hx : a.eval x = xv) (hrun : ∀ ty, (Builtin.append_ #[t, t] ty #[sv, xv]).run P w = .ok v' w') (hK : K (a.put o.dst v') w') :
    if Region.wanted o (yielded ops a.tmps) = true then Oper.wp P o a w K Q else E := by
  have hw : Region.wanted o (yielded ops a.tmps) = true := by simp [Region.wanted, hg]
  rw [if_pos hw]
  unfold Oper.wp
  simp [execOp, hop, resolve, invoke, builtin, hs, hx, hrun, Result.andThen]
  exact hK

theorem Ybad.info41 : (Ybad.prog.info? 41).map (fun i => (i.zero, i.size, i.bytes)) = some (some (.agg #[.string ByteArray.empty, .int .i64 0]), 2, 24) := by kernel_rfl
theorem Ybad.info35 : (Ybad.prog.info? 35).map (fun i => (i.zero, i.size, i.bytes)) = some (some (.agg #[.string ByteArray.empty, .int .i64 0]), 2, 24) := by kernel_rfl

def zs (m : Nat) : List Value := (Builtin.zeroCells #[.string ByteArray.empty, .int .i64 0] m).toList
theorem zs_length (m : Nat) : (zs m).length = m * 2 := by simp [zs, size_zeroCells]
theorem zs_one (m : Nat) : ∀ v ∈ zs m, v.oneCell' = true := by
  intro v hv
  simp only [zs, Builtin.zeroCells] at hv
  simp at hv
  obtain ⟨i, _, rfl⟩ := hv
  rcases Nat.mod_two_eq_zero_or_one i with h | h <;> rw [h] <;> rfl

theorem zero41 (w : World) : (zeroValue 41).run Ybad.prog w = .ok (.agg #[.string ByteArray.empty, .int .i64 0]) w := by kernel_rfl
theorem run_clear_row (W : World) (ty : TypeId) (g o m c : Nat) (cur : Array Value) (hg : W.heap[g]? = some (.cells cur 41 (0, 0))) (hfit : o + m * 2 ≤ cur.size) (hm : 0 < m) :
    (Builtin.clear_ #[23] ty #[.slice (some ⟨g, o, none⟩) m c]).run Ybad.prog W = .ok (.tuple #[]) (W.setRow g (cur.toList.take o ++ (zs m ++ cur.toList.drop (o + m * 2))).toArray) := by
  have hst := run_storeCells_at Ybad.prog g o 41 (zs m) 0 cur W hg (by rw [zs_length]; simpa using hfit) (zs_one m)
  obtain ⟨k, rfl⟩ : ∃ k, m = k + 1 := ⟨m - 1, by omega⟩
  simp only [Nat.add_zero, zs_length] at hst
  have hzc : (Builtin.zeroCells (Value.agg #[.string { data := #[] }, .int .i64 0]).cells (k + 1)).toList = zs (k + 1) := by
    unfold zs; rfl
  simp [Builtin.clear_, run_underlying Ybad.underlying23, hzc, hst]
theorem run_clear_none (W : World) (ty : TypeId) (a : Option Addr) (c : Nat) :
    (Builtin.clear_ #[23] ty #[.slice a 0 c]).run Ybad.prog W = .ok (.tuple #[]) W := by
  cases a <;> simp [Builtin.clear_, run_underlying Ybad.underlying23]

theorem row_at {w : World} {B : Nat} {E : TypeId} {v : Value} {n : Nat} {L : Sps} (h : w.ownsRow B E 2 v n (cellsL L)) (hn : n = L.length) : ∃ a g cp, v = .slice a L.length cp ∧ RowAt w a g L := by
  subst hn
  rcases h.2 with ⟨rfl, h0⟩ | ⟨g, cap, cur, rfl, _, hg, hle, _, hs, ht⟩
  · exact ⟨none, 0, 0, by rw [h0], ⟨fun h => absurd h (by omega), fun i hi => absurd hi (by omega), fun i hi => absurd hi (by omega)⟩⟩
  · exact ⟨_, g, cap, rfl, Blk.rowAt (E := E) (cap := cap) ⟨⟨cur, hg, hs, ht⟩, hle⟩⟩

theorem cellsL_erase (L : Sps) (i : Nat) : cellsL (L.eraseIdx i) = (cellsL L).take (i * 2) ++ (cellsL L).drop ((i + 1) * 2) := by
  rw [List.eraseIdx_eq_take_drop_succ, cellsL_append, cellsL_take, cellsL_drop]

def DelOk (w : World) (B g n cap : Nat) (L : Sps) (e : Ending) (w' : World) : Prop := e = .returned (.slice (some ⟨g, 0, none⟩) n cap) ∧ w'.ownsRow B 41 2 (.slice (some ⟨g, 0, none⟩) n cap) n (cellsL L) ∧ w.grownBy w' (some g)

set_option maxHeartbeats 800000 in
theorem delete_any (B g m cap i : Nat) (L : Sps) (w : World) (hown : w.ownsRow B 41 2 (.slice (some ⟨g, 0, none⟩) (m + 1) cap) (m + 1) (cellsL L)) (hn : L.length = m + 1) (hi : i ≤ m) (hlen : m ≤ 1024) :
    Calls Ybad.prog 10 #[.slice (some ⟨g, 0, none⟩) (m + 1 : Nat) cap, .int .i64 (i : Nat), .int .i64 ((i + 1 : Nat) : Int)] w fun e w' => DelOk w B g m cap (L.eraseIdx i) e w' := by
  obtain ⟨hl, h0⟩ := hown
  rcases h0 with ⟨h, _⟩ | ⟨g', cap', cur, h, hB, hg, hle, hmax, hcs, htk⟩
  · cases h
  cases h
  have b1 : i ≤ cap := by omega
  have b2 : i + 1 ≤ cap := by omega
  have b3 : (0 : Int) ≤ (i : Int) + 1 := by omega
  obtain ⟨i0, hi0, _, hz1, _⟩ := info_parts Ybad.info41
  have hdl : ((cellsL L).drop ((i + 1) * 2)).length = (m - i) * 2 := by rw [List.length_drop, hl]; omega
  obtain ⟨ad, had, hads⟩ : ∃ ad : Addr, (if cap = i + 1 then some (⟨g, 0, none⟩ : Addr) else some ⟨g, (i + 1) * 2, none⟩) = some ad ∧ (0 < m - i → ad = ⟨g, (i + 1) * 2, none⟩) := by
    by_cases hc : cap = i + 1
    · exact ⟨_, if_pos hc, fun h => absurd h (by omega)⟩
    · exact ⟨_, if_neg hc, fun _ => rfl⟩
  obtain ⟨cur1, hcur1⟩ : ∃ c1 : Array Value, c1 = (cur.toList.take (i * 2) ++ (cellsL L).drop ((i + 1) * 2) ++ cur.toList.drop (i * 2 + ((cellsL L).drop ((i + 1) * 2)).length)).toArray := ⟨_, rfl⟩
  have hcl : cur.toList.length = cap * 2 := by simpa using hcs
  have hs1 : cur1.size = cap * 2 := by
    rw [hcur1, hdl, List.size_toArray, List.length_append, List.length_append, hdl, List.length_take, List.length_drop, hcl]; omega
  have ht1 : cur1.toList.take (m * 2) = cellsL (L.eraseIdx i) := by
    have e1 : (cellsL L).take (i * 2) = cur.toList.take (i * 2) := by rw [← htk, List.take_take, Nat.min_eq_left (by omega)]
    have e2 : (cellsL (L.eraseIdx i)).length = m * 2 := by rw [cellsL_length, List.length_eraseIdx_of_lt (by omega), hn]; omega
    rw [cellsL_erase, e1] at e2 ⊢
    rw [hcur1, ← e2]
    exact List.take_left
  have Hap : Hid (∀ ty, (Builtin.append_ #[23, 23] ty #[.slice (some ⟨g, 0, none⟩) i cap, .slice (some ad) (m - i) (cap - (i + 1))]).run Ybad.prog w.drew = .ok (.slice (some ⟨g, 0, none⟩) m cap) (w.drew.setRow g cur1)) := fun ty => by
    have h := run_append_room (P := Ybad.prog) w.drew 23 ty 41 i0 Ybad.underlying23 hi0 g i cap cur hg ad (m - i) (cap - (i + 1)) ((cellsL L).drop ((i + 1) * 2)) (by rw [hz1, hdl]) (fun j u hu => by
      have hj : j < (m - i) * 2 := by rw [← hdl]; exact (List.getElem?_eq_some_iff.1 hu).1
      rw [hads (by omega)]
      rw [List.getElem?_drop] at hu
      have e : w.drew.cell? ((⟨g, (i + 1) * 2, none⟩ : Addr).add j) = cur[(i + 1) * 2 + j]? := by rw [Addr.add_lit]; exact cell_of_row w.drew g _ cur 41 (0, 0) hg
      rw [e, ← Array.getElem?_toList]
      rw [← htk, List.getElem?_take, if_pos (by omega)] at hu
      exact hu) (fun u hu => cellsL_one L u (List.mem_of_mem_drop hu)) (by omega) (by rw [hz1, hdl, hcs]; omega)
    rw [hz1, ← hcur1, show i + (m - i) = m by omega] at h
    exact h
  have hg1 : (w.drew.setRow g cur1).heap[g]? = some (.cells cur1 41 (0, 0)) := setRow_heap w.drew g cur cur1 41 (0, 0) hg
  have hclr : ∀ ty, (Builtin.clear_ #[23] ty #[.slice (some ⟨g, m * 2, none⟩) 1 (cap - m)]).run Ybad.prog (w.drew.setRow g cur1) = _ := fun ty => run_clear_row (w.drew.setRow g cur1) ty g (m * 2) 1 (cap - m) cur1 hg1 (by rw [hs1]; omega) (by omega)
  rw [setRow_setRow] at hclr
  obtain ⟨cur2, hcur2⟩ : ∃ c2 : Array Value, c2 = (cur1.toList.take (m * 2) ++ (zs 1 ++ cur1.toList.drop (m * 2 + 1 * 2))).toArray := ⟨_, rfl⟩
  rw [← hcur2] at hclr
  have Hpost : Hid (DelOk w B g m cap (L.eraseIdx i) (.returned (.slice (some ⟨g, 0, none⟩) m cap)) (w.drew.setRow g cur2)) := by
    refine ⟨rfl, ⟨?_, .inr ⟨g, cap, cur2, rfl, hB, setRow_heap w.drew g cur cur2 41 (0, 0) hg, by omega, hmax, ?_, ?_⟩⟩, ⟨rfl, rfl, rfl, by simp, fun k _ hk => setRow_other w.drew g k _ (fun e => hk (by rw [e]))⟩⟩
    · rw [cellsL_length, List.length_eraseIdx_of_lt (by omega), hn]; omega
    · have e3 : cur1.toList.length = cap * 2 := by simpa using hs1
      rw [hcur2, List.size_toArray, List.length_append, List.length_append, List.length_take, List.length_drop, zs_length, e3]; omega
    · have e4 : (cellsL (L.eraseIdx i)).length = m * 2 := by rw [cellsL_length, List.length_eraseIdx_of_lt (by omega), hn]; omega
      rw [hcur2, ht1, ← e4]
      exact List.take_left
  clear hdl hads hcur1 hcl hs1 ht1 hcur2 htk hl hg1
  go_enter Ybad.func10, Ybad.ntmps10
  go_wp2
  go_region_law (refine step_append_run rfl (.tmp 22) (.tmp 25) 23 rfl _ _ (.slice (some ⟨g, 0, none⟩) m cap) (w' := w.drew.setRow g cur1) rfl rfl Hap.out ?_)
  go_wp2
  go_ret
  exact Hpost.out
end Go.Proofs.YbulkbtwkDoor
