/-
  Set (7) as a whole; the walk of RollBack (6).
-/
import Derived.Test.YbulkbtwkDoorS7
namespace Go.Proofs.YbulkbtwkDoor
open Go.RowKit

theorem Sv.isMap {w : World} {B sb : Nat} {lv mv : Value} {L : Sps} (h : Sv w B sb lv mv L) : ∃ r, mv = .map r := by
  rcases h.map with rfl | ⟨mb, D, rfl, _⟩ <;> exact ⟨_, rfl⟩

theorem set_any (B sb : Nat) (lv mv : Value) (L : Sps) (s : ByteArray) (m : Int) (w : World) (h : Sv w B sb lv mv L) (hp : 0 < B) (g0 : w.cell? ⟨0, 0, none⟩ = some (.int .i64 8)) (hlen : L.length ≤ 1023) (hnd : Nd L) (hf : Fits L)
    (hs : s.size ≤ maxLen) (hm : (Lit.int .i64 m).wf = true) :
    Calls Ybad.prog 7 #[.pointer (some ⟨sb, 0, none⟩), .string s, .int .i64 m] w fun e w' => e = .returned (.tuple #[]) ∧ SetPost w B sb (setL L s m) w' := by
  have hnd2 := setL_nd hnd s m
  have hf2 := hf.set hs hm
  obtain ⟨r, rfl⟩ := h.isMap
  cases hx : ix L s with
  | none =>
    have hset : setL L s m = L ++ [(s, m)] := by unfold setL strike; rw [hx]
    rw [hset] at hnd2 hf2
    exact set_new B sb lv _ L s m w h hp g0 hlen hnd hf hs hx hset hnd2 hf2
  | some i =>
    have hset : setL L s m = L.eraseIdx i ++ [(s, m)] := by unfold setL strike; rw [hx]
    rw [hset] at hnd2 hf2
    exact set_old B sb i lv r L s m w h hp g0 hlen hnd hf hs hx hset hnd2 hf2

def RbNone (w : World) (e : Ending) (w' : World) : Prop := e = .returned (.tuple #[.int .i64 0, .bool false]) ∧ ∃ q, w' = w.drewN q
def RbSome (w : World) (B sb : Nat) (L : Sps) (m : Int) (e : Ending) (w' : World) : Prop := e = .returned (.tuple #[.int .i64 m, .bool true]) ∧ SetPost w B sb L w'

set_option maxHeartbeats 800000 in
theorem rb_none (B sb : Nat) (lv mv : Value) (L : Sps) (s : ByteArray) (w : World) (h : Sv w B sb lv mv L) (hlen : L.length ≤ 1024) (hs : s.size ≤ maxLen) (hx : ix L s = none) :
    Calls Ybad.prog 6 #[.pointer (some ⟨sb, 0, none⟩), .string s] w fun e w' => RbNone w e w' := by
  obtain ⟨a, g, cp, rfl, hrow⟩ := row_at h.row rfl
  have HFind : Hid (Calls Ybad.prog 9 #[.pointer (some ⟨sb, 0, none⟩), .string s] w fun e w' => e = .returned (.tuple #[.int .i64 0, .bool false]) ∧ ∃ q, w' = w.drewN q) := (find_any sb B a g cp mv L s w h.c0 h.c1 hrow h.map hlen hs).mono (by
    rintro e w' ⟨hF, hq⟩
    refine ⟨?_, hq⟩
    unfold Found at hF; rw [hx] at hF; exact hF)
  clear h hx hrow
  go_enter Ybad.func6, Ybad.ntmps6
  go_wp2_with (go_at_call 9; refine HFind.out.mono ?_; rintro e w' ⟨rfl, q, rfl⟩)
  go_ret2
  exact ⟨rfl, _, rfl⟩

theorem clear_any {W : World} {B g n cap i : Nat} {L : Sps} {ad : Addr} (h : W.ownsRow B 41 2 (.slice (some ⟨g, 0, none⟩) (n + 1) cap) (n + 1) (cellsL L)) (hn : L.length = n + 1) (hi : i ≤ n) (had : (if cap = i + 1 then some (⟨g, 0, none⟩ : Addr) else some ⟨g, (i + 1) * 2, none⟩) = some ad) :
    ∃ W2, (∀ ty, (Builtin.clear_ #[23] ty #[.slice (some ad) (n - i) (cap - (i + 1))]).run Ybad.prog W = .ok (.tuple #[]) W2) ∧ W2.ownsRow B 41 2 (.slice (some ⟨g, 0, none⟩) (i + 1) cap) (i + 1) (cellsL (L.take (i + 1))) ∧ W.grownBy W2 (some g) := by
  obtain ⟨hl, h0⟩ := h
  rcases h0 with ⟨h, _⟩ | ⟨g', cap', cur, h, hB, hg, hle, hmax, hcs, htk⟩
  · cases h
  cases h
  have hlen : (cellsL (L.take (i + 1))).length = (i + 1) * 2 := by rw [cellsL_length]; simp; omega
  have htk2 : cur.toList.take ((i + 1) * 2) = cellsL (L.take (i + 1)) := by rw [cellsL_take, ← htk, List.take_take, Nat.min_eq_left (by omega)]
  by_cases h0 : n - i = 0
  · rw [h0]
    exact ⟨W, fun ty => run_clear_none W ty _ _, ⟨hlen, .inr ⟨g, cap, cur, rfl, hB, hg, by omega, hmax, hcs, htk2⟩⟩, ⟨rfl, rfl, rfl, Nat.le_refl _, fun _ _ _ => rfl⟩⟩
  · rw [if_neg (by omega)] at had
    cases had
    refine ⟨_, fun ty => run_clear_row W ty g ((i + 1) * 2) (n - i) _ cur hg (by omega) (by omega), ⟨hlen, .inr ⟨g, cap, _, rfl, hB, setRow_heap W g cur _ 41 (0, 0) hg, by omega, hmax, ?_, ?_⟩⟩, ⟨rfl, rfl, rfl, by simp, fun k _ hk => setRow_other W g k _ (fun e => hk (by rw [e]))⟩⟩
    · have e3 : cur.toList.length = cap * 2 := by simpa using hcs
      rw [List.size_toArray, List.length_append, List.length_append, List.length_take, List.length_drop, zs_length, e3]; omega
    · rw [htk2, ← hlen]; exact List.take_left

theorem rb_fin {w W W2 : World} {B sb g n cap i : Nat} {mv : Value} {L : Sps} (h : Ad w W B sb (.slice (some ⟨g, 0, none⟩) (n + 1) cap) mv (n + 1) L) (lo : B ≤ sb) (hi : i < L.length) (own : W2.ownsRow B 41 2 (.slice (some ⟨g, 0, none⟩) (i + 1) cap) (i + 1) (cellsL (L.take (i + 1)))) (hg : W.grownBy W2 (some g)) (hm : MapOk W B mv (L.take (i + 1))) :
    W2.cell? ⟨sb, 0, none⟩ = some (.slice (some ⟨g, 0, none⟩) (n + 1) cap) ∧ W2.frozen? ⟨sb, 0, none⟩ = false ∧ (W2.setCell ⟨sb, 0, none⟩ (.slice (some ⟨g, 0, none⟩) (i + 1) cap)).cell? ⟨sb, 0, none⟩ = some (.slice (some ⟨g, 0, none⟩) (i + 1) cap) ∧
    (W2.setCell ⟨sb, 0, none⟩ (.slice (some ⟨g, 0, none⟩) (i + 1) cap)).cell? ⟨g, i * 2 + 1, none⟩ = some (.int .i64 (mkA L i)) ∧ SetPost w B sb (L.take (i + 1)) (W2.setCell ⟨sb, 0, none⟩ (.slice (some ⟨g, 0, none⟩) (i + 1) cap)) := by
  have hB : B ≤ W.heap.size := Nat.le_of_lt (Nat.lt_of_le_of_lt lo (lt_of_blk h.box))
  have hlen : (L.take (i + 1)).length = i + 1 := by simp; omega
  have hne : sb ≠ g := fun e => by
    have := row_ne h.row h.box (fun cs e => by cases e)
    exact this (by rw [e]; rfl)
  have box1 : W2.heap[sb]? = some (.cells #[.slice (some ⟨g, 0, none⟩) (n + 1) cap, mv] 26 (0, 0)) := (hg.block sb (lt_of_blk h.box) (fun e => hne (by cases e; rfl))).trans h.box
  have box2 : (W2.setCell ⟨sb, 0, none⟩ (.slice (some ⟨g, 0, none⟩) (i + 1) cap)).heap[sb]? = some (.cells #[.slice (some ⟨g, 0, none⟩) (i + 1) cap, mv] 26 (0, 0)) := by
    have := heap_setCell_same W2 sb 0 #[.slice (some ⟨g, 0, none⟩) (n + 1) cap, mv] 26 (.slice (some ⟨g, 0, none⟩) (i + 1) cap) box1
    simp at this
    exact this
  have own2 := own.kept (grown_setCell W2 sb 0 (.slice (some ⟨g, 0, none⟩) (i + 1) cap)) (.inr (row_ne own box1 (fun cs e => by cases e)))
  have fr1 := h.fr.grown hg hB (fun r e => row_mine h.row r e)
  have fr2 := fr1.grown (grown_setCell W2 sb 0 (.slice (some ⟨g, 0, none⟩) (i + 1) cap)) (Nat.le_trans hB hg.size) (fun r e => by cases e; exact mine_cells lo box1 (.inr rfl))
  have hm2 := (hm.kept hg (fun r e => by obtain ⟨cs, hc⟩ := own_cells h.row r e; exact ⟨_, _, _, hc⟩)).kept (grown_setCell W2 sb 0 (.slice (some ⟨g, 0, none⟩) (i + 1) cap)) (fun r e => by cases e; exact ⟨_, _, _, box1⟩)
  refine ⟨(box_cells box1).1, (box_cells box1).2.2 0, (box_cells box2).1, ?_, ⟨_, _, box2, lo, by rw [hlen]; exact own2, hm2⟩, fr2⟩
  obtain ⟨a3, g3, cp3, e3, hrow3⟩ := row_at own2 hlen.symm
  have := hrow3.addr (by omega)
  simp only [Value.slice.injEq] at e3
  rw [← e3.1] at this
  obtain rfl : g = g3 := by simpa using this
  have := hrow3.mark i (by omega)
  rw [mkA_take L (i + 1) i (by omega)] at this
  exact this

theorem Ad.alloc {w0 w : World} {B sb n : Nat} {lv mv : Value} {L : Sps} (h : Ad w0 w B sb lv mv n L) (lo : B ≤ sb) (pos : 0 < B) (o : Obj) : Ad w0 (w.alloc o) B sb lv mv n L := by
  have hB : B ≤ w.heap.size := Nat.le_of_lt (Nat.lt_of_le_of_lt lo (lt_of_blk h.box))
  have fr2 : Fr B w0 (w.alloc o) := h.fr.grown (World.grownBy_alloc w o none) hB (fun r e => by cases e)
  refine ⟨(Below.heap_alloc w o sb (lt_of_blk h.box)).trans h.box, h.row.kept (World.grownBy_alloc w o none) ?_, fr2, ?_⟩
  · rcases h.row.2 with ⟨e2, _⟩ | ⟨g, cap, cur, e2, _⟩
    · exact .inl (by rw [e2]; rfl)
    · exact .inr (by rw [e2]; simp [Value.ownBlock])
  · rw [← h.g0]
    exact World.cell?_of_block ((fr2.low 0 pos).trans (h.fr.low 0 pos).symm)

theorem step_delete_run {P : Program} {ops : Array Oper} {o : Oper} {a : Act} {w w' : World} {K : Act → World → Prop} {Q : Exit → Act → World → Prop} {E : Prop}
    (hg : o.guard = none) (s x : Operand) (t k : TypeId) (hop : o.op = Op.call { callee := Callee.builtin Builtin.delete, args := #[s, x], argTypes := #[t, k] })
    (sv xv v' : Value) (hs : a.eval s = sv) (hx : a.eval x = xv) (hrun : (Builtin.delete_ #[t, k] o.type #[sv, xv]).run P w = .ok v' w') (hK : K (a.put o.dst v') w') :
    if Region.wanted o (yielded ops a.tmps) = true then Oper.wp P o a w K Q else E := by
  have hw : Region.wanted o (yielded ops a.tmps) = true := by simp [Region.wanted, hg]
  rw [if_pos hw]
  unfold Oper.wp
  simp [execOp, hop, resolve, invoke, builtin, hs, hx, hrun, Result.andThen]
  exact hK

set_option maxHeartbeats 1600000 in
theorem rb_some (B sb i : Nat) (lv : Value) (rm : Option Nat) (L : Sps) (s : ByteArray) (w : World) (h : Sv w B sb lv (.map rm) L) (hp : 0 < B) (g0 : w.cell? ⟨0, 0, none⟩ = some (.int .i64 8)) (hlen : L.length ≤ 1024) (hnd : Nd L) (hf : Fits L)
    (hs : s.size ≤ maxLen) (hold : ix L s = some i) (hroll : rollL L s = L.take (i + 1)) :
    Calls Ybad.prog 6 #[.pointer (some ⟨sb, 0, none⟩), .string s] w fun e w' => RbSome w B sb (rollL L s) (mkA L i) e w' := by
  have nq := neq24
  have hil := ix_lt hold
  obtain ⟨n, hn⟩ : ∃ n, L.length = n + 1 := ⟨L.length - 1, by omega⟩
  have hin : i ≤ n := by omega
  obtain ⟨g, cap, rfl⟩ : ∃ g cap, lv = .slice (some ⟨g, 0, none⟩) (n + 1) cap := by
    rcases h.row.2 with ⟨_, h0⟩ | ⟨g, cap, cur, e, _⟩
    · omega
    · exact ⟨g, cap, by rw [e, hn]⟩
  have hcap : n + 1 ≤ cap := by
    rcases h.row.2 with ⟨_, h0⟩ | ⟨g, cap, cur, e, _, _, hc, _⟩
    · omega
    · simp only [Value.slice.injEq] at e; omega
  have hrow0 := h.row
  rw [hn] at hrow0
  obtain ⟨a, g2, cp, e1, hrow⟩ := row_at h.row rfl
  have e2 : (Value.slice (some ⟨g, 0, none⟩) (n + 1) cap) = .slice a L.length cp := e1
  have HFind : Hid (Calls Ybad.prog 9 #[.pointer (some ⟨sb, 0, none⟩), .string s] w fun e w' => e = .returned (.tuple #[.int .i64 (i : Nat), .bool true]) ∧ ∃ q, w' = w.drewN q) := (find_any sb B a g2 cp (.map rm) L s w (by rw [← e2]; exact h.c0) h.c1 hrow h.map (by omega) hs).mono (by
    rintro e w' ⟨hF, hq⟩
    refine ⟨?_, hq⟩
    unfold Found at hF; rw [hold] at hF; exact hF)
  have HAd0 : Hid (∀ q, Ad w (w.drewN q) B sb (.slice (some ⟨g, 0, none⟩) (n + 1) cap) (.map rm) (n + 1) L) := fun q =>
    ⟨h.box, hrow0, (Fr.refl B w).grown (grown_drewN w q none) (Nat.le_of_lt (Nat.lt_of_le_of_lt h.lo (lt_of_blk h.box))) (fun r e => by cases e), g0⟩
  have c0 := h.c0
  have c1 := h.c1
  have b2 : i + 1 ≤ cap := by omega
  have b3 : (0 : Int) ≤ (i : Int) + 1 := by omega
  obtain ⟨ad, had, hads⟩ : ∃ ad : Addr, (if cap = i + 1 then some (⟨g, 0, none⟩ : Addr) else some ⟨g, (i + 1) * 2, none⟩) = some ad ∧ (0 < n - i → ad = ⟨g, (i + 1) * 2, none⟩) := by
    by_cases hc : cap = i + 1
    · exact ⟨_, if_pos hc, fun h => absurd h (by omega)⟩
    · exact ⟨_, if_neg hc, fun _ => rfl⟩
  have HH := hide h
  have HLo : Hid (B ≤ sb) := h.lo
  have HN := hide hnd
  have HF := hide hf
  have HX := hide hold
  have HL := hide hn
  have HR := hide hroll
  have HLt := hide hil
  have Hads := hide hads
  clear h hnd hf hold hn e1 e2 hrow0 hrow hil hroll hads
  have hln : n ≤ 1023 := by have := HL.out; omega
  clear hlen
  go_enter Ybad.func6, Ybad.ntmps6
  go_upto_if 22 with (go_at_call 9; refine HFind.out.mono ?_; rintro e w' ⟨rfl, q, rfl⟩)
  have HAd := hide (HAd0.out q)
  have HM : Hid (MapOk (w.drewN q) B (.map rm) L) := HH.out.map
  clear HAd0 HFind
  generalize hW : w.drewN q = W at *
  have c0' := (box_cells HAd.out.box).1
  have c1' := (box_cells HAd.out.box).2.1
  clear hW
  cases rm with
  | none =>
    have hMap : MapOk W B (.map none) (L.take (i + 1)) := .inl rfl
    obtain ⟨W2, hclr, hown2, hgr2⟩ := clear_any (i := i) HAd.out.row HL.out hin had
    obtain ⟨z0, z1, z2, z3, hpost⟩ := rb_fin HAd.out HLo.out HLt.out hown2 hgr2 hMap
    clear hown2 hgr2 hMap
    go_upto_region 12 with fail
    generalize hW3 : W2.setCell ⟨sb, 0, none⟩ (.slice (some ⟨g, 0, none⟩) (i + 1) cap) = W3 at *
    have Hpost := hide hpost
    clear hpost hW3
    go_wp2_with fail
    go_ret2
    exact ⟨rfl, by rw [HR.out]; exact Hpost.out⟩
  | some mb =>
    obtain ⟨D, hBm, hown, hD⟩ : ∃ D, B ≤ mb ∧ OwnM W mb L.length D ∧ Ix D L := by
      rcases HM.out with e | ⟨mb', D, e, hBm, hown, hD⟩
      · cases e
      · cases e; exact ⟨D, hBm, hown, hD⟩
    have HD := hide hD
    have HBm := hide hBm
    have Hown := hide hown
    clear hD hBm hown
    go_wp2_with fail
    go_loopg [8, 31] (n - i) (fun k bv iv wr => ∃ t D', k = n - i - t ∧ t ≤ n - i ∧ iv = .int .i64 (t : Nat) ∧ OwnM wr mb L.length D' ∧ Del D' L i t ∧ Ad w wr B sb (.slice (some ⟨g, 0, none⟩) (n + 1) cap) (.map (some mb)) (n + 1) L)
    case atStart => exact ⟨0, D, rfl, Nat.zero_le _, rfl, Hown.out, Del.start HD.out i, HAd.out⟩
    case round =>
      obtain ⟨t, D', hk, ht, rfl, hown, hdel, had'⟩ := hrel
      obtain ⟨x0, x1, x2⟩ := box_cells had'.box
      have HAd2 := hide had'
      have HDel := hide hdel
      have HOwn := hide hown
      clear had' hdel hown HAd
      by_cases hlt : t < n - i
      · have hlt' : (t : Int) < ((n - i : Nat) : Int) := by omega
        obtain rfl := Hads.out (by omega)
        have hjl : i + 1 + t < L.length := by have := HL.out; omega
        obtain ⟨a3, g3, cp3, e3, hrow3⟩ := row_at HAd2.out.row HL.out.symm
        obtain rfl : g = g3 := by
          have := hrow3.addr (by omega)
          simp only [Value.slice.injEq] at e3
          rw [← e3.1] at this
          simpa using this
        have y1 := hrow3.name _ hjl
        have y2 := hrow3.mark _ hjl
        rw [show (i + 1 + t) * 2 = (i + 1) * 2 + t * 2 by omega] at y1 y2
        have hkey : keyOf Ybad.prog 9 (.string (nmA L (i + 1 + t))) = some (key (nmA L (i + 1 + t))) := WideMaps.keyOf_string_mk Ybad.underlying9 (HF.out _ hjl).1
        obtain ⟨w2, hrun, hown2, hgr2⟩ := World.ownsMap.drop (w := (wr.alloc (.cells #[.string (nmA L (i + 1 + t)), .int .i64 (mkA L (i + 1 + t))] 41 (0, 0))).drew) (HOwn.out.alloc _) law9 Ybad.underlying24 hkey 0
        have HO2 := hide hown2
        have HG2 := hide hgr2.grown
        have HRun := hide hrun
        clear hown2 hgr2 hrow3 e3 hrun
        have z9 : (wr.alloc (.cells #[.string (nmA L (i + 1 + t)), .int .i64 (mkA L (i + 1 + t))] 41 (0, 0))).cell? ⟨sb, 1, none⟩ = some (.map (some mb)) := (box_cells (HAd2.out.alloc HLo.out hp _).box).2.1
        go_wp2_with fail
        go_region_law (refine step_delete_run rfl (.tmp 38) (.tmp 40) 24 9 rfl _ _ _ rfl rfl HRun.out ?_)
        all_goals go_wp2_with fail
        all_goals go_roundg (n - i - (t + 1))
        all_goals first | omega | exact ⟨t + 1, _, rfl, by omega, by go_num, HO2.out, HDel.out.step HN.out (HOwn.out.tidy law9) hjl, ((HAd2.out.alloc HLo.out hp _).grown HLo.out hp ⟨HG2.out.os, HG2.out.tape, HG2.out.output, HG2.out.size, HG2.out.block⟩ ⟨HBm.out, OwnM.blk (HOwn.out.alloc _)⟩)⟩
      · obtain rfl : t = n - i := by omega
        have HAd := HAd2
        have hMap : MapOk wr B (.map (some mb)) (L.take (i + 1)) := .inr ⟨mb, D', rfl, HBm.out, OwnM.shrink HOwn.out (HDel.out.fin HN.out HLt.out (by have := HL.out; omega)).size, HDel.out.fin HN.out HLt.out (by have := HL.out; omega)⟩
        obtain ⟨W2, hclr, hown2, hgr2⟩ := clear_any (i := i) HAd.out.row HL.out hin had
        obtain ⟨z0, z1, z2, z3, hpost⟩ := rb_fin HAd.out HLo.out HLt.out hown2 hgr2 hMap
        clear hown2 hgr2 hMap
        go_upto_region 12 with fail
        generalize hW3 : W2.setCell ⟨sb, 0, none⟩ (.slice (some ⟨g, 0, none⟩) (i + 1) cap) = W3 at *
        have Hpost := hide hpost
        clear hpost hW3
        go_wp2_with fail
        go_ret2
        exact ⟨rfl, by rw [HR.out]; exact Hpost.out⟩
end Go.Proofs.YbulkbtwkDoor
