/-
  The walk of Set (7) where the name is there.
-/
import Derived.Test.YbulkbtwkDoorS6
import Derived.Deep.Cut
namespace Go.Proofs.YbulkbtwkDoor
open Go.RowKit

theorem Pre.facts' {w0 w : World} {B sb n : Nat} {lv mv : Value} {L : Sps} {s : ByteArray} {m : Int} (h : Pre w0 w B sb lv mv L s m) (hn : L.length = n) (o : Obj) : (w.alloc o).ownsRow B 41 2 lv n (cellsL L) := by
  rw [← hn]; exact h.facts o
theorem row_grown' {w : World} {B n : Nat} {v : Value} {L : Sps} {s : ByteArray} {m : Int} (hn : L.length = n) (h : w.ownsRow B 41 2 v (n + 1) (cellsL (L ++ [(s, m)]))) : ∃ a g cp, v = .slice a (n + 1) cp ∧ RowAt w a g (L ++ [(s, m)]) := by
  subst hn; exact row_grown h
theorem call11' {w0 w1 : World} {B sb g cp n : Nat} {a : Option Addr} {lv mv : Value} {L : Sps} {s : ByteArray} {m : Int} (hn : L.length = n) (box : w1.heap[sb]? = some (.cells #[lv, mv] 26 (0, 0))) (own : w1.ownsRow B 41 2 (.slice a (n + 1) cp) (n + 1) (cellsL (L ++ [(s, m)])))
    (tail : TailOk w1 B mv L s m) (row : RowAt w1 a g (L ++ [(s, m)])) (fr : Fr B w0 w1) (lo : B ≤ sb) (g0 : w1.cell? ⟨0, 0, none⟩ = some (.int .i64 8)) (pos : 0 < B) (hB : B ≤ w1.heap.size) (hlen : n ≤ 1023) (hf : Fits (L ++ [(s, m)])) (hnd : Nd (L ++ [(s, m)])) :
    Calls Ybad.prog 11 #[.slice a (n + 1) cp, mv, .func (.func 12) #[] #[]] (w1.setCell ⟨sb, 0, none⟩ (.slice a (n + 1) cp)).drew fun e w' => Call11 w0 B sb (.slice a (n + 1) cp) mv (L ++ [(s, m)]) e w' := by
  subst hn; exact call11 box own tail row fr lo g0 pos hB hlen hf hnd

/-- Behind Set's removal. -/
structure Ad (w0 w : World) (B sb : Nat) (lv : Value) (mv : Value) (n : Nat) (L : Sps) : Prop where
  box : w.heap[sb]? = some (.cells #[lv, mv] 26 (0, 0))
  row : w.ownsRow B 41 2 lv n (cellsL L)
  fr : Fr B w0 w
  g0 : w.cell? ⟨0, 0, none⟩ = some (.int .i64 8)

theorem Ad.grown {w0 w w' : World} {B sb n : Nat} {lv mv : Value} {L : Sps} {r : Nat} (h : Ad w0 w B sb lv mv n L) (lo : B ≤ sb) (pos : 0 < B) (hg : w.grownBy w' (some r)) (hr : MapBlk B w r) : Ad w0 w' B sb lv mv n L := by
  obtain ⟨hBr, es, c, hb⟩ := hr
  have hB : B ≤ w.heap.size := Nat.le_of_lt (Nat.lt_of_le_of_lt lo (lt_of_blk h.box))
  have fr2 : Fr B w0 w' := h.fr.grown hg hB (fun r e => by cases e; exact MapBlk.mine ⟨hBr, es, c, hb⟩)
  refine ⟨(hg.block sb (lt_of_blk h.box) (fun e => ?_)).trans h.box, h.row.kept hg ?_, fr2, ?_⟩
  · cases e
    have := h.box; rw [hb] at this; cases this
  · rcases h.row.2 with ⟨e2, _⟩ | ⟨g, cap, cur, e2, _⟩
    · exact .inl (by rw [e2]; rfl)
    · exact .inr (row_ne h.row hb (fun cs e => by cases e))
  · rw [← h.g0]
    exact World.cell?_of_block ((fr2.low 0 pos).trans (h.fr.low 0 pos).symm)

theorem ad_start {w wd : World} {B sb q g n cap : Nat} {lv mv : Value} {L L' : Sps} {e : Ending} (h : Sv w B sb lv mv L) (hlv : lv.ownBlock = some g) (pos : 0 < B) (g0 : w.cell? ⟨0, 0, none⟩ = some (.int .i64 8)) (hd : DelOk (w.drewN q) B g n cap L' e wd) :
    wd.cell? ⟨sb, 0, none⟩ = some lv ∧ wd.frozen? ⟨sb, 0, none⟩ = false ∧ wd.cell? ⟨sb, 1, none⟩ = some mv ∧ Ad w (wd.setCell ⟨sb, 0, none⟩ (.slice (some ⟨g, 0, none⟩) n cap)) B sb (.slice (some ⟨g, 0, none⟩) n cap) mv n L' ∧ MapOk (wd.setCell ⟨sb, 0, none⟩ (.slice (some ⟨g, 0, none⟩) n cap)) B mv L := by
  obtain ⟨_, hown, hgr⟩ := hd
  have hg0 : w.grownBy wd (some g) := ⟨hgr.os, hgr.tape, hgr.output, hgr.size, hgr.block⟩
  have hne : sb ≠ g := fun e => by
    have := row_ne h.row h.box (fun cs e => by cases e)
    rw [hlv, e] at this; exact this rfl
  have box1 : wd.heap[sb]? = some (.cells #[lv, mv] 26 (0, 0)) := (hg0.block sb (lt_of_blk h.box) (fun e => hne (by cases e; rfl))).trans h.box
  have hB : B ≤ w.heap.size := Nat.le_of_lt (Nat.lt_of_le_of_lt h.lo (lt_of_blk h.box))
  have fr1 : Fr B w wd := (Fr.refl B w).grown hg0 hB (fun r e => row_mine h.row r (by rw [hlv]; exact e))
  have fr2 : Fr B w (wd.setCell ⟨sb, 0, none⟩ (.slice (some ⟨g, 0, none⟩) n cap)) := fr1.grown (grown_setCell wd sb 0 _) (Nat.le_trans hB fr1.size) (fun r e => by cases e; exact mine_cells h.lo box1 (.inr rfl))
  refine ⟨(box_cells box1).1, (box_cells box1).2.2 0, (box_cells box1).2.1, ⟨?_, hown.kept (grown_setCell wd sb 0 _) (.inr (row_ne hown box1 (fun cs e => by cases e))), fr2, ?_⟩, ?_⟩
  · have := heap_setCell_same wd sb 0 #[lv, mv] 26 (.slice (some ⟨g, 0, none⟩) n cap) box1
    simp at this
    exact this
  · rw [← g0]
    exact World.cell?_of_block (fr2.low 0 pos)
  · exact (h.map.kept hg0 (fun r e => by obtain ⟨cs, hc⟩ := own_cells h.row r (by rw [hlv]; exact e); exact ⟨_, _, _, hc⟩)).kept (grown_setCell wd sb 0 _) (fun r e => by cases e; exact ⟨_, _, _, box1⟩)

set_option maxHeartbeats 1600000 in
theorem set_old (B sb i : Nat) (lv : Value) (rm : Option Nat) (L : Sps) (s : ByteArray) (m : Int) (w : World) (h : Sv w B sb lv (.map rm) L) (hp : 0 < B) (g0 : w.cell? ⟨0, 0, none⟩ = some (.int .i64 8)) (hlen : L.length ≤ 1023) (hnd : Nd L) (hf : Fits L)
    (hs : s.size ≤ maxLen) (hold : ix L s = some i) (hset : setL L s m = L.eraseIdx i ++ [(s, m)]) (hnd2 : Nd (L.eraseIdx i ++ [(s, m)])) (hf2 : Fits (L.eraseIdx i ++ [(s, m)])) :
    Calls Ybad.prog 7 #[.pointer (some ⟨sb, 0, none⟩), .string s, .int .i64 m] w fun e w' => e = .returned (.tuple #[]) ∧ SetPost w B sb (setL L s m) w' := by
  have nq := neq24
  have hil := ix_lt hold
  obtain ⟨n, hn⟩ : ∃ n, L.length = n + 1 := ⟨L.length - 1, by omega⟩
  have hE : (L.eraseIdx i).length = n := by rw [List.length_eraseIdx_of_lt hil, hn]; omega
  have hin : i ≤ n := by omega
  obtain ⟨g, cap, rfl⟩ : ∃ g cap, lv = .slice (some ⟨g, 0, none⟩) (n + 1) cap := by
    rcases h.row.2 with ⟨_, h0⟩ | ⟨g, cap, cur, e, _⟩
    · omega
    · exact ⟨g, cap, by rw [e, hn]⟩
  have hrow0 := h.row
  rw [hn] at hrow0
  obtain ⟨a, g2, cp, e1, hrow⟩ := row_at h.row rfl
  have e2 : (Value.slice (some ⟨g, 0, none⟩) (n + 1) cap) = .slice a L.length cp := e1
  have HFind : Hid (Calls Ybad.prog 9 #[.pointer (some ⟨sb, 0, none⟩), .string s] w fun e w' => e = .returned (.tuple #[.int .i64 (i : Nat), .bool true]) ∧ ∃ q, w' = w.drewN q) := (find_any sb B a g2 cp (.map rm) L s w (by rw [← e2]; exact h.c0) h.c1 hrow h.map (by omega) hs).mono (by
    rintro e w' ⟨hF, hq⟩
    refine ⟨?_, hq⟩
    unfold Found at hF; rw [hold] at hF; exact hF)
  have HDel : Hid (∀ q, Calls Ybad.prog 10 #[.slice (some ⟨g, 0, none⟩) (n + 1 : Nat) cap, .int .i64 (i : Nat), .int .i64 ((i : Nat) + 1)] (w.drewN q) fun e w' => DelOk (w.drewN q) B g n cap (L.eraseIdx i) e w') := fun q => by
    have := delete_any B g n cap i L (w.drewN q) hrow0 hn hin (by omega)
    simpa using this
  have c0 := h.c0
  have c1 := h.c1
  obtain ⟨i0, hi, hz0, hz1, hz2⟩ := info_parts Ybad.info41
  have HH := hide h
  have HLo : Hid (B ≤ sb) := h.lo
  have HN := hide hnd
  have HF := hide hf
  have HN2 := hide hnd2
  have HF2 := hide hf2
  have HS := hide hset
  have HE := hide hE
  have HX := hide hold
  have HL := hide hn
  clear h hnd hf hnd2 hf2 hset hold hE e1 e2 hrow0 hrow hil
  have hln : n ≤ 1022 := by have := HL.out; omega
  clear hlen
  go_enter Ybad.func7, Ybad.ntmps7
  go_upto_if 31 with (first | (go_at_call 9; refine HFind.out.mono ?_; rintro e w' ⟨rfl, q, rfl⟩) | (go_at_call 10; refine (HDel.out q).mono ?_; intro e wd hd; obtain ⟨d0, d1, d2, hAd, hMap⟩ := ad_start HH.out rfl hp g0 hd; obtain rfl := hd.1; clear hd))
  generalize hW : wd.setCell ⟨sb, 0, none⟩ (.slice (some ⟨g, 0, none⟩) n cap) = W at *
  have c0' := (box_cells hAd.box).1
  have c1' := (box_cells hAd.box).2.1
  have c2' := (box_cells hAd.box).2.2
  have HA := hide hAd
  have HM := hide hMap
  clear hAd hMap hW
  cases rm with
  | none =>
    have HPre : Hid (Pre w W B sb (.slice (some ⟨g, 0, none⟩) n cap) (.map none) (L.eraseIdx i) s m) := ⟨HA.out.box, HLo.out, hp, by rw [HE.out]; exact HA.out.row, .inl rfl, HA.out.fr, HA.out.g0⟩
    go_wp2_with (at_builtin; refine wpList_append_own_at _ rfl _ _ 23 rfl B 41 i0 _ 2 24 Ybad.underlying23 hi hz0 hz1 hz2 rfl (by decide) (.slice (some ⟨g, 0, none⟩) n cap) n (cellsL (L.eraseIdx i)) rfl (HPre.out.facts' HE.out _) ⟨W.heap.size, 0, none⟩ 1 1 [.string s, .int .i64 m] rfl rfl (two_cells _ _ _) (two_one _ _) (by unfold maxLen; omega) (by omega) (by have := HPre.out.le; simp at this ⊢; omega) ?_; intro v' w1 hown' hgrow _ _; obtain ⟨hb1, hown1, htl1, hfr1, hg1, hB1⟩ := HPre.out.append (by rw [HE.out]; exact hown') hgrow; rw [HE.out] at hown1; obtain ⟨a', g', cp', rfl, hrow1⟩ := row_grown' HE.out hown1; obtain ⟨k0, k1, k2⟩ := box_cells hb1; have HB1 := hide hb1; have HO1 := hide hown1; have HT1 := hide htl1; have HR1 := hide hfr1; have HW1 := hide hrow1; clear hown' hgrow hb1 hown1 htl1 hfr1 hrow1)
    have q0 := (set_cells HB1.out (.slice a' (n + 1) cp')).1
    have q1 := (set_cells HB1.out (.slice a' (n + 1) cp')).2
    go_region_with (go_at_call 11; refine (call11' HE.out HB1.out HO1.out HT1.out HW1.out HR1.out HLo.out hg1 hp hB1 (by omega) HF2.out HN2.out).mono ?_; rintro e w2 ⟨r, rfl, j0, j1, j2, jpost⟩)
    all_goals go_wp2_with fail
    all_goals exact bodyPost_end (v := .tuple #[]) (by simp [results, Ybad.results7, go_sem]) rfl ⟨rfl, by rw [HS.out]; exact jpost⟩
  | some mb =>
    obtain ⟨D, hBm, hown, hD⟩ : ∃ D, B ≤ mb ∧ OwnM W mb L.length D ∧ Ix D L := by
      rcases HM.out with e | ⟨mb', D, e, hBm, hown, hD⟩
      · cases e
      · cases e; exact ⟨D, hBm, hown, hD⟩
    have HD := hide hD
    have HBm := hide hBm
    have Hown := hide hown
    clear hD hBm hown
    go_wp2_with fail
    go_loopg [8] (n - i) (fun k iv wr => ∃ j D' k', k = n - j ∧ j ≤ n ∧ i ≤ j ∧ iv = .int .i64 (j : Nat) ∧ OwnM wr mb k' D' ∧ k' ≤ 1100 + j ∧ Mid D' L (L.eraseIdx i) j ∧ Ad w wr B sb (.slice (some ⟨g, 0, none⟩) n cap) (.map (some mb)) n (L.eraseIdx i))
    case atStart => exact ⟨i, D, L.length, rfl, hin, Nat.le_refl _, rfl, Hown.out, by omega, Mid.start HD.out HN.out (ix_lt HX.out), HA.out⟩
    case round =>
      obtain ⟨j, D', k', hk, hj, hij, rfl, hown, hk', hmid, had⟩ := hrel
      obtain ⟨x0, x1, x2⟩ := box_cells had.box
      have HAd := hide had
      have HMid := hide hmid
      have HOwn := hide hown
      clear had hmid hown
      by_cases hlt : j < n
      · have hlt' : (j : Int) < (n : Int) := by omega
        have hjl : j < (L.eraseIdx i).length := by rw [HE.out]; exact hlt
        obtain ⟨a3, g3, cp3, e3, hrow3⟩ := row_at HAd.out.row HE.out.symm
        obtain ⟨rfl⟩ : g = g3 := by
          have := hrow3.addr (by omega)
          simp only [Value.slice.injEq] at e3
          rw [← e3.1] at this
          simpa using this
        have hc := hrow3.name j hjl
        have hkey : keyOf Ybad.prog 9 (.string (nmA (L.eraseIdx i) j)) = some (key (nmA (L.eraseIdx i) j)) := WideMaps.keyOf_string_mk Ybad.underlying9 ((HF.out.erase (ix_lt HX.out)) j hjl).1
        obtain ⟨w2, hrun, hown2, hgr2⟩ := World.ownsMap.update (w := wr.drew) HOwn.out law9 Ybad.underlying24 (by unfold maxLen; omega) hkey (at64_elem j (by omega))
        have HO2 := hide hown2
        have HG2 := hide hgr2
        clear hown2 hgr2 hrow3 e3
        go_wp2_with fail
        go_region
        all_goals go_wp2_with fail
        all_goals go_roundg (n - (j + 1))
        all_goals first | omega | exact ⟨j + 1, _, k' + 1, rfl, by omega, by omega, by go_num, HO2.out, by omega, Mid.step HN.out (ix_lt HX.out) HMid.out (HOwn.out.tidy law9) hjl, (HAd.out.grown HLo.out hp ⟨HG2.out.os, HG2.out.tape, HG2.out.output, HG2.out.size, HG2.out.block⟩ ⟨HBm.out, HOwn.out.blk⟩)⟩
      · obtain rfl : j = n := by omega
        have HPre : Hid (Pre w wr B sb (.slice (some ⟨g, 0, none⟩) j cap) (.map (some mb)) (L.eraseIdx i) s m) := ⟨HAd.out.box, HLo.out, hp, by rw [HE.out]; exact HAd.out.row, .inr ⟨mb, k', D', rfl, HBm.out, HOwn.out, by omega, Mid.fin HN.out HX.out m (by rw [HE.out]; exact HMid.out) (HOwn.out.tidy law9)⟩, HAd.out.fr, HAd.out.g0⟩
        go_wp2_with (at_builtin; refine wpList_append_own_at _ rfl _ _ 23 rfl B 41 i0 _ 2 24 Ybad.underlying23 hi hz0 hz1 hz2 rfl (by decide) (.slice (some ⟨g, 0, none⟩) j cap) j (cellsL (L.eraseIdx i)) rfl (HPre.out.facts' HE.out _) ⟨wr.heap.size, 0, none⟩ 1 1 [.string s, .int .i64 m] rfl rfl (two_cells _ _ _) (two_one _ _) (by unfold maxLen; omega) (by omega) (by have := HPre.out.le; simp at this ⊢; omega) ?_; intro v' w1 hown' hgrow _ _; obtain ⟨hb1, hown1, htl1, hfr1, hg1, hB1⟩ := HPre.out.append (by rw [HE.out]; exact hown') hgrow; rw [HE.out] at hown1; obtain ⟨a', g', cp', rfl, hrow1⟩ := row_grown' HE.out hown1; obtain ⟨k0, k1, k2⟩ := box_cells hb1; have HB1 := hide hb1; have HO1 := hide hown1; have HT1 := hide htl1; have HR1 := hide hfr1; have HW1 := hide hrow1; clear hown' hgrow hb1 hown1 htl1 hfr1 hrow1)
        have q0 := (set_cells HB1.out (.slice a' (j + 1) cp')).1
        have q1 := (set_cells HB1.out (.slice a' (j + 1) cp')).2
        go_region_with (go_at_call 11; refine (call11' HE.out HB1.out HO1.out HT1.out HW1.out HR1.out HLo.out hg1 hp hB1 (by omega) HF2.out HN2.out).mono ?_; rintro e w2 ⟨r, rfl, j0, j1, j2, jpost⟩)
        all_goals go_wp2_with fail
        all_goals exact bodyPost_end (v := .tuple #[]) (by simp [results, Ybad.results7, go_sem]) rfl ⟨rfl, by rw [HS.out]; exact jpost⟩
end Go.Proofs.YbulkbtwkDoor
