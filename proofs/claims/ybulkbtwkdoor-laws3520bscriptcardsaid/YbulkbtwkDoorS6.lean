/-
  The walk of Set (7) where the name is new.
-/
import Derived.Test.YbulkbtwkDoorS5
import Derived.Deep.RegionHeld3
namespace Go.Proofs.YbulkbtwkDoor
open Go.RowKit

theorem two_cells (w : World) (s : ByteArray) (m : Int) : ∀ j u, [Value.string s, .int .i64 m][j]? = some u → (w.alloc (.cells #[.string s, .int .i64 m] 41)).cell? ((⟨w.heap.size, 0, none⟩ : Addr).add j) = some u := fun j u hu => by
  rw [Addr.add_lit, World.cell?_alloc_new]
  match j with
  | 0 => simpa using hu
  | 1 => simpa using hu
  | j + 2 => simp at hu
theorem two_one (s : ByteArray) (m : Int) : ∀ u ∈ [Value.string s, .int .i64 m], u.oneCell' = true := by
  intro u hu
  simp at hu
  rcases hu with rfl | rfl <;> rfl

theorem Pre.facts {w0 w : World} {B sb : Nat} {lv mv : Value} {L : Sps} {s : ByteArray} {m : Int} (h : Pre w0 w B sb lv mv L s m) (o : Obj) : (w.alloc o).ownsRow B 41 2 lv L.length (cellsL L) := h.row.kept (World.grownBy_alloc w o none) (by
    rcases h.row.2 with ⟨e2, _⟩ | ⟨g, cap, cur, e2, _⟩
    · exact .inl (by rw [e2]; rfl)
    · exact .inr (by rw [e2]; simp [Value.ownBlock]))

theorem row_grown {w : World} {B : Nat} {v : Value} {L : Sps} {s : ByteArray} {m : Int} (h : w.ownsRow B 41 2 v (L.length + 1) (cellsL (L ++ [(s, m)]))) : ∃ a g cp, v = .slice a (L.length + 1) cp ∧ RowAt w a g (L ++ [(s, m)]) := by
  obtain ⟨a, g, cp, e, hr⟩ := row_at h (by simp)
  exact ⟨a, g, cp, by rw [e]; simp, hr⟩
theorem box_cells {w : World} {sb : Nat} {lv mv : Value} (h : w.heap[sb]? = some (.cells #[lv, mv] 26 (0, 0))) : w.cell? ⟨sb, 0, none⟩ = some lv ∧ w.cell? ⟨sb, 1, none⟩ = some mv ∧ ∀ i, w.frozen? ⟨sb, i, none⟩ = false := by
  refine ⟨by rw [cell_of_row w sb _ _ 26 (0, 0) h]; rfl, by rw [cell_of_row w sb _ _ 26 (0, 0) h]; rfl, fun i => by simp [World.frozen?, h]⟩

theorem set_cells {w : World} {sb : Nat} {lv mv : Value} (h : w.heap[sb]? = some (.cells #[lv, mv] 26 (0, 0))) (v : Value) : (w.setCell ⟨sb, 0, none⟩ v).drew.cell? ⟨sb, 0, none⟩ = some v ∧ (w.setCell ⟨sb, 0, none⟩ v).drew.cell? ⟨sb, 1, none⟩ = some mv := by
  have box2 : (w.setCell ⟨sb, 0, none⟩ v).drew.heap[sb]? = some (.cells #[v, mv] 26 (0, 0)) := by
    have := heap_setCell_same w sb 0 #[lv, mv] 26 v h
    simp at this
    exact this
  exact ⟨(box_cells box2).1, (box_cells box2).2.1⟩

/-- What Set's last call leaves. -/
def Call11 (w0 : World) (B sb : Nat) (v' mv : Value) (L : Sps) (e : Ending) (w2 : World) : Prop :=
  ∃ r, e = .returned (.map r) ∧ w2.cell? ⟨sb, 0, none⟩ = some v' ∧ w2.cell? ⟨sb, 1, none⟩ = some mv ∧ w2.frozen? ⟨sb, 1, none⟩ = false ∧ SetPost w0 B sb L (w2.setCell ⟨sb, 1, none⟩ (.map r))

theorem call11 {w0 w1 : World} {B sb g cp : Nat} {a : Option Addr} {lv mv : Value} {L : Sps} {s : ByteArray} {m : Int} (box : w1.heap[sb]? = some (.cells #[lv, mv] 26 (0, 0))) (own : w1.ownsRow B 41 2 (.slice a (L.length + 1) cp) (L.length + 1) (cellsL (L ++ [(s, m)])))
    (tail : TailOk w1 B mv L s m) (row : RowAt w1 a g (L ++ [(s, m)])) (fr : Fr B w0 w1) (lo : B ≤ sb) (g0 : w1.cell? ⟨0, 0, none⟩ = some (.int .i64 8)) (pos : 0 < B) (hB : B ≤ w1.heap.size) (hlen : L.length ≤ 1023) (hf : Fits (L ++ [(s, m)])) (hnd : Nd (L ++ [(s, m)])) :
    Calls Ybad.prog 11 #[.slice a (L.length + 1) cp, mv, .func (.func 12) #[] #[]] (w1.setCell ⟨sb, 0, none⟩ (.slice a (L.length + 1) cp)).drew fun e w' => Call11 w0 B sb (.slice a (L.length + 1) cp) mv (L ++ [(s, m)]) e w' := by
  have hgs : w1.grownBy (w1.setCell ⟨sb, 0, none⟩ (.slice a (L.length + 1) cp)).drew (some sb) := ⟨rfl, rfl, rfl, by simp, (grown_setCell w1 sb 0 _).block⟩
  have hrow : RowAt (w1.setCell ⟨sb, 0, none⟩ (.slice a (L.length + 1) cp)).drew a g (L ++ [(s, m)]) := by
    have own2 := own.kept hgs (by
      rcases own.2 with ⟨e2, _⟩ | ⟨g, cap, cur, e2, _⟩
      · exact .inl (by rw [e2]; rfl)
      · exact .inr (row_ne own box (fun cs e => by cases e)))
    obtain ⟨a2, g2, cp2, e, h2⟩ := row_at own2 (by simp)
    simp only [Value.slice.injEq] at e
    obtain ⟨rfl, _, _⟩ := e
    have ea := row.addr (by simp)
    have ea2 := h2.addr (by simp)
    rw [ea] at ea2
    cases ea2
    exact h2
  have htail := tail.kept hgs (fun r e => by cases e; exact ⟨_, _, _, box⟩)
  refine (ixn_any B a g cp mv L s m _ hrow htail (by omega) hf hnd ?_ (by simpa using hB)).mono ?_
  · rw [← g0]
    refine World.cell?_of_block ?_
    exact heap_setCell_other w1 _ 0 _ (by simp; omega)
  · rintro e w2 ⟨mv', rfl, hmap, rw_, hg, hr⟩
    obtain ⟨h0, h1, h2, hpost⟩ := set_fin box (n := L.length + 1) (by simp) own lo fr hB hmap hg hr
    obtain ⟨r, rfl⟩ : ∃ r, mv' = .map r := by rcases hmap with rfl | ⟨mb, D, rfl, _⟩ <;> exact ⟨_, rfl⟩
    exact ⟨r, rfl, h0, h1, h2, hpost⟩

set_option maxHeartbeats 1600000 in
theorem set_new (B sb : Nat) (lv mv : Value) (L : Sps) (s : ByteArray) (m : Int) (w : World) (h : Sv w B sb lv mv L) (hp : 0 < B) (g0 : w.cell? ⟨0, 0, none⟩ = some (.int .i64 8)) (hlen : L.length ≤ 1023) (hnd : Nd L) (hf : Fits L)
    (hs : s.size ≤ maxLen) (hnew : ix L s = none) (hset : setL L s m = L ++ [(s, m)]) (hnd2 : Nd (L ++ [(s, m)])) (hf2 : Fits (L ++ [(s, m)])) :
    Calls Ybad.prog 7 #[.pointer (some ⟨sb, 0, none⟩), .string s, .int .i64 m] w fun e w' => e = .returned (.tuple #[]) ∧ SetPost w B sb (setL L s m) w' := by
  obtain ⟨a, g, cp, rfl, hrow⟩ := row_at h.row rfl
  have HFind : Hid (Calls Ybad.prog 9 #[.pointer (some ⟨sb, 0, none⟩), .string s] w fun e w' => e = .returned (.tuple #[.int .i64 0, .bool false]) ∧ ∃ q, w' = w.drewN q) := (find_any sb B a g cp mv L s w h.c0 h.c1 hrow h.map (by omega) hs).mono (by
    rintro e w' ⟨hF, hq⟩
    refine ⟨?_, hq⟩
    unfold Found at hF; rw [hnew] at hF; exact hF)
  have HPre : Hid (∀ q, Pre w (w.drewN q) B sb (.slice a L.length cp) mv L s m) := fun q => by
    refine ⟨h.box, h.lo, hp, h.row, ?_, (Fr.refl B w).grown (grown_drewN w q none) (Nat.le_of_lt (Nat.lt_of_le_of_lt h.lo (lt_of_blk h.box))) (fun r e => by cases e), g0⟩
    rcases h.map with e | ⟨mb, D, e, hBm, ho, hD⟩
    · exact .inl e
    · refine .inr ⟨mb, L.length, D, e, hBm, ho, by omega, ?_⟩
      exact hD.put_new (ho.tidy law9) hnd (x := (s, m)) (fun i hi => (ix_none_iff L s).1 hnew i hi)
  have c0 := h.c0
  have c1 := h.c1
  have hbox := h.box
  obtain ⟨i0, hi, hz0, hz1, hz2⟩ := info_parts Ybad.info41
  have HH := hide h
  have HN := hide hnd
  have HF := hide hf
  have HN2 := hide hnd2
  have HF2 := hide hf2
  have HS := hide hset
  clear h hnd hf hnd2 hf2 hset hnew
  go_enter Ybad.func7, Ybad.ntmps7
  go_wp2_with (first | (go_at_call 9; refine HFind.out.mono ?_; rintro e w' ⟨rfl, q, rfl⟩) | (at_builtin; refine wpList_append_own_at _ rfl _ _ 23 rfl B 41 i0 _ 2 24 Ybad.underlying23 hi hz0 hz1 hz2 rfl (by decide) (.slice a L.length cp) _ _ rfl ((HPre.out q).facts _) ⟨w.heap.size, 0, none⟩ 1 1 [.string s, .int .i64 m] rfl rfl (two_cells _ _ _) (two_one _ _) (by unfold maxLen; omega) (by omega) (by have := (HPre.out q).le; simp at this ⊢; omega) ?_; intro v' w1 hown' hgrow _ _; obtain ⟨hb1, hown1, htl1, hfr1, hg1, hB1⟩ := (HPre.out q).append hown' hgrow; obtain ⟨a', g', cp', rfl, hrow1⟩ := row_grown hown1; obtain ⟨k0, k1, k2⟩ := box_cells hb1; have HB1 := hide hb1; have HO1 := hide hown1; have HT1 := hide htl1; have HR1 := hide hfr1; have HW1 := hide hrow1; clear hown' hgrow hb1 hown1 htl1 hfr1 hrow1))
  have q0 := (set_cells HB1.out (.slice a' (L.length + 1) cp')).1
  have q1 := (set_cells HB1.out (.slice a' (L.length + 1) cp')).2
  go_region_with (go_at_call 11; refine (call11 HB1.out HO1.out HT1.out HW1.out HR1.out HH.out.lo hg1 hp hB1 hlen HF2.out HN2.out).mono ?_; rintro e w2 ⟨r, rfl, j0, j1, j2, jpost⟩)
  all_goals go_wp2_with fail
  all_goals exact bodyPost_end (v := .tuple #[]) (by simp [results, Ybad.results7, go_sem]) rfl ⟨rfl, by rw [HS.out]; exact jpost⟩
end Go.Proofs.YbulkbtwkDoor
