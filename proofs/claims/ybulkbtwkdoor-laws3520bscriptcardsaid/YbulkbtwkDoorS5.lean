/-
  The state of a Savepoints, its frame, and what indexNamed (11) gives behind an append.
-/
import Derived.Test.YbulkbtwkDoorS4
import Derived.Maps.OwnSet
import Derived.Maps.AppendAt
namespace Go.Proofs.YbulkbtwkDoor
open Go.RowKit

/-- What a call may do: rows of savepoints, boxes of Savepoints and maps from B on; new blocks. -/
structure Fr (B : Nat) (w w' : World) : Prop where
  os : w'.os = w.os
  tape : w'.tape = w.tape
  output : w'.output = w.output
  size : w.heap.size ≤ w'.heap.size
  low : ∀ k, k < B → w'.heap[k]? = w.heap[k]?
  kept : ∀ (k : Nat) (cs : Array Value) (T : TypeId) (fz : Nat × Nat), w.heap[k]? = some (Obj.cells cs T fz) → T ≠ 41 → T ≠ 26 → w'.heap[k]? = w.heap[k]?

def Mine (B : Nat) (w : World) (r : Nat) : Prop := B ≤ r ∧ ∀ (cs : Array Value) (T : TypeId) (fz : Nat × Nat), w.heap[r]? = some (Obj.cells cs T fz) → T = 41 ∨ T = 26

theorem lt_of_blk {w : World} {k : Nat} {o : Obj} (h : w.heap[k]? = some o) : k < w.heap.size := (Array.getElem?_eq_some_iff.1 h).1

theorem Fr.refl (B : Nat) (w : World) : Fr B w w := ⟨rfl, rfl, rfl, Nat.le_refl _, fun _ _ => rfl, fun _ _ _ _ _ _ _ => rfl⟩
theorem Fr.trans {B : Nat} {a b c : World} (h : Fr B a b) (k : Fr B b c) : Fr B a c :=
  ⟨k.os.trans h.os, k.tape.trans h.tape, k.output.trans h.output, Nat.le_trans h.size k.size, fun i hi => (k.low i hi).trans (h.low i hi),
   fun i cs T fz hi h1 h2 => (k.kept i cs T fz ((h.kept i cs T fz hi h1 h2).trans hi) h1 h2).trans (h.kept i cs T fz hi h1 h2)⟩
theorem Fr.grown {B : Nat} {a w w' : World} {row : Option Nat} (h : Fr B a w) (hg : w.grownBy w' row) (hB : B ≤ w.heap.size) (hr : ∀ r, row = some r → Mine B w r) : Fr B a w' := by
  refine h.trans ⟨hg.os, hg.tape, hg.output, hg.size, fun k hk => hg.block k (by omega) (fun e => ?_), fun k cs T fz hk h1 h2 => hg.block k (lt_of_blk hk) (fun e => ?_)⟩
  · have := (hr k e.symm).1; omega
  · rcases (hr k e.symm).2 cs T fz hk with e | e
    · exact h1 e
    · exact h2 e

theorem grown_drewN (w : World) (q : Nat) (row : Option Nat) : w.grownBy (w.drewN q) row := ⟨rfl, rfl, rfl, Nat.le_refl _, fun _ _ _ => rfl⟩
theorem grown_drew (w : World) (row : Option Nat) : w.grownBy w.drew row := ⟨rfl, rfl, rfl, Nat.le_refl _, fun _ _ _ => rfl⟩
theorem grown_setCell (w : World) (b i : Nat) (v : Value) : w.grownBy (w.setCell ⟨b, i, none⟩ v) (some b) := ⟨rfl, rfl, rfl, by simp, fun k _ hk => heap_setCell_other w _ k v (fun e => hk (by rw [e]))⟩
theorem mine_cells {B : Nat} {w : World} {r : Nat} {cs : Array Value} {T : TypeId} {fz : Nat × Nat} (hB : B ≤ r) (h : w.heap[r]? = some (.cells cs T fz)) (hT : T = 41 ∨ T = 26) : Mine B w r := ⟨hB, fun cs' T' fz' h' => by
  rw [h] at h'; cases h'; exact hT⟩
theorem OwnM.blk {w : World} {mb n : Nat} {D : DataW Unit} (h : OwnM w mb n D) : ∃ es c, w.heap[mb]? = some (.map es c) := by
  obtain ⟨es, clock, hb, _⟩ := h; exact ⟨es, clock, hb⟩
theorem OwnM.mine {w : World} {B mb n : Nat} {D : DataW Unit} (h : OwnM w mb n D) (hB : B ≤ mb) : Mine B w mb := by
  obtain ⟨es, c, hb⟩ := h.blk
  exact ⟨hB, fun cs' T' fz' h' => by rw [hb] at h'; cases h'⟩
theorem OwnM.shrink {w : World} {mb n m : Nat} {D : DataW Unit} (h : OwnM w mb n D) (hs : Maps.size D = m) : OwnM w mb m D := by
  obtain ⟨es, clock, hb, F, hn, rfl⟩ := h
  refine ⟨es, clock, hb, F, ?_, rfl⟩
  rw [← hs]
  simp [Maps.size, DataW.length_sorted]
theorem row_mine {w : World} {B n : Nat} {v : Value} {xs : List Value} (h : w.ownsRow B 41 2 v n xs) : ∀ r, v.ownBlock = some r → Mine B w r := fun r hr => by
  rcases h.2 with ⟨rfl, _⟩ | ⟨g, cap, cur, rfl, hB, hg, _⟩
  · cases hr
  · cases hr; exact mine_cells hB hg (.inl rfl)
/-- A row's block is no box and no map. -/
theorem row_ne {w : World} {B n : Nat} {E : TypeId} {v : Value} {xs : List Value} (h : w.ownsRow B E 2 v n xs) {r : Nat} {o : Obj} (hr : w.heap[r]? = some o) (ho : ∀ cs, o ≠ .cells cs E (0, 0)) : v.ownBlock ≠ some r := fun e => by
  rcases h.2 with ⟨rfl, _⟩ | ⟨g, cap, cur, rfl, hB, hg, _⟩
  · cases e
  · cases e; simp only [hr, Option.some.injEq] at hg; exact ho cur hg

/-- The receiver, its list, its index. -/
structure Sv (w : World) (B sb : Nat) (lv mv : Value) (L : Sps) : Prop where
  box : w.heap[sb]? = some (.cells #[lv, mv] 26 (0, 0))
  lo : B ≤ sb
  row : w.ownsRow B 41 2 lv L.length (cellsL L)
  map : MapOk w B mv L

theorem MapOk.kept {w w' : World} {B : Nat} {mv : Value} {L : Sps} {row : Option Nat} (h : MapOk w B mv L) (hg : w.grownBy w' row) (hr : ∀ r, row = some r → ∃ cs T fz, w.heap[r]? = some (.cells cs T fz)) : MapOk w' B mv L := by
  rcases h with h | ⟨mb, D, e, hB, ho, hD⟩
  · exact .inl h
  · refine .inr ⟨mb, D, e, hB, ho.kept hg (fun e => ?_), hD⟩
    obtain ⟨es, c, hb⟩ := ho.blk
    obtain ⟨cs, T, fz, h2⟩ := hr mb e.symm
    rw [hb] at h2; cases h2
theorem Sv.kept {w w' : World} {B sb : Nat} {lv mv : Value} {L : Sps} {row : Option Nat} (h : Sv w B sb lv mv L) (hg : w.grownBy w' row) (hr : ∀ r, row = some r → ∃ cs T fz, w.heap[r]? = some (.cells cs T fz) ∧ T ≠ 41 ∧ T ≠ 26) : Sv w' B sb lv mv L := by
  refine ⟨(hg.block sb (lt_of_blk h.box) (fun e => ?_)).trans h.box, h.lo, h.row.kept hg ?_, h.map.kept hg (fun r e => ?_)⟩
  · obtain ⟨cs, T, fz, h1, _, h2⟩ := hr sb e.symm
    rw [h.box] at h1; cases h1; exact h2 rfl
  · rcases h.row.2 with ⟨e2, _⟩ | ⟨g, cap, cur, e2, _, hgb, _⟩
    · exact .inl (by rw [e2]; rfl)
    · refine .inr fun e => ?_
      rw [e2] at e
      obtain ⟨cs, T, fz, h1, h2, _⟩ := hr g e.symm
      rw [hgb] at h1; cases h1; exact h2 rfl
  · obtain ⟨cs, T, fz, h1, _⟩ := hr r e; exact ⟨_, _, _, h1⟩
theorem Sv.c0 {w : World} {B sb : Nat} {lv mv : Value} {L : Sps} (h : Sv w B sb lv mv L) : w.cell? ⟨sb, 0, none⟩ = some lv := by rw [cell_of_row w sb _ _ 26 (0, 0) h.box]; rfl
theorem Sv.c1 {w : World} {B sb : Nat} {lv mv : Value} {L : Sps} (h : Sv w B sb lv mv L) : w.cell? ⟨sb, 1, none⟩ = some mv := by rw [cell_of_row w sb _ _ 26 (0, 0) h.box]; rfl

/-- What the index must be ahead of indexNamed. -/
def TailOk (w : World) (B : Nat) (mv : Value) (L : Sps) (s : ByteArray) (m : Int) : Prop :=
  mv = .map none ∨ ∃ mb k D, mv = .map (some mb) ∧ B ≤ mb ∧ OwnM w mb k D ∧ k ≤ 4096 ∧ Ix (D.put (key s) (at64 L.length)) (L ++ [(s, m)])

def MapBlk (B : Nat) (w : World) (r : Nat) : Prop := B ≤ r ∧ ∃ es c, w.heap[r]? = some (Obj.map es c)
theorem MapBlk.mine {B : Nat} {w : World} {r : Nat} (h : MapBlk B w r) : Mine B w r := ⟨h.1, fun cs' T' fz' h' => by
  obtain ⟨es, c, hb⟩ := h.2
  rw [hb] at h'; cases h'⟩
def IxnPost (w : World) (B : Nat) (L : Sps) (e : Ending) (w' : World) : Prop :=
  ∃ mv', e = .returned mv' ∧ MapOk w' B mv' L ∧ ∃ row, w.grownBy w' row ∧ ∀ r, row = some r → MapBlk B w r

theorem nmA_snoc (L : Sps) (s : ByteArray) (m : Int) : nmA (L ++ [(s, m)]) L.length = s := by unfold nmA; simp

theorem ixn_any (B : Nat) (a : Option Addr) (g cp : Nat) (mv : Value) (L : Sps) (s : ByteArray) (m : Int) (w : World) (h : RowAt w a g (L ++ [(s, m)])) (hm : TailOk w B mv L s m) (hlen : L.length ≤ 1024)
    (hf : Fits (L ++ [(s, m)])) (hnd : Nd (L ++ [(s, m)])) (hg : w.cell? ⟨0, 0, none⟩ = some (.int .i64 8)) (hB : B ≤ w.heap.size) :
    Calls Ybad.prog 11 #[.slice a (L.length + 1) cp, mv, .func (.func 12) #[] #[]] w fun e w' => IxnPost w B (L ++ [(s, m)]) e w' := by
  have hl : (L ++ [(s, m)]).length = L.length + 1 := by simp
  rcases hm with rfl | ⟨mb, k, D, rfl, hBm, ho, hk, hD⟩
  · by_cases h8 : L.length + 1 ≤ 8
    · refine (ixn_small a (L.length + 1) cp w h8 hg).mono ?_
      rintro e w' ⟨rfl, rfl⟩
      exact ⟨_, rfl, .inl rfl, none, ⟨rfl, rfl, rfl, Nat.le_refl _, fun _ _ _ => rfl⟩, fun r hr => by cases hr⟩
    · refine (ixn_big a g (L.length + 1) cp (L ++ [(s, m)]) w h hl.symm (by omega) (by omega) hf hnd hg).mono ?_
      rintro e w' ⟨D, rfl, ho, hD, hb⟩
      exact ⟨_, rfl, .inr ⟨_, D, rfl, hB, ho, hD⟩, none, ⟨hb.os, hb.tape, hb.output, hb.size, fun k hk _ => hb.block k hk⟩, fun r hr => by cases hr⟩
  · refine (ixn_map a g L.length cp mb k (L ++ [(s, m)]) D w h hl hlen ho hk hf).mono ?_
    rintro e w' ⟨rfl, ho', hgr⟩
    rw [nmA_snoc] at ho'
    exact ⟨_, rfl, .inr ⟨mb, _, rfl, hBm, OwnM.shrink ho' hD.size, hD⟩, some mb, hgr, fun r hr => by cases hr; exact ⟨hBm, ho.blk⟩⟩

theorem TailOk.kept {w w' : World} {B : Nat} {mv : Value} {L : Sps} {s : ByteArray} {m : Int} {row : Option Nat} (h : TailOk w B mv L s m) (hg : w.grownBy w' row) (hr : ∀ r, row = some r → ∃ cs T fz, w.heap[r]? = some (.cells cs T fz)) : TailOk w' B mv L s m := by
  rcases h with h | ⟨mb, k, D, e, hB, ho, hk, hD⟩
  · exact .inl h
  · refine .inr ⟨mb, k, D, e, hB, ho.kept hg (fun e => ?_), hk, hD⟩
    obtain ⟨es, c, hb⟩ := ho.blk
    obtain ⟨cs, T, fz, h2⟩ := hr mb e.symm
    rw [hb] at h2; cases h2

/-- Ahead of Set's append. -/
structure Pre (w0 w : World) (B sb : Nat) (lv mv : Value) (L : Sps) (s : ByteArray) (m : Int) : Prop where
  box : w.heap[sb]? = some (.cells #[lv, mv] 26 (0, 0))
  lo : B ≤ sb
  pos : 0 < B
  row : w.ownsRow B 41 2 lv L.length (cellsL L)
  tail : TailOk w B mv L s m
  fr : Fr B w0 w
  g0 : w.cell? ⟨0, 0, none⟩ = some (.int .i64 8)

theorem Pre.le {w0 w : World} {B sb : Nat} {lv mv : Value} {L : Sps} {s : ByteArray} {m : Int} (h : Pre w0 w B sb lv mv L s m) : B ≤ w.heap.size := Nat.le_of_lt (Nat.lt_of_le_of_lt h.lo (lt_of_blk h.box))
theorem own_cells {w : World} {B n : Nat} {E : TypeId} {v : Value} {xs : List Value} (h : w.ownsRow B E 2 v n xs) : ∀ r, v.ownBlock = some r → ∃ cs, w.heap[r]? = some (Obj.cells cs E (0, 0)) := fun r hr => by
  rcases h.2 with ⟨rfl, _⟩ | ⟨g, cap, cur, rfl, hB, hg, _⟩
  · cases hr
  · cases hr; exact ⟨_, hg⟩

theorem Pre.append {w0 w w1 : World} {B sb : Nat} {lv mv v' : Value} {L : Sps} {s : ByteArray} {m : Int} {o : Obj} (h : Pre w0 w B sb lv mv L s m) (hown : w1.ownsRow B 41 2 v' (L.length + 1) (cellsL L ++ [.string s, .int .i64 m])) (hgrow : (w.alloc o).grownBy w1 lv.ownBlock) :
    w1.heap[sb]? = some (.cells #[lv, mv] 26 (0, 0)) ∧ w1.ownsRow B 41 2 v' (L.length + 1) (cellsL (L ++ [(s, m)])) ∧ TailOk w1 B mv L s m ∧ Fr B w0 w1 ∧ w1.cell? ⟨0, 0, none⟩ = some (.int .i64 8) ∧ B ≤ w1.heap.size := by
  have hsb := lt_of_blk h.box
  have row2 : (w.alloc o).ownsRow B 41 2 lv L.length (cellsL L) := h.row.kept (World.grownBy_alloc w o none) (by
    rcases h.row.2 with ⟨e2, _⟩ | ⟨g, cap, cur, e2, _⟩
    · exact .inl (by rw [e2]; rfl)
    · exact .inr (by rw [e2]; simp [Value.ownBlock]))
  have box2 : (w.alloc o).heap[sb]? = some (.cells #[lv, mv] 26 (0, 0)) := (Below.heap_alloc w o sb hsb).trans h.box
  have fr1 : Fr B w0 w1 := ((h.fr.grown (World.grownBy_alloc w o none) h.le (fun r e => by cases e)).grown hgrow (Nat.le_trans h.le (World.grownBy_alloc w o none).size) (row_mine row2))
  refine ⟨?_, ?_, ?_, fr1, ?_, ?_⟩
  · exact (hgrow.block sb (lt_of_blk box2) (fun e => row_ne row2 box2 (fun cs e => by cases e) e.symm)).trans box2
  · rw [cellsL_append]; exact hown
  · exact (h.tail.kept (World.grownBy_alloc w o none) (fun r e => by cases e)).kept hgrow (fun r e => by obtain ⟨cs, hc⟩ := own_cells row2 r e; exact ⟨_, _, _, hc⟩)
  · have hp := h.pos
    have hlo := h.lo
    rw [← h.g0]
    refine World.cell?_of_block ?_
    exact (fr1.low 0 hp).trans (h.fr.low 0 hp).symm
  · exact Nat.le_trans (Nat.le_trans h.le (World.grownBy_alloc w o none).size) hgrow.size

def SetPost (w : World) (B sb : Nat) (L : Sps) (w' : World) : Prop := (∃ lv' mv', Sv w' B sb lv' mv' L) ∧ Fr B w w'

theorem set_fin {w0 w1 w2 : World} {B sb n : Nat} {lv mv v' mv' : Value} {L : Sps} {row : Option Nat} (box : w1.heap[sb]? = some (.cells #[lv, mv] 26 (0, 0))) (hn : n = L.length) (own : w1.ownsRow B 41 2 v' n (cellsL L)) (lo : B ≤ sb) (fr : Fr B w0 w1) (hB : B ≤ w1.heap.size)
    (hmap : MapOk w2 B mv' L) (hg : ((w1.setCell ⟨sb, 0, none⟩ v').drew).grownBy w2 row) (hrow : ∀ r, row = some r → MapBlk B ((w1.setCell ⟨sb, 0, none⟩ v').drew) r) :
    w2.cell? ⟨sb, 0, none⟩ = some v' ∧ w2.cell? ⟨sb, 1, none⟩ = some mv ∧ w2.frozen? ⟨sb, 1, none⟩ = false ∧ SetPost w0 B sb L (w2.setCell ⟨sb, 1, none⟩ mv') := by
  subst hn
  have box2 : ((w1.setCell ⟨sb, 0, none⟩ v').drew).heap[sb]? = some (.cells #[v', mv] 26 (0, 0)) := by
    have := heap_setCell_same w1 sb 0 #[lv, mv] 26 v' box
    simp at this
    exact this
  have nsb : some sb ≠ row := fun e => by
    obtain ⟨_, es, c, hb⟩ := hrow sb e.symm
    rw [box2] at hb; cases hb
  have own2 : ((w1.setCell ⟨sb, 0, none⟩ v').drew).ownsRow B 41 2 v' L.length (cellsL L) := own.kept (row := some sb) ⟨rfl, rfl, rfl, by simp, (grown_setCell w1 sb 0 v').block⟩ (by
    rcases own.2 with ⟨e2, _⟩ | ⟨g, cap, cur, e2, _⟩
    · exact .inl (by rw [e2]; rfl)
    · exact .inr (row_ne own box (fun cs e => by cases e)))
  have box3 : w2.heap[sb]? = some (.cells #[v', mv] 26 (0, 0)) := (hg.block sb (lt_of_blk box2) nsb).trans box2
  have own3 : w2.ownsRow B 41 2 v' L.length (cellsL L) := own2.kept hg (by
    rcases own2.2 with ⟨e2, _⟩ | ⟨g, cap, cur, e2, _, hgb, _⟩
    · exact .inl (by rw [e2]; rfl)
    · refine .inr fun e => ?_
      rw [e2] at e
      obtain ⟨_, es, c, hb⟩ := hrow g e.symm
      rw [hgb] at hb; cases hb)
  have box4 : (w2.setCell ⟨sb, 1, none⟩ mv').heap[sb]? = some (.cells #[v', mv'] 26 (0, 0)) := by
    have := heap_setCell_same w2 sb 1 #[v', mv] 26 mv' box3
    simpa using this
  have fr2 : Fr B w0 w2 := ((fr.grown (grown_setCell w1 sb 0 v') hB (fun r e => by cases e; exact mine_cells lo box (.inr rfl))).grown (grown_drew _ none) (by simpa using hB) (fun r e => by cases e)).grown hg (by simpa using hB) (fun r e => (hrow r e).mine)
  refine ⟨by rw [cell_of_row w2 sb _ _ 26 (0, 0) box3]; rfl, by rw [cell_of_row w2 sb _ _ 26 (0, 0) box3]; rfl, ?_, ⟨_, _, box4, lo, own3.kept (grown_setCell w2 sb 1 mv') ?_, ?_⟩, ?_⟩
  · simp [World.frozen?, box3]
  · rcases own3.2 with ⟨e2, _⟩ | ⟨g, cap, cur, e2, _⟩
    · exact .inl (by rw [e2]; rfl)
    · exact .inr (row_ne own3 box3 (fun cs e => by cases e))
  · exact hmap.kept (grown_setCell w2 sb 1 mv') (fun r e => by cases e; exact ⟨_, _, _, box3⟩)
  · exact fr2.grown (grown_setCell w2 sb 1 mv') (by have := hg.size; simp at this; omega) (fun r e => by cases e; exact mine_cells lo box3 (.inr rfl))
end Go.Proofs.YbulkbtwkDoor
