/-
  The walk of zzs3520bname (4).
-/
import Derived.Test.YbulkbtwkDoorS8
namespace Go.Proofs.YbulkbtwkDoor
open Go.RowKit

def NamePost (w : World) (e : Ending) (w' : World) : Prop := ∃ s cs, e = .returned (.string s) ∧ s.size ≤ maxLen ∧ w' = w.alloc (.cells cs 5 (0, 0))

set_option maxHeartbeats 800000 in
theorem name_any (k : Nat) (hk : k < 256) (w : World) : Calls Ybad.prog 4 #[.int .u8 (k : Int)] w fun e w' => NamePost w e w' := by
  have hcv : ∀ x y : Int, (convert 40 9 (.slice (some ⟨w.heap.size, 0, none⟩) 2 2)).run Ybad.prog (w.alloc (.cells #[.int .u8 x, .int .u8 y] 5 (0, 0))) = .ok (.string (strOfNums [x, y])) (w.alloc (.cells #[.int .u8 x, .int .u8 y] 5 (0, 0))) := fun x y =>
    run_convert_bytes_arg _ 40 5 Ybad.underlying40 Ybad.underlying5 w.heap.size 0 2 2 [x, y] rfl (fun i hi => by
      rw [World.cell?_alloc_new]
      match i, hi with
      | 0, _ => rfl
      | 1, _ => rfl) 9 Ybad.underlying9
  go_enter Ybad.func4, Ybad.ntmps4
  go_wp2
  go_ret
  refine ⟨_, _, rfl, ?_, rfl⟩
  rw [strOfNums_size]
  simp [maxLen]

/-- The law's loop: the receiver and the model hold the same list. -/
structure Inv (W0 w : World) (B sb : Nat) (md : Value) (L : Sps) (n : Nat) : Prop where
  sv : ∃ lv mv, Sv w B sb lv mv L
  model : w.ownsRow B 35 2 md L.length (cellsL L)
  nd : Nd L
  fits : Fits L
  len : L.length ≤ n
  bel : Below B W0 w
  pos : 0 < B
  g0 : w.cell? ⟨0, 0, none⟩ = some (.int .i64 8)

theorem Inv.le {W0 w : World} {B sb n : Nat} {md : Value} {L : Sps} (h : Inv W0 w B sb md L n) : B ≤ w.heap.size := by
  obtain ⟨lv, mv, hs⟩ := h.sv
  exact Nat.le_of_lt (Nat.lt_of_le_of_lt hs.lo (lt_of_blk hs.box))

theorem Inv.g0_of {W0 w w' : World} {B sb n : Nat} {md : Value} {L : Sps} (h : Inv W0 w B sb md L n) (hb : Below B w w') : w'.cell? ⟨0, 0, none⟩ = some (.int .i64 8) := (hb.cell h.pos).trans h.g0
theorem Fr.below {B : Nat} {w w' : World} (h : Fr B w w') : Below B w w' := ⟨h.os, h.tape, h.output, h.size, h.low⟩
theorem kept_none {w w' : World} {B n : Nat} {E : TypeId} {v : Value} {xs : List Value} (h : w.ownsRow B E 2 v n xs) (hg : w.grownBy w' none) : w'.ownsRow B E 2 v n xs := h.kept hg (by
  rcases h.2 with ⟨e2, _⟩ | ⟨g, cap, cur, e2, _⟩
  · exact .inl (by rw [e2]; rfl)
  · exact .inr (by rw [e2]; simp [Value.ownBlock]))
theorem Inv.quiet {W0 w w' : World} {B sb n : Nat} {md : Value} {L : Sps} (h : Inv W0 w B sb md L n) (hg : w.grownBy w' none) : Inv W0 w' B sb md L n := by
  obtain ⟨lv, mv, hs⟩ := h.sv
  have hb : Below B w w' := (Below.refl B w).grown hg h.le (fun k e => by cases e)
  exact ⟨⟨lv, mv, hs.kept hg (fun r e => by cases e)⟩, kept_none h.model hg, h.nd, h.fits, h.len, h.bel.trans hb, h.pos, h.g0_of hb⟩

theorem kept_fr {w w' : World} {B n : Nat} {v : Value} {xs : List Value} (h : w.ownsRow B 35 2 v n xs) (hf : Fr B w w') : w'.ownsRow B 35 2 v n xs := by
  refine ⟨h.1, ?_⟩
  rcases h.2 with h2 | ⟨g, cap, cur, e2, hB, hg, h3⟩
  · exact .inl h2
  · exact .inr ⟨g, cap, cur, e2, hB, (hf.kept g cur 35 (0, 0) hg (by decide) (by decide)).trans hg, h3⟩

/-- Behind a RollBack that found, or a Set: the receiver's list has turned, the model's not yet. -/
structure Half (W0 w : World) (B sb : Nat) (md : Value) (L L' : Sps) (n : Nat) : Prop where
  sv : ∃ lv mv, Sv w B sb lv mv L'
  model : w.ownsRow B 35 2 md L.length (cellsL L)
  nd : Nd L'
  fits : Fits L'
  len : L'.length ≤ n + 1
  bel : Below B W0 w
  pos : 0 < B
  g0 : w.cell? ⟨0, 0, none⟩ = some (.int .i64 8)

theorem Inv.half {W0 w w' : World} {B sb n : Nat} {md : Value} {L L' : Sps} (h : Inv W0 w B sb md L n) (hp : SetPost w B sb L' w') (nd : Nd L') (fits : Fits L') (len : L'.length ≤ n + 1) : Half W0 w' B sb md L L' n := by
  obtain ⟨⟨lv, mv, hs⟩, hf⟩ := hp
  exact ⟨⟨lv, mv, hs⟩, kept_fr h.model hf, nd, fits, len, h.bel.trans hf.below, h.pos, h.g0_of hf.below⟩

theorem Half.le {W0 w : World} {B sb n : Nat} {md : Value} {L L' : Sps} (h : Half W0 w B sb md L L' n) : B ≤ w.heap.size := by
  obtain ⟨lv, mv, hs⟩ := h.sv
  exact Nat.le_of_lt (Nat.lt_of_le_of_lt hs.lo (lt_of_blk hs.box))
theorem Half.quiet {W0 w w' : World} {B sb n : Nat} {md : Value} {L L' : Sps} (h : Half W0 w B sb md L L' n) (hg : w.grownBy w' none) : Half W0 w' B sb md L L' n := by
  obtain ⟨lv, mv, hs⟩ := h.sv
  have hb : Below B w w' := (Below.refl B w).grown hg h.le (fun k e => by cases e)
  exact ⟨⟨lv, mv, hs.kept hg (fun r e => by cases e)⟩, kept_none h.model hg, h.nd, h.fits, h.len, h.bel.trans hb, h.pos, (hb.cell h.pos).trans h.g0⟩
/-- Behind an append onto another row of the model's type: the receiver stays. -/
theorem Half.turn {W0 w w' : World} {B sb n m : Nat} {md v v' : Value} {L L' L2 : Sps} {xs : List Value} (h : Half W0 w B sb md L L' n) (hv : w.ownsRow B 35 2 v m xs) (hg : w.grownBy w' v.ownBlock) (hv' : w'.ownsRow B 35 2 v' L2.length (cellsL L2)) : Half W0 w' B sb v' L2 L' n := by
  obtain ⟨lv, mv, hs⟩ := h.sv
  have hr : ∀ r, v.ownBlock = some r → ∃ cs T fz, w.heap[r]? = some (Obj.cells cs T fz) ∧ T ≠ 41 ∧ T ≠ 26 := fun r e => by
    obtain ⟨cs, hc⟩ := own_cells hv r e
    exact ⟨cs, 35, (0, 0), hc, by decide, by decide⟩
  have hb : Below B w w' := (Below.refl B w).grown hg h.le (fun k e => by
    rcases hv.2 with ⟨e2, _⟩ | ⟨g, cap, cur, e2, hB, _⟩
    · rw [e2] at e; cases e
    · rw [e2] at e; cases e; exact hB)
  exact ⟨⟨lv, mv, hs.kept hg hr⟩, hv', h.nd, h.fits, h.len, h.bel.trans hb, h.pos, (hb.cell h.pos).trans h.g0⟩
theorem Half.closes {W0 w : World} {B sb n : Nat} {md : Value} {L : Sps} (h : Half W0 w B sb md L L n) : Inv W0 w B sb md L (n + 1) := ⟨h.sv, h.model, h.nd, h.fits, h.len, h.bel, h.pos, h.g0⟩

theorem same_inv {W0 w : World} {B sb n N cp : Nat} {a : Option Addr} {L : Sps} (h : Inv W0 w B sb (.slice a N cp) L n) (hn : n ≤ 1024) : Calls Ybad.prog 8 #[.pointer (some ⟨sb, 0, none⟩), .slice a N cp] w fun e w' => e = .returned (.bool true) ∧ ∃ q, w' = w.drewN q := by
  obtain ⟨lv, mv, hs⟩ := h.sv
  obtain ⟨a1, g1, cp1, rfl, hr1⟩ := row_at hs.row rfl
  obtain ⟨a2, g2, cp2, e2, hr2⟩ := row_at h.model rfl
  simp only [Value.slice.injEq] at e2
  obtain ⟨rfl, rfl, rfl⟩ := e2
  have := h.len
  exact same_any sb B a1 a g1 g2 L.length cp1 cp mv L w hs.c0 hs.c1 hr1 hr2 hs.map rfl (by omega) h.nd h.fits

/-- The model, cut. -/
theorem take_row {w : World} {B N cp i : Nat} {a : Option Addr} {L : Sps} (h : w.ownsRow B 35 2 (.slice a N cp) L.length (cellsL L)) (hi : i < L.length) : w.ownsRow B 35 2 (.slice a (i + 1) cp) (L.take (i + 1)).length (cellsL (L.take (i + 1))) := by
  have hlen : (L.take (i + 1)).length = i + 1 := by simp; omega
  rcases h.2 with ⟨_, h0⟩ | ⟨g, cap, cur, e2, hB, hg, hle, hmax, hcs, htk⟩
  · omega
  · cases e2
    rw [hlen]
    refine ⟨by rw [cellsL_length, hlen], .inr ⟨g, cp, cur, rfl, hB, hg, by omega, hmax, hcs, ?_⟩⟩
    rw [cellsL_take, ← htk, List.take_take, Nat.min_eq_left (by omega)]

theorem rb_any (B sb : Nat) (lv mv : Value) (L : Sps) (s : ByteArray) (w : World) (h : Sv w B sb lv mv L) (hp : 0 < B) (g0 : w.cell? ⟨0, 0, none⟩ = some (.int .i64 8)) (hlen : L.length ≤ 1024) (hnd : Nd L) (hf : Fits L)
    (hs : s.size ≤ maxLen) (i : Nat) (hold : ix L s = some i) :
    Calls Ybad.prog 6 #[.pointer (some ⟨sb, 0, none⟩), .string s] w fun e w' => RbSome w B sb (L.take (i + 1)) (mkA L i) e w' := by
  obtain ⟨r, rfl⟩ := h.isMap
  have hr : rollL L s = L.take (i + 1) := by unfold rollL; rw [hold]
  have := rb_some B sb i lv r L s w h hp g0 hlen hnd hf hs hold hr
  rw [hr] at this
  exact this
end Go.Proofs.YbulkbtwkDoor
