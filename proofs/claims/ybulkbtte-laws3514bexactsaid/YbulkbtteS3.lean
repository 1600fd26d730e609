/-
  The walks of zzs3514bcopyparams (6) and bytes.Equal (9).
-/
import Derived.Test.YbulkbtteS2
import Derived.Laws.CopyOwn
import Derived.Deep.OwnRows
namespace Go.Proofs.Ybulkbtte
open Go.RowKit

theorem Yba.info9 : (Yba.prog.info? 9).map (fun i => (i.zero, i.size, i.bytes)) = some (some (.string ByteArray.empty), 1, 16) := by kernel_rfl
theorem Yba.info5 : (Yba.prog.info? 5).map (fun i => (i.zero, i.size, i.bytes)) = some (some (.int .u8 0), 1, 1) := by kernel_rfl
theorem Yba.size9 : (Yba.prog.info? 9).map (·.size) = some 1 := by kernel_rfl
theorem Yba.size5 : (Yba.prog.info? 5).map (·.size) = some 1 := by kernel_rfl

def strCells (ss : List ByteArray) : List Value := ss.map .string

theorem splice_all {α : Type} (L cs : List α) (h : L.length = cs.length) : splice L 0 cs = cs := by
  unfold splice; rw [List.take_zero, List.nil_append, List.drop_eq_nil_of_le (by omega), List.append_nil]

/-- 'make' and 'copy' behind it: a new row that holds what the source held. -/
theorem fill_copy (T E ty : TypeId) (z : Value) (n cp : Nat) (a : Option Addr) (b o : Nat) (cs : List Value) (w : World) (hu : Yba.prog.underlying T = some (.slice E)) (hsz : (Yba.prog.info? E).map (·.size) = some 1)
    (hl : cs.length = n) (ha : 0 < n → a = some ⟨b, o, none⟩) (hb : 0 < n → b < w.heap.size) (hc : ∀ i, i < n → w.cell? ⟨b, o + i, none⟩ = cs[i]?) (h1 : ∀ v ∈ cs, v.oneCell' = true) :
    ∃ w2, (Builtin.copy_ #[T, T] ty #[.slice (some ⟨w.heap.size, 0, none⟩) n n, .slice a n cp]).run Yba.prog (w.alloc (.cells (madeCells #[z] n) E)) = .ok (goInt n) w2 ∧
      Below w.heap.size w w2 ∧ w2.heap.size = w.heap.size + 1 ∧ (∀ i, i < n → w2.cell? ⟨w.heap.size, 0 + i, none⟩ = cs[i]?) ∧ (∀ i, w2.frozen? ⟨w.heap.size, i, none⟩ = false) := by
  have hnew : (w.alloc (.cells (madeCells #[z] n) E)).heap[w.heap.size]? = some (.cells (madeCells #[z] n) E (0, 0)) := heap_alloc_new w _
  have hbel : Below w.heap.size w (w.alloc (.cells (madeCells #[z] n) E)) := (Below.refl _ _).alloc (Nat.le_refl _) _
  by_cases h0 : n = 0
  · subst h0
    refine ⟨_, run_copy_none (P := Yba.prog) _ T T ty E _ a 0 0 0 cp hu hsz rfl, hbel, by simp, fun i h => absurd h (Nat.not_lt_zero _), fun i => ?_⟩
    exact World.frozen?_alloc_new w _ _ i
  · obtain rfl := ha (by omega)
    have hbw := hb (by omega)
    have hrun := run_copy_row (P := Yba.prog) (w.alloc (.cells (madeCells #[z] n) E)) T T ty E w.heap.size 0 n n ⟨b, o, none⟩ n cp (madeCells #[z] n) E cs hu hsz hnew (by rw [hl]; exact (Nat.min_self n).symm)
      (fun j v hj => by
        have hjn : j < n := by rw [← hl]; exact (List.getElem?_eq_some_iff.1 hj).1
        rw [Addr.add_lit, (hbel.cell (p := ⟨b, o + j, none⟩) hbw), hc j hjn]; exact hj) (by simp [size_madeCells, hl]) h1
    rw [hl] at hrun
    have hrow : ((madeCells #[z] n).toList.take 0 ++ cs ++ (madeCells #[z] n).toList.drop (0 + n)).toArray = cs.toArray := by
      rw [List.take_zero, List.nil_append, List.drop_eq_nil_of_le (by simp [size_madeCells]), List.append_nil]
    rw [hrow] at hrun
    have hset := setRow_heap (w.alloc (.cells (madeCells #[z] n) E)) w.heap.size (madeCells #[z] n) cs.toArray E (0, 0) hnew
    refine ⟨_, hrun, below_setRow hbel (Nat.le_refl _) _, by simp [World.setRow], fun i hi => ?_, fun i => ?_⟩
    · rw [Nat.zero_add, cell_of_row _ w.heap.size i cs.toArray E (0, 0) hset]; simp
    · simp only [World.frozen?]; rw [hset]; simp

def CopyRes (w : World) (n : Nat) (ss : List ByteArray) (e : Ending) (w' : World) : Prop :=
  ∃ a' cp', e = .returned (.slice a' n cp') ∧ StrsAt w' a' w.heap.size 0 n ss ∧ Below w.heap.size w w' ∧ (0 < n → w.heap.size < w'.heap.size)

theorem strCells_get (ss : List ByteArray) (i : Nat) (hi : i < ss.length) : (strCells ss)[i]? = some (.string (ss[i]?.getD ByteArray.empty)) := by
  simp [strCells, List.getElem?_eq_getElem hi]

set_option maxHeartbeats 400000 in
theorem copy_any (a : Option Addr) (b o n cp : Nat) (ss : List ByteArray) (w : World) (hs : StrsAt w a b o n ss) (hn : n ≤ 1024) (hb : 0 < n → b < w.heap.size) (hnil : a = none → n = 0) :
    Calls Yba.prog 6 #[.slice a n cp] w fun e w' => CopyRes w n ss e w' := by
  have q23 : ∀ (w : World) (a : Option Addr) (n c : Nat), (binOp .eql 23 (.slice a n c) (.slice none 0 0)).run Yba.prog w = .ok (.bool a.isNone) w := fun w a n c => Lib.run_eql_slice_nil w _ _ a n c 0 0 Yba.underlying23
  cases a with
  | none =>
    obtain rfl := hnil rfl
    go_enter Yba.func6, Yba.ntmps6
    go_wp2
    go_ret
    exact ⟨none, 0, rfl, ⟨hs.len, fun h => absurd h (Nat.lt_irrefl _), fun i h => absurd h (Nat.not_lt_zero _)⟩, Below.refl _ _, fun h => absurd h (Nat.lt_irrefl _)⟩
  | some ad =>
    clear hnil
    obtain ⟨i0, hi, hz0, hz1, hz2⟩ := info_parts Yba.info9
    have hex : ∀ ty, _ := fun ty => fill_copy 23 9 ty (.string ByteArray.empty) n cp (some ad) b o (strCells ss) w Yba.underlying23 Yba.size9 (by simp [strCells, hs.len]) hs.addr hb
      (fun i h => by rw [strCells_get ss i (by rw [hs.len]; exact h)]; exact hs.cell i h) (fun v hv => by obtain ⟨_, _, rfl⟩ := List.mem_map.1 hv; rfl)
    obtain ⟨w2, hcp, hbel, hsize, hcell, _⟩ := hex 3
    clear hex
    have HS := hs
    clear hs
    go_enter Yba.func6, Yba.ntmps6
    go_wp2_with (at_make; refine wpList_make_row _ rfl (.tmp 7) (.tmp 7) 23 rfl 9 i0 (.string ByteArray.empty) Yba.underlying23 hi hz0 hz1 rfl .i64 .i64 n rfl rfl (by rw [hz2]; omega) (by omega) ?_)
    go_ret
    exact ⟨some ⟨w.heap.size, 0, none⟩, n, rfl, ⟨HS.len, fun _ => rfl, fun i h => by rw [hcell i h]; exact strCells_get ss i (by rw [HS.len]; exact h)⟩, hbel, fun _ => by omega⟩
end Go.Proofs.Ybulkbtte
