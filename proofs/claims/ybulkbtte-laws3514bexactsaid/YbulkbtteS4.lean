/-
  A slice of bytes with no room to spare, appended to many times: the bytes that were appended so far, as one string ('Up'); two laws for the walk (a string's bytes; one byte). And the walk of (Message).AppendText (7).
-/
import Derived.Test.YbulkbtteS3
namespace Go.Proofs.Ybulkbtte
open Go.RowKit

/-- As 'Below', but without a word on the tape. -/
structure Old (B : Nat) (w w' : World) : Prop where
  os : w'.os = w.os
  output : w'.output = w.output
  size : w.heap.size ≤ w'.heap.size
  block : ∀ k, k < B → w'.heap[k]? = w.heap[k]?

theorem Old.of_below {B : Nat} {w w' : World} (h : Below B w w') : Old B w w' := ⟨h.os, h.output, h.size, h.block⟩
theorem Old.trans {B : Nat} {a b c : World} (h : Old B a b) (k : Old B b c) : Old B a c := ⟨k.os.trans h.os, k.output.trans h.output, Nat.le_trans h.size k.size, fun i hi => (k.block i hi).trans (h.block i hi)⟩
theorem Old.mono {B B' : Nat} {w w' : World} (h : Old B w w') (hB : B' ≤ B) : Old B' w w' := ⟨h.os, h.output, h.size, fun k hk => h.block k (Nat.lt_of_lt_of_le hk hB)⟩
theorem Old.cell {B : Nat} {w w' : World} (h : Old B w w') {p : Addr} (hp : p.block < B) : w'.cell? p = w.cell? p := World.cell?_of_block (w := w) (h.block p.block hp)
theorem Old.frame {W w' : World} (h : Old W.heap.size W w') (may : MemPlace → Prop) : W.keptBut w' may := by
  refine ⟨h.os, h.output, fun i hi => ?_⟩
  rw [h.block i hi]
  split <;> simp_all
theorem Old.same {W w' : World} (h : Old W.heap.size W w') {p : MemPlace} (hp : p.block < W.heap.size) : W.sameAt w' p := by
  cases p with
  | cell b o => exact World.cell?_of_block (w := W) (h.block b hp)
  | map b => exact h.block b hp

theorem byteCells_append (s t : ByteArray) : byteCells (s ++ t) = byteCells s ++ byteCells t := by
  simp [byteCells, ByteArray.data_append]
theorem byteCells_one (k : UInt8) : byteCells ⟨#[k]⟩ = [.int .u8 k.toNat] := rfl

/-- 'acc' has been appended to the slice of 'len' bytes 'olds' that had no room to spare. -/
def Up (W : World) (ao : Option Addr) (b off len : Nat) (olds : List Value) (w : World) (v : Value) (acc : ByteArray) : Prop :=
  ∃ r, Upon W 5 1 ao b off len len olds w v acc.size (byteCells acc) r

section
variable {W : World} {ao : Option Addr} {b off len : Nat} {olds : List Value} {w : World} {v : Value} {acc : ByteArray}

theorem Up.start (hc : Came W 1 ao b off len len olds) : Up W ao b off len olds W (.slice ao len len) ByteArray.empty :=
  ⟨0, by simpa [byteCells] using Upon.start (e := 5) hc⟩

theorem Up.old (h : Up W ao b off len olds w v acc) : Old W.heap.size W w := by
  obtain ⟨r, h⟩ := h
  have hr : r = 0 := by have := h.rFit; omega
  subst hr
  refine ⟨h.kept.1, h.kept.2.1, h.kept.size, fun k hk => h.kept.block hk (fun _ ⟨j, hj, _⟩ => absurd hj (Nat.not_lt_zero _))⟩

theorem Up.alloc (h : Up W ao b off len olds w v acc) (hc : Came W 1 ao b off len len olds) (o : Obj) : Up W ao b off len olds (w.alloc o) v acc := by
  obtain ⟨r, h⟩ := h
  exact ⟨r, h.alloc hc o⟩

theorem Up.shape (h : Up W ao b off len olds w v acc) : ∃ a' c', v = .slice a' (len + acc.size) c' := by
  obtain ⟨r, h⟩ := h
  exact h.shape

/-- The law: a string's bytes are appended. -/
theorem wpList_up_str {ops : Array Oper} {rest : List Oper} {o : Oper} {a : Act} {Q : Exit → Act → World → Prop} (hgd : o.guard = none) (s x : Operand)
    (ho : o.op = .call { callee := .builtin .append, args := #[s, x], argTypes := #[22, 9] }) (hc : Came W 1 ao b off len len olds) (t : ByteArray)
    (hv : a.eval s = v) (h : Up W ao b off len olds w v acc) (hx : a.eval x = .string t) (hB : len + acc.size + t.size ≤ 140737488355328)
    (hK : ∀ v' w', Up W ao b off len olds w' v' (acc ++ t) → wpList Yba.prog ops Q rest (a.put o.dst v') w') : wpList Yba.prog ops Q (o :: rest) a w := by
  obtain ⟨i0, hi, hz0, hz1, hz2⟩ := info_parts Yba.info5
  obtain ⟨r, h⟩ := h
  refine wpList_append_upon w hgd s x 22 9 ho hc i0 (.int .u8 0) 1 Yba.underlying22 hi hz0 hz1 hz2 rfl hv h (.string t) t.size (byteCells t) hx (Src.ofString _ Yba.underlying9 _) (by unfold maxLen; omega) (by omega) ?_
  intro v' w' h'
  have e1 : byteCells (acc ++ t) = byteCells acc ++ byteCells t := byteCells_append _ _
  have e2 : (acc ++ t).size = acc.size + t.size := ByteArray.size_append
  exact hK v' w' (Exists.intro _ (by rw [e1, e2]; exact h'))

/-- The law: one byte is appended. -/
theorem wpList_up_byte {ops : Array Oper} {rest : List Oper} {o : Oper} {a : Act} {Q : Exit → Act → World → Prop} (hgd : o.guard = none) (s x : Operand)
    (ho : o.op = .call { callee := .builtin .append, args := #[s, x], argTypes := #[22, 22] }) (hc : Came W 1 ao b off len len olds) (k : UInt8) (ad : Addr) (c : Nat)
    (hv : a.eval s = v) (h : Up W ao b off len olds w v acc) (hx : a.eval x = .slice (some ad) 1 c) (hcell : w.cell? ad = some (.int .u8 k.toNat)) (hB : len + acc.size + 1 ≤ 140737488355328)
    (hK : ∀ v' w', Up W ao b off len olds w' v' (acc ++ ⟨#[k]⟩) → wpList Yba.prog ops Q rest (a.put o.dst v') w') : wpList Yba.prog ops Q (o :: rest) a w := by
  obtain ⟨i0, hi, hz0, hz1, hz2⟩ := info_parts Yba.info5
  obtain ⟨r, h⟩ := h
  have hsrc : Src Yba.prog 1 22 (.slice (some ad) 1 c) 1 [.int .u8 k.toNat] w := by
    refine Src.ofSlice w Yba.underlying22 ad 1 c _ rfl (fun j u hu => ?_) (fun u hu => by simp at hu; subst hu; rfl)
    match j, hu with
    | 0, hu => simp at hu; subst hu; simpa [Addr.add] using hcell
  refine wpList_append_upon w hgd s x 22 22 ho hc i0 (.int .u8 0) 1 Yba.underlying22 hi hz0 hz1 hz2 rfl hv h _ 1 [.int .u8 k.toNat] hx hsrc (by unfold maxLen; omega) (by omega) ?_
  intro v' w' h'
  have e1 : byteCells (acc ++ ⟨#[k]⟩) = byteCells acc ++ [.int .u8 k.toNat] := byteCells_append _ _
  have e2 : (acc ++ ⟨#[k]⟩ : ByteArray).size = acc.size + 1 := ByteArray.size_append
  exact hK v' w' (Exists.intro _ (by rw [e1, e2]; exact h'))
end

theorem came_alloc {W : World} {ao : Option Addr} {b off len : Nat} {olds : List Value} (hc : Came W 1 ao b off len len olds) (o : Obj) : Came (W.alloc o) 1 ao b off len len olds := by
  refine ⟨hc.le, hc.addr, fun h => by have := hc.lt h; simp; omega, hc.oldsLen, fun j u hu => ?_, fun j hj => by omega⟩
  have h0 := hc.olds j u hu
  exact (World.cell?_of_block (Below.heap_alloc W o b (World.block_lt_of_cell? _ _ h0))).trans h0

end Go.Proofs.Ybulkbtte
