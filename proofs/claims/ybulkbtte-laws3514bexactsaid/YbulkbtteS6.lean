/-
  The plain law (AppendText's bytes are the model's), and what 'string(..)' of a slice of bytes reads as.
-/
import Derived.Test.YbulkbtteS5
namespace Go.Proofs.Ybulkbtte
open Go.RowKit

theorem headF_start (s p c : ByteArray) : s ++ headF ByteArray.empty p c = headF s p c := by
  unfold headF
  split <;> simp [ByteArray.append_assoc]

theorem wireTo_mid (s p c : ByteArray) (ss : List ByteArray) (n k : Nat) (hk : k + 1 ≤ n) : s ++ wireTo (headF ByteArray.empty p c) ss n k = midF (headF s p c) ss k := by
  induction k with
  | zero => simp only [wireTo, midF]; exact headF_start s p c
  | succ k ih =>
    have := ih (by omega)
    simp only [wireTo, midF]
    rw [if_neg (by omega), ← this]
    simp only [ByteArray.append_assoc]

theorem wire_model (s p c : ByteArray) (ss : List ByteArray) (n : Nat) (hn : ss.length = n) : s ++ wireTo (headF ByteArray.empty p c) ss n n = modelF s p c ss := by
  unfold modelF
  rw [hn]
  split
  · next h => subst h; simp only [wireTo]; exact headF_start s p c
  · next h =>
    obtain ⟨m, rfl⟩ : ∃ m, n = m + 1 := ⟨n - 1, by omega⟩
    simp only [wireTo, Nat.add_sub_cancel]
    rw [if_pos trivial, ← wireTo_mid s p c ss (m + 1) m (Nat.le_refl _)]
    have e : (⟨#[32, 58]⟩ : ByteArray) = ⟨#[32]⟩ ++ ⟨#[58]⟩ := rfl
    rw [e]
    simp only [ByteArray.append_assoc]

/-- 'string(v)' reads as s, behind whatever draws. -/
def Reads (w : World) (v : Value) (s : ByteArray) : Prop := ∀ q, (convert 22 9 v).run Yba.prog (w.drewN q) = .ok (.string s) (w.drewN q)

theorem strOfNums_append (xs ys : List Int) : strOfNums (xs ++ ys) = strOfNums xs ++ strOfNums ys := by
  apply ByteArray.ext
  simp [strOfNums, ByteArray.data_append]

theorem strOfNums_bytes (t : ByteArray) : strOfNums (t.data.toList.map fun b => (b.toNat : Int)) = t := by
  apply ByteArray.ext
  have e : ((fun n : Int => UInt8.ofNat n.toNat) ∘ fun b : UInt8 => (b.toNat : Int)) = id := by funext b; simp
  simp [strOfNums, e]

theorem byteCells_ints (t : ByteArray) : byteCells t = (t.data.toList.map fun b => (b.toNat : Int)).map (Value.int .u8) := by
  simp [byteCells]

theorem reads_zero (w : World) (a : Option Addr) (c : Nat) : Reads w (.slice a 0 c) ByteArray.empty := by
  intro q
  rw [run_convert_bytes_string _ 22 9 5 _ 0 c Yba.underlying22 Yba.underlying5 Yba.underlying9]
  cases a <;> simp [Conv.bytesToString, loadCells]
  all_goals rfl

theorem reads_cells (w : World) (g o n c : Nat) (xs : List Int) (hl : xs.length = n) (hc : ∀ i, i < n → w.cell? ⟨g, o + i, none⟩ = (xs.map (Value.int .u8))[i]?) : Reads w (.slice (some ⟨g, o, none⟩) n c) (strOfNums xs) := by
  intro q
  refine run_convert_bytes_arg _ 22 5 Yba.underlying22 Yba.underlying5 g o n c xs hl (fun i hi => ?_) 9 Yba.underlying9
  have e := hc i hi
  have hx : i < xs.length := by omega
  simp [List.getElem?_eq_getElem hx] at e
  simp [e, List.getElem?_eq_getElem hx]

/-- A slice of bytes that came in or was made: its length, its bytes. -/
structure BytesAt (w : World) (a : Option Addr) (b o n : Nat) (xs : List Int) : Prop where
  len : xs.length = n
  addr : 0 < n → a = some ⟨b, o, none⟩
  cell : ∀ i, i < n → w.cell? ⟨b, o + i, none⟩ = (xs.map (Value.int .u8))[i]?

theorem BytesAt.reads {w : World} {a : Option Addr} {b o n : Nat} {xs : List Int} (h : BytesAt w a b o n xs) (c : Nat) : Reads w (.slice a n c) (strOfNums xs) := by
  rcases Nat.eq_zero_or_pos n with h0 | h0
  · subst h0
    obtain rfl : xs = [] := List.eq_nil_of_length_eq_zero h.len
    exact reads_zero w a c
  · obtain rfl := h.addr h0
    exact reads_cells w b o n c xs h.len h.cell

theorem BytesAt.mono {w w' : World} {a : Option Addr} {b o n : Nat} {xs : List Int} (h : BytesAt w a b o n xs) (hk : ∀ i, i < n → w'.cell? ⟨b, o + i, none⟩ = w.cell? ⟨b, o + i, none⟩) : BytesAt w' a b o n xs :=
  ⟨h.len, h.addr, fun i hi => (hk i hi).trans (h.cell i hi)⟩

/-- What was appended to a slice of bytes reads as the bytes and what was appended. -/
theorem Up.reads {W : World} {a : Option Addr} {b o n : Nat} {xs : List Int} {w : World} {v : Value} {acc : ByteArray} (h : Up W a b o n (xs.map (Value.int .u8)) w v acc) (hc : Came W 1 a b o n n (xs.map (Value.int .u8))) (hn : n ≤ maxLen) :
    Reads w v (strOfNums xs ++ acc) := by
  obtain ⟨r, h⟩ := h
  have hxl : xs.length = n := by have := hc.oldsLen; simpa using this
  by_cases hpos : 0 < n ∨ 0 < acc.size
  · obtain ⟨g, o', cap', rfl, _, _, hcells⟩ := h.value hc hn hpos
    have e : strOfNums xs ++ acc = strOfNums (xs ++ acc.data.toList.map fun b => (b.toNat : Int)) := by rw [strOfNums_append, strOfNums_bytes]
    rw [e]
    refine reads_cells w g o' _ cap' _ (by simp [hxl]) (fun i hi => ?_)
    rw [hcells i (by omega), byteCells_ints, List.map_append]
  · obtain rfl : n = 0 := by omega
    have hz : acc.size = 0 := by omega
    have ha : acc = ByteArray.empty := by
      apply ByteArray.ext
      exact Array.eq_empty_of_size_eq_zero hz
    have hb := h.bare hc rfl hz
    obtain rfl : xs = [] := List.eq_nil_of_length_eq_zero hxl
    rw [hb, ha]
    exact reads_zero w a 0

end Go.Proofs.Ybulkbtte
