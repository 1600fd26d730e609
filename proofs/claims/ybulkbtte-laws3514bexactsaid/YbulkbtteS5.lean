/-
  The walk of (Message).AppendText (7).
-/
import Derived.Test.YbulkbtteS4
namespace Go.Proofs.Ybulkbtte
open Go.RowKit

/-- What AppendText has appended behind k of the n parameters. -/
def wireTo (h : ByteArray) (ss : List ByteArray) (n : Nat) : Nat → ByteArray
  | 0 => h
  | k + 1 => if k + 1 = n then wireTo h ss n k ++ ⟨#[32]⟩ ++ ⟨#[58]⟩ ++ (ss[k]?.getD ByteArray.empty) else wireTo h ss n k ++ ⟨#[32]⟩ ++ (ss[k]?.getD ByteArray.empty)

theorem wireTo_size (h : ByteArray) (ss : List ByteArray) (n k : Nat) (hk : k ≤ ss.length) (hss : ∀ i, i < ss.length → (ss[i]?.getD ByteArray.empty).size ≤ 65536) : (wireTo h ss n k).size ≤ h.size + k * 65538 := by
  induction k with
  | zero => simp [wireTo]
  | succ k ih =>
    have := ih (by omega)
    have := hss k (by omega)
    simp only [wireTo]
    split <;> simp only [ByteArray.size_append, size32, size58] <;> omega

def AppRes (W1 : World) (ao : Option Addr) (b off len : Nat) (olds : List Value) (acc : ByteArray) (e : Ending) (w' : World) : Prop :=
  ∃ v, e = .returned v ∧ Up W1 ao b off len olds w' v acc

theorem byte_cell (w : World) (k : Int) (t : TypeId) : (w.alloc (.cells #[.int .u8 k] t)).cell? ⟨w.heap.size, 0, none⟩ = some (.int .u8 k) := by
  simp

theorem box_cells {p c : ByteArray} {pa : Option Addr} {n pcp : Nat} {W W1 : World} (HW : Hid (W1 = W.alloc (.cells #[.string p, .string c, .slice pa n pcp] 27))) {w : World} (h : Old W1.heap.size W1 w) :
    w.cell? ⟨W.heap.size, 0, none⟩ = some (.string p) ∧ w.cell? ⟨W.heap.size, 1, none⟩ = some (.string c) ∧ w.cell? ⟨W.heap.size, 2, none⟩ = some (.slice pa n pcp) := by
  have z0 : W.heap.size < W1.heap.size := by rw [HW.out]; simp
  have e0 := h.cell (p := ⟨W.heap.size, 0, none⟩) z0
  have e1 := h.cell (p := ⟨W.heap.size, 1, none⟩) z0
  have e2 := h.cell (p := ⟨W.heap.size, 2, none⟩) z0
  rw [e0, e1, e2, HW.out]
  simp

set_option maxHeartbeats 800000 in
set_option maxRecDepth 100000 in
theorem app_any (p c : ByteArray) (pa : Option Addr) (pb po n pcp : Nat) (ss : List ByteArray) (ao : Option Addr) (b off len : Nat) (olds : List Value) (W W1 : World)
    (HW : Hid (W1 = W.alloc (.cells #[.string p, .string c, .slice pa n pcp] 27))) (hc : Came W1 1 ao b off len len olds)
    (hs : StrsAt W1 pa pb po n ss) (hpb : 0 < n → pb < W1.heap.size) (hsm : Small len p c ss) :
    Calls Yba.prog 7 #[.agg #[.string p, .string c, .slice pa n pcp], .slice ao len len] W fun e w' => AppRes W1 ao b off len olds (wireTo (headF ByteArray.empty p c) ss n n) e w' := by
  obtain ⟨b1, b2, b3, b4, b5⟩ := hsm
  have HN : Hid (ss.length = n) := hs.len
  have HB : Hid (∀ i, i < ss.length → (ss[i]?.getD ByteArray.empty).size ≤ 65536) := b5
  rw [hs.len] at b4
  clear b5
  have hup0 := Up.start hc
  rw [HW.out] at hup0
  obtain ⟨h, hh⟩ : ∃ h, h = headF ByteArray.empty p c := ⟨_, rfl⟩
  have Hh : Hid (h = headF ByteArray.empty p c) := hh
  rw [← hh]
  clear hh
  by_cases hp : p.toList.isEmpty = true
  · have Hh2 : Hid (c = h) := by rw [Hh.out]; unfold headF Hid; rw [if_pos hp]; simp
    have hz : h.size ≤ 262144 := by rw [← Hh2.out]; omega
    have HM : Hid (∀ j, j ≤ n → (wireTo h ss n j).size ≤ 262144 + j * 65538) := fun j hj => by
      have := wireTo_size h ss n j (by rw [HN.out]; exact hj) HB.out
      omega
    go_enter Yba.func7, Yba.ntmps7
    go_wp2_with (at_builtin; refine wpList_up_str rfl (.tmp 20) (.tmp 22) rfl hc c rfl (by rw [HW.out]; exact hup0) rfl (by simp; omega) ?_)
    intro v1 w1 hup1
    rw [Hh2.out] at hup1
    clear hup0
    obtain ⟨x0, x1, x2⟩ := box_cells HW hup1.old
    go_wp2
    go_loopg [1, 27] n (fun k v i wr => ∃ j, k = n - j ∧ j ≤ n ∧ i = .int .i64 j ∧ Up W1 ao b off len olds wr v (wireTo h ss n j))
    case atStart => exact ⟨0, rfl, Nat.zero_le _, rfl, hup1⟩
    case round =>
      clear x0 x1 x2 hup1
      obtain ⟨j, hk, hj, rfl, hup⟩ := hrel
      by_cases hlt : j < n
      · obtain rfl := hs.addr (by omega)
        obtain ⟨x0, x1, x2⟩ := box_cells HW hup.old
        have hx : wr.cell? ⟨pb, po + j, none⟩ = some (.string (ss[j]?.getD ByteArray.empty)) := (hup.old.cell (hpb (by omega))).trans (hs.cell j hlt)
        have hlt' : (j : Int) < (n : Int) := by omega
        have hmz := HM.out j (by omega)
        have hz2 := HB.out j (by rw [HN.out]; exact hlt)
        by_cases hl : j + 1 = n
        · have Hl : Hid (wireTo h ss n j ++ ⟨#[32]⟩ ++ ⟨#[58]⟩ ++ (ss[j]?.getD ByteArray.empty) = wireTo h ss n (j + 1)) := by simp only [Hid, wireTo]; rw [if_pos hl]
          have hq : ((j : Int) == (n : Int) - 1) = true := by simp; omega
          clear hl
          go_wp2_with (at_builtin; refine wpList_up_byte rfl (.tmp 32) (.tmp 33) rfl hc 32 _ _ rfl (hup.alloc hc _) rfl (byte_cell _ _ _) (by omega) ?_)
          intro v2 w2 hup2
          clear x0 x1 x2 hx hup
          obtain ⟨x0, x1, x2⟩ := box_cells HW hup2.old
          go_wp2_with (at_builtin; refine wpList_up_byte rfl (.tmp 41) (.tmp 42) rfl hc 58 _ _ rfl (hup2.alloc hc _) rfl (byte_cell _ _ _) (by simp only [ByteArray.size_append, size32]; omega) ?_)
          intro v3 w3 hup3
          clear x0 x1 x2 hup2
          go_wp2_with (at_builtin; refine wpList_up_str rfl (.tmp 44) (.tmp 45) rfl hc (ss[j]?.getD ByteArray.empty) rfl hup3 rfl (by simp only [ByteArray.size_append, size32, size58]; omega) ?_)
          intro v4 w4 hup4
          clear hup3
          go_wp2
          go_roundg (n - (j + 1))
          case measure => omega
          case rel => exact ⟨j + 1, rfl, by omega, by go_num, by rw [← Hl.out]; exact hup4⟩
        · have Hl : Hid (wireTo h ss n j ++ ⟨#[32]⟩ ++ (ss[j]?.getD ByteArray.empty) = wireTo h ss n (j + 1)) := by simp only [Hid, wireTo]; rw [if_neg hl]
          have hq : ((j : Int) == (n : Int) - 1) = false := by simp; omega
          clear hl
          go_wp2_with (at_builtin; refine wpList_up_byte rfl (.tmp 32) (.tmp 33) rfl hc 32 _ _ rfl (hup.alloc hc _) rfl (byte_cell _ _ _) (by omega) ?_)
          intro v2 w2 hup2
          clear x0 x1 x2 hx hup
          obtain ⟨x0, x1, x2⟩ := box_cells HW hup2.old
          go_wp2_with (at_builtin; refine wpList_up_str rfl (.tmp 44) (.tmp 45) rfl hc (ss[j]?.getD ByteArray.empty) rfl hup2 rfl (by simp only [ByteArray.size_append, size32]; omega) ?_)
          intro v4 w4 hup4
          clear x0 x1 x2 hup2
          go_wp2
          go_roundg (n - (j + 1))
          case measure => omega
          case rel => exact ⟨j + 1, rfl, by omega, by go_num, by rw [← Hl.out]; exact hup4⟩
      · obtain rfl : j = n := by omega
        go_wp2
        go_ret
        exact ⟨_, rfl, hup⟩
  · have Hh2 : Hid (⟨#[58]⟩ ++ p ++ ⟨#[32]⟩ ++ c = h) := by rw [Hh.out]; unfold headF Hid; rw [if_neg hp]; simp
    have hz : h.size ≤ 262144 := by rw [← Hh2.out]; simp only [ByteArray.size_append, size58, size32]; omega
    have HM : Hid (∀ j, j ≤ n → (wireTo h ss n j).size ≤ 262144 + j * 65538) := fun j hj => by
      have := wireTo_size h ss n j (by rw [HN.out]; exact hj) HB.out
      omega
    have hp' : p.toList.isEmpty = false := by simpa using hp
    go_enter Yba.func7, Yba.ntmps7
    go_wp2_with (at_builtin; refine wpList_up_byte rfl (.tmp 10) (.tmp 11) rfl hc 58 _ _ rfl (by rw [HW.out]; exact (hup0.alloc (by rw [← HW.out]; exact hc) _)) rfl (by simp) (by simp; omega) ?_)
    intro v5 w5 hup5
    clear hup0
    obtain ⟨x0, x1, x2⟩ := box_cells HW hup5.old
    go_wp2_with (at_builtin; refine wpList_up_str rfl (.tmp 13) (.tmp 15) rfl hc p rfl hup5 rfl (by simp only [size58]; omega) ?_)
    intro v6 w6 hup6
    clear x0 x1 x2 hup5
    obtain ⟨x0, x1, x2⟩ := box_cells HW hup6.old
    go_wp2_with (at_builtin; refine wpList_up_byte rfl (.tmp 17) (.tmp 18) rfl hc 32 _ _ rfl (hup6.alloc hc _) rfl (byte_cell _ _ _) (by simp only [ByteArray.size_append, size58]; omega) ?_)
    intro v7 w7 hup7
    clear x0 x1 x2 hup6
    obtain ⟨x0, x1, x2⟩ := box_cells HW hup7.old
    go_wp2_with (at_builtin; refine wpList_up_str rfl (.tmp 20) (.tmp 22) rfl hc c rfl hup7 rfl (by simp only [ByteArray.size_append, size58, size32]; omega) ?_)
    intro v1 w1 hup1
    clear x0 x1 x2 hup7
    rw [Hh2.out] at hup1
    obtain ⟨x0, x1, x2⟩ := box_cells HW hup1.old
    go_wp2
    go_loopg [1, 27] n (fun k v i wr => ∃ j, k = n - j ∧ j ≤ n ∧ i = .int .i64 j ∧ Up W1 ao b off len olds wr v (wireTo h ss n j))
    case atStart => exact ⟨0, rfl, Nat.zero_le _, rfl, hup1⟩
    case round =>
      clear x0 x1 x2 hup1
      obtain ⟨j, hk, hj, rfl, hup⟩ := hrel
      by_cases hlt : j < n
      · obtain rfl := hs.addr (by omega)
        obtain ⟨x0, x1, x2⟩ := box_cells HW hup.old
        have hx : wr.cell? ⟨pb, po + j, none⟩ = some (.string (ss[j]?.getD ByteArray.empty)) := (hup.old.cell (hpb (by omega))).trans (hs.cell j hlt)
        have hlt' : (j : Int) < (n : Int) := by omega
        have hmz := HM.out j (by omega)
        have hz2 := HB.out j (by rw [HN.out]; exact hlt)
        by_cases hl : j + 1 = n
        · have Hl : Hid (wireTo h ss n j ++ ⟨#[32]⟩ ++ ⟨#[58]⟩ ++ (ss[j]?.getD ByteArray.empty) = wireTo h ss n (j + 1)) := by simp only [Hid, wireTo]; rw [if_pos hl]
          have hq : ((j : Int) == (n : Int) - 1) = true := by simp; omega
          clear hl
          go_wp2_with (at_builtin; refine wpList_up_byte rfl (.tmp 32) (.tmp 33) rfl hc 32 _ _ rfl (hup.alloc hc _) rfl (byte_cell _ _ _) (by omega) ?_)
          intro v2 w2 hup2
          clear x0 x1 x2 hx hup
          obtain ⟨x0, x1, x2⟩ := box_cells HW hup2.old
          go_wp2_with (at_builtin; refine wpList_up_byte rfl (.tmp 41) (.tmp 42) rfl hc 58 _ _ rfl (hup2.alloc hc _) rfl (byte_cell _ _ _) (by simp only [ByteArray.size_append, size32]; omega) ?_)
          intro v3 w3 hup3
          clear x0 x1 x2 hup2
          go_wp2_with (at_builtin; refine wpList_up_str rfl (.tmp 44) (.tmp 45) rfl hc (ss[j]?.getD ByteArray.empty) rfl hup3 rfl (by simp only [ByteArray.size_append, size32, size58]; omega) ?_)
          intro v4 w4 hup4
          clear hup3
          go_wp2
          go_roundg (n - (j + 1))
          case measure => omega
          case rel => exact ⟨j + 1, rfl, by omega, by go_num, by rw [← Hl.out]; exact hup4⟩
        · have Hl : Hid (wireTo h ss n j ++ ⟨#[32]⟩ ++ (ss[j]?.getD ByteArray.empty) = wireTo h ss n (j + 1)) := by simp only [Hid, wireTo]; rw [if_neg hl]
          have hq : ((j : Int) == (n : Int) - 1) = false := by simp; omega
          clear hl
          go_wp2_with (at_builtin; refine wpList_up_byte rfl (.tmp 32) (.tmp 33) rfl hc 32 _ _ rfl (hup.alloc hc _) rfl (byte_cell _ _ _) (by omega) ?_)
          intro v2 w2 hup2
          clear x0 x1 x2 hx hup
          obtain ⟨x0, x1, x2⟩ := box_cells HW hup2.old
          go_wp2_with (at_builtin; refine wpList_up_str rfl (.tmp 44) (.tmp 45) rfl hc (ss[j]?.getD ByteArray.empty) rfl hup2 rfl (by simp only [ByteArray.size_append, size32]; omega) ?_)
          intro v4 w4 hup4
          clear x0 x1 x2 hup2
          go_wp2
          go_roundg (n - (j + 1))
          case measure => omega
          case rel => exact ⟨j + 1, rfl, by omega, by go_num, by rw [← Hl.out]; exact hup4⟩
      · obtain rfl : j = n := by omega
        go_wp2
        go_ret
        exact ⟨_, rfl, hup⟩
end Go.Proofs.Ybulkbtte
