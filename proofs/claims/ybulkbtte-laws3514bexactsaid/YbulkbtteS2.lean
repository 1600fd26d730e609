/-
  The walk of zzs3514bmodel (8): the string that it makes.
-/
import Derived.Test.YbulkbtteS1
namespace Go.Proofs.Ybulkbtte
open Go.RowKit

/-- The head: the start, the prefix between a colon and a blank where there is one, the command. -/
def headF (s p c : ByteArray) : ByteArray := if p.toList.isEmpty = true then s ++ c else s ++ ⟨#[58]⟩ ++ p ++ ⟨#[32]⟩ ++ c
/-- Behind the first k parameters, each after a blank. -/
def midF (h : ByteArray) (ss : List ByteArray) : Nat → ByteArray
  | 0 => h
  | k + 1 => midF h ss k ++ ⟨#[32]⟩ ++ (ss[k]?.getD ByteArray.empty)
def modelF (s p c : ByteArray) (ss : List ByteArray) : ByteArray :=
  if ss.length = 0 then headF s p c else midF (headF s p c) ss (ss.length - 1) ++ ⟨#[32, 58]⟩ ++ (ss[ss.length - 1]?.getD ByteArray.empty)

theorem size58 : (⟨#[58]⟩ : ByteArray).size = 1 := rfl
theorem size32 : (⟨#[32]⟩ : ByteArray).size = 1 := rfl

theorem midF_size (h : ByteArray) (ss : List ByteArray) (k : Nat) (hk : k ≤ ss.length) (hss : ∀ i, i < ss.length → (ss[i]?.getD ByteArray.empty).size ≤ 65536) : (midF h ss k).size ≤ h.size + k * 65537 := by
  induction k with
  | zero => simp [midF]
  | succ k ih =>
    have := ih (by omega)
    have := hss k (by omega)
    have e1 : (⟨#[32]⟩ : ByteArray).size = 1 := rfl
    simp only [midF, ByteArray.size_append, e1]
    omega

set_option maxHeartbeats 800000 in
theorem model_any (s p c : ByteArray) (a : Option Addr) (b o n cp : Nat) (ss : List ByteArray) (w : World) (hs : StrsAt w a b o n ss) (hsm : Small s.size p c ss) :
    Calls Yba.prog 8 #[.string s, .string p, .string c, .slice a n cp] w fun e w' => e = .returned (.string (modelF s p c ss)) ∧ w' = w := by
  obtain ⟨b1, b2, b3, b4, b5⟩ := hsm
  have hn := hs.len
  have HN : Hid (ss.length = n) := hn
  have HB : Hid (∀ i, i < ss.length → (ss[i]?.getD ByteArray.empty).size ≤ 65536) := b5
  rw [hn] at b4
  clear hn b5
  have core : ∀ h : ByteArray, Hid (h = headF s p c) → h.size ≤ 262144 → ∀ j, j ≤ n → (midF h ss j).size ≤ 262144 + j * 65537 := fun h _ hz j hj => by
    have := midF_size h ss j (by rw [HN.out]; exact hj) HB.out
    omega
  by_cases hp : p.toList.isEmpty = true
  · have Hh : Hid (s ++ c = headF s p c) := by unfold headF Hid; rw [if_pos hp]
    have hz : (s ++ c).size ≤ 262144 := by rw [ByteArray.size_append]; omega
    have HM : Hid (∀ j, j ≤ n → (midF (s ++ c) ss j).size ≤ 262144 + j * 65537) := core _ Hh hz
    clear core
    go_enter Yba.func8, Yba.ntmps8
    go_wp2
    go_loop [9, 11] (fun t i => ∃ k : Nat, k ≤ n - 1 ∧ i = .int .i64 k ∧ t = .string (midF (s ++ c) ss k)) (fun _ i => n - (intOf i).toNat)
    case atStart => exact ⟨0, Nat.zero_le _, rfl, rfl⟩
    case round =>
      obtain ⟨k, hk, rfl, rfl⟩ := hrel
      by_cases hlt : k < n - 1
      · have hmz := HM.out k (by omega)
        have hlt' : (k : Int) < (n : Int) - 1 := by omega
        have hlt2 : (k : Int) < (n : Int) := by omega
        obtain rfl := hs.addr (by omega)
        have hc := hs.cell k (by omega)
        have hz2 := HB.out k (by rw [HN.out]; omega)
        go_wp2
        go_round
        case rel => exact ⟨k + 1, by omega, by go_num, rfl⟩
        case measure => simp [intOf]; omega
      · by_cases hn0 : 0 < n
        · obtain rfl : k = n - 1 := by omega
          obtain ⟨m, rfl⟩ : ∃ m, n = m + 1 := ⟨n - 1, by omega⟩
          obtain rfl := hs.addr (by omega)
          have hmz := HM.out m (by omega)
          have hc := hs.cell m (by omega)
          have hz2 := HB.out m (by rw [HN.out]; omega)
          have Hfin : Hid (midF (s ++ c) ss m ++ ⟨#[32, 58]⟩ ++ (ss[m]?.getD ByteArray.empty) = modelF s p c ss) := by
            unfold modelF Hid; rw [if_neg (by rw [HN.out]; omega), ← Hh.out, HN.out]; rfl
          go_wp2
          go_ret
          refine ⟨?_, rfl⟩
          rw [← Hfin.out]
          rfl
        · obtain rfl : n = 0 := by omega
          obtain rfl : k = 0 := by omega
          have Hfin : Hid (s ++ c = modelF s p c ss) := by unfold modelF Hid; rw [if_pos HN.out, ← Hh.out]
          go_wp2
          go_ret
          refine ⟨?_, rfl⟩
          rw [← Hfin.out]
          rfl
  · have Hh : Hid (s ++ ⟨#[58]⟩ ++ p ++ ⟨#[32]⟩ ++ c = headF s p c) := by unfold headF Hid; rw [if_neg hp]
    have hz : (s ++ ⟨#[58]⟩ ++ p ++ ⟨#[32]⟩ ++ c).size ≤ 262144 := by simp only [ByteArray.size_append, size58, size32]; omega
    have HM : Hid (∀ j, j ≤ n → (midF (s ++ ⟨#[58]⟩ ++ p ++ ⟨#[32]⟩ ++ c) ss j).size ≤ 262144 + j * 65537) := core _ Hh hz
    clear core
    have hp' : p.toList.isEmpty = false := by simpa using hp
    go_enter Yba.func8, Yba.ntmps8
    go_wp2
    go_loop [9, 11] (fun t i => ∃ k : Nat, k ≤ n - 1 ∧ i = .int .i64 k ∧ t = .string (midF (s ++ ⟨#[58]⟩ ++ p ++ ⟨#[32]⟩ ++ c) ss k)) (fun _ i => n - (intOf i).toNat)
    case atStart => exact ⟨0, Nat.zero_le _, rfl, rfl⟩
    case round =>
      obtain ⟨k, hk, rfl, rfl⟩ := hrel
      by_cases hlt : k < n - 1
      · have hmz := HM.out k (by omega)
        have hlt' : (k : Int) < (n : Int) - 1 := by omega
        have hlt2 : (k : Int) < (n : Int) := by omega
        obtain rfl := hs.addr (by omega)
        have hc := hs.cell k (by omega)
        have hz2 := HB.out k (by rw [HN.out]; omega)
        go_wp2
        go_round
        case rel => exact ⟨k + 1, by omega, by go_num, rfl⟩
        case measure => simp [intOf]; omega
      · by_cases hn0 : 0 < n
        · obtain rfl : k = n - 1 := by omega
          obtain ⟨m, rfl⟩ : ∃ m, n = m + 1 := ⟨n - 1, by omega⟩
          obtain rfl := hs.addr (by omega)
          have hmz := HM.out m (by omega)
          have hc := hs.cell m (by omega)
          have hz2 := HB.out m (by rw [HN.out]; omega)
          have Hfin : Hid (midF (s ++ ⟨#[58]⟩ ++ p ++ ⟨#[32]⟩ ++ c) ss m ++ ⟨#[32, 58]⟩ ++ (ss[m]?.getD ByteArray.empty) = modelF s p c ss) := by
            unfold modelF Hid; rw [if_neg (by rw [HN.out]; omega), ← Hh.out, HN.out]; rfl
          go_wp2
          go_ret
          refine ⟨?_, rfl⟩
          rw [← Hfin.out]
          rfl
        · obtain rfl : n = 0 := by omega
          obtain rfl : k = 0 := by omega
          have Hfin : Hid (s ++ ⟨#[58]⟩ ++ p ++ ⟨#[32]⟩ ++ c = modelF s p c ss) := by unfold modelF Hid; rw [if_pos HN.out, ← Hh.out]
          go_wp2
          go_ret
          refine ⟨?_, rfl⟩
          rw [← Hfin.out]
          rfl
end Go.Proofs.Ybulkbtte
