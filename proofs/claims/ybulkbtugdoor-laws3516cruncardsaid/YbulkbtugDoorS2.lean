import Derived.Test.YbulkbtugDoorS1
namespace Go.Proofs.YbulkbtugDoor
open Go.RowKit

theorem wrap_small (x : Int) (h0 : 0 ≤ x) (h1 : x ≤ 4096) : IntKind.i64.wrap x = x := by rw [IntKind.wrap_i64]; omega

theorem four_cells {B : Nat} {w w' : World} (h : Below B w w') {g i j k l : Nat} (hg : g < B) {a b c d : Value} (x0 : w.cell? ⟨g, i, none⟩ = some a) (x1 : w.cell? ⟨g, j, none⟩ = some b) (x2 : w.cell? ⟨g, k, none⟩ = some c) (x3 : w.cell? ⟨g, l, none⟩ = some d) :
    w'.cell? ⟨g, i, none⟩ = some a ∧ w'.cell? ⟨g, j, none⟩ = some b ∧ w'.cell? ⟨g, k, none⟩ = some c ∧ w'.cell? ⟨g, l, none⟩ = some d :=
  ⟨(h.cell (p := ⟨g, i, none⟩) hg).trans x0, (h.cell (p := ⟨g, j, none⟩) hg).trans x1, (h.cell (p := ⟨g, k, none⟩) hg).trans x2, (h.cell (p := ⟨g, l, none⟩) hg).trans x3⟩

set_option maxHeartbeats 400000 in
theorem cat_any (g off n cap i : Nat) (a b c d : Int) (z : Addr) (w : World) (hi : i + 3 < n) (hn : n ≤ 1024)
    (x0 : w.cell? ⟨g, off + i, none⟩ = some (.int .u8 a)) (x1 : w.cell? ⟨g, off + (i + 1), none⟩ = some (.int .u8 b)) (x2 : w.cell? ⟨g, off + (i + 2), none⟩ = some (.int .u8 c)) (x3 : w.cell? ⟨g, off + (i + 3), none⟩ = some (.int .u8 d))
    (hz : w.cell? ⟨0, 0, none⟩ = some (.pointer (some z))) :
    Calls Ybad.prog 5 #[.slice (some ⟨g, off, none⟩) n cap, .int .i64 (i : Int)] w fun e w' => e = .returned (addrA a b c d z) ∧ Below w.heap.size w w' := by
  have b0 : (0 : Int) ≤ (i : Int) := by omega
  have b1 : (i : Int) < (n : Int) := by omega
  have b2 : (i : Int) + 1 < (n : Int) := by omega
  have b3 : (i : Int) + 2 < (n : Int) := by omega
  have b4 : (i : Int) + 3 < (n : Int) := by omega
  have p2 : (0 : Int) ≤ (i : Int) + 1 := by omega
  have p3 : (0 : Int) ≤ (i : Int) + 2 := by omega
  have p4 : (0 : Int) ≤ (i : Int) + 3 := by omega
  have hgl : g < w.heap.size := World.block_lt_of_cell? _ _ x0
  have r1 := wrap_small ((i : Int) + 1) (by omega) (by omega)
  have r2 := wrap_small ((i : Int) + 2) (by omega) (by omega)
  have r3 := wrap_small ((i : Int) + 3) (by omega) (by omega)
  have t1 : ((i : Int) + 1).toNat = i + 1 := by omega
  have t2 : ((i : Int) + 2).toNat = i + 2 := by omega
  have t3 : ((i : Int) + 3).toNat = i + 3 := by omega
  have hz1 : ∀ o, (w.alloc o).cell? ⟨0, 0, none⟩ = some (.pointer (some z)) := fun o => (World.cell?_of_block (Below.heap_alloc w o 0 (World.block_lt_of_cell? _ _ hz))).trans hz
  have hg1 : ∀ o j, (w.alloc o).cell? ⟨g, j, none⟩ = w.cell? ⟨g, j, none⟩ := fun o j => World.cell?_of_block (Below.heap_alloc w o g hgl)
  go_enter Ybad.func5, Ybad.ntmps5
  go_wp2
  go_region_held3 (fun w' => w'.cell? ⟨g, off + i, none⟩ = some (.int .u8 a) ∧ w'.cell? ⟨g, off + (i + 1), none⟩ = some (.int .u8 b) ∧ w'.cell? ⟨g, off + (i + 2), none⟩ = some (.int .u8 c) ∧ w'.cell? ⟨g, off + (i + 3), none⟩ = some (.int .u8 d))
    (first | go_keep | exact four_cells hB2 hgl x0 x1 x2 x3 | exact four_cells (((hB2.setCell (Nat.le_refl _) _).setCell (Nat.le_refl _) _).setCell (Nat.le_refl _) _) hgl x0 x1 x2 x3)
    ((go_at_call 7; refine (from4_any a b c d z _ ?_).mono ?_; (simp [hz1]); rintro e w2 ⟨rfl, hbel⟩; obtain ⟨r0, r1, r2, s0, s1, s2⟩ := res_cells ((hbel.block w.heap.size (by simp)).trans (heap_alloc_new w _)); have hB2 : Below w.heap.size w w2 := (((Below.refl _ _).alloc (Nat.le_refl _) _).drew).trans (hbel.mono (by simp))))
  all_goals go_wp2
  exact bodyPost_ret (v := addrA a b c d z) (by simp [results, Ybad.results5, go_sem, r0, r1, r2, addrA]) rfl ⟨rfl, ((hB2.setCell (Nat.le_refl _) _).setCell (Nat.le_refl _) _).setCell (Nat.le_refl _) _⟩
end Go.Proofs.YbulkbtugDoor
