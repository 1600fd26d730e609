/-
  The walk of LawS3518BWrap (3): the way of a pointer that is not nil.
-/
import Derived.Test.YbulkbtviFmtS5
namespace Go.Proofs.YbulkbtviFmt
open Go.RowKit Go.Extern.Stop Go.Stop Go.Extern

set_option maxHeartbeats 400000 in
theorem unwrap_any (rb : Nat) (v : Value) (w : World) (hr : w.cell? ⟨rb, 1, none⟩ = some v) : Calls Ybaf.prog 40 #[.pointer (some ⟨rb, 0, none⟩)] w fun e w' => e = .returned v ∧ w' = w := by
  go_enter Ybaf.func40, Ybaf.ntmps40
  go_wp2
  go_ret
  exact ⟨rfl, rfl⟩

theorem shut_facts (w : World) (code : Int) (msg txt : ByteArray) {W2 : World}
    (hw : W2 = (((w.alloc (.cells #[.int .i64 code, .string msg] 27)).alloc (.cells #[.iface 25 (.pointer (some ⟨w.heap.size, 0, none⟩))] 20)).alloc (.cells #[.string txt, .iface 25 (.pointer (some ⟨w.heap.size, 0, none⟩))] 91)).drew) :
    Below w.heap.size w W2 ∧ W2.heap.size = w.heap.size + 1 + 1 + 1 ∧ W2.cell? ⟨w.heap.size + 1 + 1, 1, none⟩ = some (.iface 25 (.pointer (some ⟨w.heap.size, 0, none⟩))) ∧
      W2.cell? ⟨w.heap.size, 0, none⟩ = some (.int .i64 code) ∧ W2.cell? ⟨w.heap.size, 1, none⟩ = some (.string msg) := by
  have h1 : Below (w.heap.size + 1) (w.alloc (.cells #[.int .i64 code, .string msg] 27)) W2 := by
    rw [hw]; exact (((Below.refl _ _).alloc (by simp) _).alloc (by simp) _).drew
  refine ⟨?_, ?_, ?_, ?_, ?_⟩
  · rw [hw]; exact ((((Below.refl _ _).alloc (Nat.le_refl _) _).alloc (by simp) _).alloc (by simp; omega) _).drew
  · rw [hw]; simp
  · have h := World.cell?_alloc_new ((w.alloc (.cells #[.int .i64 code, .string msg] 27)).alloc (.cells #[.iface 25 (.pointer (some ⟨w.heap.size, 0, none⟩))] 20)) #[.string txt, .iface 25 (.pointer (some ⟨w.heap.size, 0, none⟩))] 91 1
    rw [World.size_alloc, World.size_alloc] at h
    rw [hw]; exact h
  · rw [h1.cell (p := ⟨w.heap.size, 0, none⟩) (by simp)]; simp
  · rw [h1.cell (p := ⟨w.heap.size, 1, none⟩) (by simp)]; simp

/-- errors.As, in the words that the law's walk wants. -/
def AsRes (w : World) (tb : Nat) (e : Addr) (ev : Ending) (w' : World) : Prop :=
  ev = .returned (.bool true) ∧ w'.cell? ⟨tb, 0, none⟩ = some (.pointer (some e)) ∧ (∀ b o, b < w.heap.size → b ≠ tb → w'.cell? ⟨b, o, none⟩ = w.cell? ⟨b, o, none⟩) ∧ Below tb w w'

theorem as_fit (rb tb : Nat) (e : Addr) (old : Value) (w : World) (hr : w.cell? ⟨rb, 1, none⟩ = some (.iface 25 (.pointer (some e)))) (hg : w.cell? ⟨0, 0, none⟩ = some (.iface 56 (.agg #[.pointer (some ⟨1, 23, none⟩)])))
    (ht : w.cell? ⟨tb, 0, none⟩ = some old) (hf : w.frozen? ⟨tb, 0, none⟩ = false) :
    Calls Ybaf.prog 6 #[.iface 54 (.pointer (some ⟨rb, 0, none⟩)), .iface 34 (.pointer (some ⟨tb, 0, none⟩))] w fun ev w' => AsRes w tb e ev w' := by
  have htl : tb < w.heap.size := World.block_lt_of_cell? _ _ ht
  refine (as_hit rb e ⟨tb, 0, none⟩ old w hr hg ht hf).mono ?_
  rintro ev w' ⟨rfl, hw⟩
  have hb4 : ∀ a b c d, Below w.heap.size w ((((w.alloc a).alloc b).alloc c).alloc d) := fun a b c d => ((((Below.refl _ _).alloc (Nat.le_refl _) _).alloc (by simp) _).alloc (by simp; omega) _).alloc (by simp; omega) _
  subst hw
  refine ⟨rfl, World.cell?_setCell_same _ _ _ ((hb4 _ _ _ _).cell (p := ⟨tb, 0, none⟩) htl |>.trans ht), fun b o hb hn => ?_, ((hb4 _ _ _ _).mono (Nat.le_of_lt htl)).setCell (Nat.le_refl _) _⟩
  exact (World.cell?_setCell_other _ ⟨tb, 0, none⟩ ⟨b, o, none⟩ _ (by intro h; cases h; exact hn rfl)).trans ((hb4 _ _ _ _).cell (p := ⟨b, o, none⟩) hb)

set_option maxHeartbeats 1600000 in
set_option maxRecDepth 100000 in
theorem law1 (F : Interp) (n : Nat) (code : Int) (msg : ByteArray) (w : World) (hn : n ≤ 255) (h31 : ((n : Int) % 3 == 1) = true) (hF : F.answers w.tape)
    (hg : w.cell? ⟨0, 0, none⟩ = some (.iface 56 (.agg #[.pointer (some ⟨1, 23, none⟩)]))) :
    Calls Ybaf.prog 3 #[.int .u8 n, .int .i64 code, .string msg] w fun e w' => e = .returned (.bool true) ∧ Below w.heap.size w w' := by
  have h3 : ((n : Int) % 3 == 0) = false := by simp at h31 ⊢; omega
  have f1 := Ybaf.mUnwrap
  have f2 := Ybaf.neq5425
  have f3 := Ybaf.neqSame
  have f4 := Ybaf.asUn29
  have f5 := Ybaf.neqPtr
  have z0 : 0 < w.heap.size := World.block_lt_of_cell? _ _ hg
  go_enter Ybaf.func3, Ybaf.ntmps3
  go_wp2_with fail
  refine (shut_any F (some ⟨w.heap.size, 0, none⟩) msg (w.alloc (.cells #[.int .i64 code, .string msg] 27)) hF (fun o => error_some w.heap.size msg _ ?_)).mono ?_
  · rw [World.cell?_alloc_lt _ _ ⟨w.heap.size, 1, none⟩ (by simp)]; simp
  rintro e W2 ⟨txt, rfl, hw⟩
  obtain ⟨hB, hsz, hr, c0, c1⟩ := shut_facts w code msg txt hw
  simp only [World.size_alloc]
  have hg2 : W2.cell? ⟨0, 0, none⟩ = some (.iface 56 (.agg #[.pointer (some ⟨1, 23, none⟩)])) := (hB.cell (p := ⟨0, 0, none⟩) z0).trans hg
  clear hw
  have HZ : Hid (W2.heap.size = w.heap.size + 1 + 1 + 1) := hsz
  clear hsz
  have k0 : W2.heap.size ≠ 0 := by rw [HZ.out]; omega
  have hsub : Below W2.heap.size W2 (W2.alloc (.cells #[.pointer none] 25)) := (Below.refl _ _).alloc (Nat.le_refl _) _
  have hr3 : (W2.alloc (.cells #[.pointer none] 25)).cell? ⟨w.heap.size + 1 + 1, 1, none⟩ = some (.iface 25 (.pointer (some ⟨w.heap.size, 0, none⟩))) := (hsub.cell (p := ⟨w.heap.size + 1 + 1, 1, none⟩) (by rw [HZ.out]; simp)).trans hr
  have hg3 : (W2.alloc (.cells #[.pointer none] 25)).cell? ⟨0, 0, none⟩ = some (.iface 56 (.agg #[.pointer (some ⟨1, 23, none⟩)])) := (hsub.cell (p := ⟨0, 0, none⟩) (by rw [HZ.out]; simp)).trans hg2
  have d0 : (W2.alloc (.cells #[.pointer none] 25)).cell? ⟨w.heap.size, 0, none⟩ = some (.int .i64 code) := (hsub.cell (p := ⟨w.heap.size, 0, none⟩) (by rw [HZ.out]; simp; omega)).trans c0
  have d1 : (W2.alloc (.cells #[.pointer none] 25)).cell? ⟨w.heap.size, 1, none⟩ = some (.string msg) := (hsub.cell (p := ⟨w.heap.size, 1, none⟩) (by rw [HZ.out]; simp; omega)).trans c1
  have ht3 : (W2.alloc (.cells #[.pointer none] 25)).cell? ⟨W2.heap.size, 0, none⟩ = some (.pointer none) := by simp
  have hf3 : (W2.alloc (.cells #[.pointer none] 25)).frozen? ⟨W2.heap.size, 0, none⟩ = false := by simp
  go_wp2_with fail
  refine (unwrap_any _ _ W2 hr).mono ?_
  rintro e w3 ⟨rfl, hw3⟩
  subst hw3
  go_wp2_with fail
  refine (is_hit w.heap.size (w.heap.size + 1 + 1) _ hr).mono ?_
  rintro e w3 ⟨rfl, hw3⟩
  subst hw3
  go_wp2_with fail
  refine (as_fit (w.heap.size + 1 + 1) w3.heap.size ⟨w.heap.size, 0, none⟩ (.pointer none) _ hr3 hg3 ht3 hf3).mono ?_
  rintro e W4 ⟨rfl, k1, k2, k3⟩
  have e0 : W4.cell? ⟨w.heap.size, 0, none⟩ = some (.int .i64 code) := (k2 _ 0 (by rw [World.size_alloc, HZ.out]; omega) (by rw [HZ.out]; omega)).trans d0
  have e1 : W4.cell? ⟨w.heap.size, 1, none⟩ = some (.string msg) := (k2 _ 1 (by rw [World.size_alloc, HZ.out]; omega) (by rw [HZ.out]; omega)).trans d1
  have hfin : Below w.heap.size w W4 := hB.trans ((hsub.mono (by rw [HZ.out]; omega)).trans (k3.mono (by rw [HZ.out]; omega)))
  have q1 : (code == code) = true := by simp
  have q2 : (msg.toList == msg.toList) = true := by simp
  clear k2 hr3 hg3 d0 d1 ht3 hf3 hr hg2 c0 c1
  go_wp2
  go_ret
  exact ⟨rfl, hfin⟩
end Go.Proofs.YbulkbtviFmt
