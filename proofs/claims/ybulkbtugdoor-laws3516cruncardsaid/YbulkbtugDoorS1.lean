import Derived.Test.YbulkbtugDoorRows
import Derived.WalkKit
import Derived.WalkSpells
import Derived.WalkLawsBesides
import Derived.Deep.LoopGhost
import Derived.Deep.QuietTactic
import Derived.BigQuiet
import Derived.Laws.CopyOwn
import Derived.Deep.OwnRows
import Derived.Deep.RegionHeld3
namespace Go.Proofs.YbulkbtugDoor
open Go.RowKit

/-- The low half of the address, as the program reckons it. -/
def lo4 (a b c d : Int) : Int :=
  bits BinOp.or IntKind.u64 (bits BinOp.or IntKind.u64 (bits BinOp.or IntKind.u64 (bits BinOp.or IntKind.u64 281470681743360 (IntKind.u64.wrap (IntKind.u64.wrap a * 16777216))) (IntKind.u64.wrap (IntKind.u64.wrap b * 65536))) (IntKind.u64.wrap (IntKind.u64.wrap c * 256))) (IntKind.u64.wrap d)

set_option maxHeartbeats 400000 in
theorem from4_any (a b c d : Int) (z : Addr) (w : World) (hz : w.cell? ⟨0, 0, none⟩ = some (.pointer (some z))) :
    Calls Ybad.prog 7 #[.agg #[.int .u8 a, .int .u8 b, .int .u8 c, .int .u8 d]] w fun e w' => e = .returned (.agg #[.int .u64 0, .int .u64 (lo4 a b c d), .pointer (some z)]) ∧ Below w.heap.size w w' := by
  have hz1 : ∀ o, (w.alloc o).cell? ⟨0, 0, none⟩ = some (.pointer (some z)) := fun o => (World.cell?_of_block (Below.heap_alloc w o 0 (World.block_lt_of_cell? _ _ hz))).trans hz
  go_enter Ybad.func7, Ybad.ntmps7
  go_wp2
  exact bodyPost_ret (v := .agg #[.int .u64 0, .int .u64 (lo4 a b c d), .pointer (some z)]) (by simp [results, Ybad.results7, go_sem, lo4]) rfl ⟨rfl, ((Below.refl _ _).alloc (Nat.le_refl _) _).alloc (by simp) _⟩

/-- The two fields of the octets behind ob. -/
structure Oct (w : World) (ob : Nat) (b e : Value) : Prop where
  c0 : w.cell? ⟨ob, 0, none⟩ = some b
  c1 : w.cell? ⟨ob, 1, none⟩ = some e
  f0 : w.frozen? ⟨ob, 0, none⟩ = false
  f1 : w.frozen? ⟨ob, 1, none⟩ = false

theorem Oct.lt {w : World} {ob : Nat} {b e : Value} (h : Oct w ob b e) : ob < w.heap.size := World.block_lt_of_cell? w ⟨ob, 0, none⟩ h.c0
theorem Oct.set0 {w : World} {ob : Nat} {b e : Value} (h : Oct w ob b e) (v : Value) : Oct (w.setCell ⟨ob, 0, none⟩ v) ob v e :=
  ⟨World.cell?_setCell_same _ _ _ h.c0, (World.cell?_setCell_other _ _ _ _ (by simp)).trans h.c1, by simpa using h.f0, by simpa using h.f1⟩
theorem Oct.set1 {w : World} {ob : Nat} {b e : Value} (h : Oct w ob b e) (v : Value) : Oct (w.setCell ⟨ob, 1, none⟩ v) ob b v :=
  ⟨(World.cell?_setCell_other _ _ _ _ (by simp)).trans h.c0, World.cell?_setCell_same _ _ _ h.c1, by simpa using h.f0, by simpa using h.f1⟩
theorem Oct.of_block {w w' : World} {ob : Nat} {b e : Value} (h : Oct w ob b e) (hb : w'.heap[ob]? = w.heap[ob]?) : Oct w' ob b e :=
  ⟨(World.cell?_of_block (a := ⟨ob, 0, none⟩) hb).trans h.c0, (World.cell?_of_block (a := ⟨ob, 1, none⟩) hb).trans h.c1, (World.frozen?_of_block (a := ⟨ob, 0, none⟩) hb).trans h.f0, (World.frozen?_of_block (a := ⟨ob, 1, none⟩) hb).trans h.f1⟩
theorem Oct.alloc {w : World} {ob : Nat} {b e : Value} (h : Oct w ob b e) (o : Obj) : Oct (w.alloc o) ob b e := h.of_block (Below.heap_alloc w o ob h.lt)
theorem Oct.drew {w : World} {ob : Nat} {b e : Value} (h : Oct w ob b e) : Oct w.drew ob b e := h.of_block rfl

/-- But for the block ob all that was there is as it was. -/
structure But (ob : Nat) (w w' : World) : Prop where
  os : w'.os = w.os
  tape : w'.tape = w.tape
  output : w'.output = w.output
  size : w.heap.size ≤ w'.heap.size
  block : ∀ k, k < w.heap.size → k ≠ ob → w'.heap[k]? = w.heap[k]?
theorem But.refl (ob : Nat) (w : World) : But ob w w := ⟨rfl, rfl, rfl, Nat.le_refl _, fun _ _ _ => rfl⟩
theorem But.trans {ob : Nat} {a b c : World} (h : But ob a b) (k : But ob b c) : But ob a c :=
  ⟨k.os.trans h.os, k.tape.trans h.tape, k.output.trans h.output, Nat.le_trans h.size k.size, fun i hi hn => (k.block i (Nat.lt_of_lt_of_le hi h.size) hn).trans (h.block i hi hn)⟩
theorem But.drew {ob : Nat} {a w : World} (h : But ob a w) : But ob a w.drew := ⟨h.os, h.tape, h.output, h.size, h.block⟩
theorem But.drewN {ob : Nat} {a w : World} (h : But ob a w) (q : Nat) : But ob a (w.drewN q) := ⟨h.os, h.tape, h.output, h.size, h.block⟩
theorem But.set {ob : Nat} {a w : World} (h : But ob a w) (i : Nat) (v : Value) : But ob a (w.setCell ⟨ob, i, none⟩ v) :=
  h.trans ⟨rfl, rfl, rfl, by simp [World.setCell], fun k _ hn => Below.heap_setCell _ _ _ _ hn⟩
theorem But.of_below {ob : Nat} {w w' : World} (h : Below w.heap.size w w') : But ob w w' := ⟨h.os, h.tape, h.output, h.size, fun k hk _ => h.block k hk⟩
theorem But.alloc {ob : Nat} {a w : World} (h : But ob a w) (o : Obj) : But ob a (w.alloc o) := h.trans (But.of_below ((Below.refl _ _).alloc (Nat.le_refl _) _))
theorem But.cell {ob : Nat} {w w' : World} (h : But ob w w') {p : Addr} (hp : p.block < w.heap.size) (hn : p.block ≠ ob) : w'.cell? p = w.cell? p := World.cell?_of_block (w := w) (h.block p.block hp hn)

/-- 'b[4:]': where it lies. -/
def TakeRes (w : World) (ob g off m : Nat) (e : Ending) (w' : World) : Prop :=
  e = .returned (.slice (some ⟨g, off, none⟩) 4 4) ∧ But ob w w' ∧ ∃ ad, (0 < m - 4 → ad = some ⟨g, off + 4, none⟩) ∧ Oct w' ob (.slice ad (m - 4) (m - 4)) .nilIface

set_option maxHeartbeats 400000 in
theorem take_yes (ob g off m : Nat) (w : World) (h : Oct w ob (.slice (some ⟨g, off, none⟩) m m) .nilIface) (h4 : 4 ≤ m) (hm : m ≤ 1024) :
    Calls Ybad.prog 6 #[.pointer (some ⟨ob, 0, none⟩), .int .i64 4] w fun e w' => TakeRes w ob g off m e w' := by
  have H := h
  obtain ⟨c0, c1, f0, f1⟩ := h
  have hle : (4 : Int) ≤ (m : Int) := by omega
  by_cases he : m = 4
  · subst he
    go_enter Ybad.func6, Ybad.ntmps6
    go_wp2
    go_region
    all_goals go_wp2
    go_ret
    exact ⟨rfl, ((But.refl ob w).set 0 _).drew, _, fun h => absurd h (Nat.lt_irrefl _), (H.set0 _).drew⟩
  · go_enter Ybad.func6, Ybad.ntmps6
    go_wp2
    go_region
    all_goals go_wp2
    go_ret
    exact ⟨rfl, ((But.refl ob w).set 0 _).drew, _, fun _ => rfl, (H.set0 _).drew⟩

theorem new_cells (w : World) (p q : Addr) (u v : Value) (c : Array Value) (t : TypeId) (j : Nat) : (((w.setCell p u).setCell q v).alloc (.cells c t)).cell? ⟨w.heap.size, j, none⟩ = c[j]? := by
  have h := World.cell?_alloc_new ((w.setCell p u).setCell q v) c t j
  rw [World.size_setCell, World.size_setCell] at h
  exact h

/-- The first read that falls short. -/
def ShortRes (w : World) (ob m : Nat) (e : Ending) (w' : World) : Prop :=
  e = .returned (.slice none 0 0) ∧ But ob w w' ∧ ∃ eb, w.heap.size ≤ eb ∧ Oct w' ob (.slice none 0 0) (.iface 37 (.pointer (some ⟨eb, 0, none⟩))) ∧ w'.cell? ⟨eb, 0, none⟩ = some (.int .i64 4) ∧ w'.cell? ⟨eb, 1, none⟩ = some (.int .i64 m)

set_option maxHeartbeats 400000 in
theorem take_short (ob : Nat) (ad : Option Addr) (m : Nat) (w : World) (h : Oct w ob (.slice ad m m) .nilIface) (h4 : m < 4) :
    Calls Ybad.prog 6 #[.pointer (some ⟨ob, 0, none⟩), .int .i64 4] w fun e w' => ShortRes w ob m e w' := by
  have H := h
  have hlt := h.lt
  obtain ⟨c0, c1, f0, f1⟩ := h
  have hle : ¬ (4 : Int) ≤ (m : Int) := by omega
  have HB := But.alloc (But.refl ob w) (.cells #[.int .i64 4, .int .i64 m] 40)
  have HO := H.alloc (.cells #[.int .i64 4, .int .i64 m] 40)
  obtain ⟨d0, d1, g0, g1⟩ := HO
  go_enter Ybad.func6, Ybad.ntmps6
  go_wp2
  go_ret
  exact ⟨rfl, (((But.refl ob w).set 1 _).set 0 _).alloc _, w.heap.size, Nat.le_refl _, ((H.set1 _).set0 _).alloc _, new_cells w _ _ _ _ _ _ 0, new_cells w _ _ _ _ _ _ 1⟩

set_option maxHeartbeats 400000 in
theorem take_again (ob : Nat) (x : Value) (w : World) (h : Oct w ob (.slice none 0 0) (.iface 37 x)) :
    Calls Ybad.prog 6 #[.pointer (some ⟨ob, 0, none⟩), .int .i64 4] w fun e w' => e = .returned (.slice none 0 0) ∧ w' = w := by
  obtain ⟨c0, c1, f0, f1⟩ := h
  go_enter Ybad.func6, Ybad.ntmps6
  go_wp2
  go_ret
  exact ⟨rfl, rfl⟩

def zeroA : Value := .agg #[.int .u64 0, .int .u64 0, .pointer none]
def addrA (a b c d : Int) (z : Addr) : Value := .agg #[.int .u64 0, .int .u64 (lo4 a b c d), .pointer (some z)]

theorem res_cells {w : World} {b : Nat} {x y z : Value} {t : TypeId} (h : w.heap[b]? = some (.cells #[x, y, z] t (0, 0))) :
    w.cell? ⟨b, 0, none⟩ = some x ∧ w.cell? ⟨b, 1, none⟩ = some y ∧ w.cell? ⟨b, 2, none⟩ = some z ∧ w.frozen? ⟨b, 0, none⟩ = false ∧ w.frozen? ⟨b, 1, none⟩ = false ∧ w.frozen? ⟨b, 2, none⟩ = false := by
  simp [World.cell?, World.frozen?, h]

theorem But.setNew {ob : Nat} {a w : World} (h : But ob a w) {p : Addr} (hp : a.heap.size ≤ p.block) (v : Value) : But ob a (w.setCell p v) :=
  ⟨h.os, h.tape, h.output, by rw [World.size_setCell]; exact h.size, fun k hk hn => (Below.heap_setCell w p v k (by omega)).trans (h.block k hk hn)⟩
theorem Oct.other {w : World} {ob : Nat} {b e : Value} (h : Oct w ob b e) {p : Addr} (hp : ob ≠ p.block) (v : Value) : Oct (w.setCell p v) ob b e := h.of_block (Below.heap_setCell w p v ob hp)

def V4Res (w : World) (ob g off m : Nat) (v : Value) (e : Ending) (w' : World) : Prop :=
  e = .returned v ∧ But ob w w' ∧ ∃ ad, (0 < m - 4 → ad = some ⟨g, off + 4, none⟩) ∧ Oct w' ob (.slice ad (m - 4) (m - 4)) .nilIface

set_option maxHeartbeats 400000 in
theorem ipv4_yes (ob g off m : Nat) (a b c d : Int) (z : Addr) (w : World) (h : Oct w ob (.slice (some ⟨g, off, none⟩) m m) .nilIface) (h4 : 4 ≤ m) (hm : m ≤ 1024) (hob : 0 < ob) (hg : g ≠ ob)
    (x0 : w.cell? ⟨g, off, none⟩ = some (.int .u8 a)) (x1 : w.cell? ⟨g, off + 1, none⟩ = some (.int .u8 b)) (x2 : w.cell? ⟨g, off + 2, none⟩ = some (.int .u8 c)) (x3 : w.cell? ⟨g, off + 3, none⟩ = some (.int .u8 d))
    (hz : w.cell? ⟨0, 0, none⟩ = some (.pointer (some z))) :
    Calls Ybad.prog 4 #[.pointer (some ⟨ob, 0, none⟩)] w fun e w' => V4Res w ob g off m (addrA a b c d z) e w' := by
  have har : ∀ w, (Instr.arrayAt 45 (.slice (some ⟨g, off, none⟩) 4 4)).run Ybad.prog w = .ok (.pointer (some ⟨g, off, none⟩)) w := fun w => by kernel_rfl
  have hgl : g < w.heap.size := World.block_lt_of_cell? _ _ x0
  have H1 := h.alloc (.cells #[.int .u64 0, .int .u64 0, .pointer none] 34)
  go_enter Ybad.func4, Ybad.ntmps4
  go_wp2_with fail
  refine (take_yes ob g off m _ H1 h4 hm).mono ?_
  rintro e w1 ⟨rfl, hbut, ad, had, ho⟩
  have hk : ∀ i, w1.cell? ⟨g, i, none⟩ = w.cell? ⟨g, i, none⟩ := fun i => (hbut.cell (p := ⟨g, i, none⟩) (by simp; omega) hg).trans (World.cell?_of_block (Below.heap_alloc w _ g hgl))
  have y0 := (hk off).trans x0
  have y1 := (hk (off + 1)).trans x1
  have y2 := (hk (off + 2)).trans x2
  have y3 := (hk (off + 3)).trans x3
  have yz : w1.cell? ⟨0, 0, none⟩ = some (.pointer (some z)) := (hbut.cell (p := ⟨0, 0, none⟩) (by simp) (Nat.ne_of_lt hob)).trans ((World.cell?_of_block (Below.heap_alloc w _ 0 (World.block_lt_of_cell? _ _ hz))).trans hz)
  clear hk
  go_wp2_with fail
  refine (from4_any a b c d z w1 yz).mono ?_
  rintro e w2 ⟨rfl, hbel⟩
  have hob2 : ob < w.heap.size := h.lt
  have hn : w.heap.size < w1.heap.size := by have := hbut.size; simp at this; omega
  have hk : w2.heap[w.heap.size]? = some (.cells #[.int .u64 0, .int .u64 0, .pointer none] 34 (0, 0)) :=
    (hbel.block _ hn).trans ((hbut.block w.heap.size (by simp) (by omega)).trans (heap_alloc_new w _))
  obtain ⟨r0, r1, r2, s0, s1, s2⟩ := res_cells hk
  have ho2 : Oct w2 ob (.slice ad (m - 4) (m - 4)) .nilIface := ho.of_block (hbel.block _ ho.lt)
  have hb2 : But ob w w2 := ((But.alloc (But.refl ob w) _).trans hbut).trans (But.of_below hbel)
  clear y0 y1 y2 y3 yz hk
  go_wp2_with fail
  exact bodyPost_ret (v := addrA a b c d z) (by simp [results, Ybad.results4, go_sem, r0, r1, r2, addrA]) rfl ⟨rfl, ((hb2.setNew (Nat.le_refl _) _).setNew (Nat.le_refl _) _).setNew (Nat.le_refl _) _, ad, had,
    ((ho2.other (Nat.ne_of_lt hob2) _).other (Nat.ne_of_lt hob2) _).other (Nat.ne_of_lt hob2) _⟩

def V4Short (w : World) (ob m : Nat) (e : Ending) (w' : World) : Prop :=
  e = .returned zeroA ∧ But ob w w' ∧ ∃ eb, w.heap.size ≤ eb ∧ Oct w' ob (.slice none 0 0) (.iface 37 (.pointer (some ⟨eb, 0, none⟩))) ∧ w'.cell? ⟨eb, 0, none⟩ = some (.int .i64 4) ∧ w'.cell? ⟨eb, 1, none⟩ = some (.int .i64 m)

set_option maxHeartbeats 400000 in
theorem ipv4_short (ob : Nat) (ad : Option Addr) (m : Nat) (w : World) (h : Oct w ob (.slice ad m m) .nilIface) (h4 : m < 4) :
    Calls Ybad.prog 4 #[.pointer (some ⟨ob, 0, none⟩)] w fun e w' => V4Short w ob m e w' := by
  have H1 := h.alloc (.cells #[.int .u64 0, .int .u64 0, .pointer none] 34)
  go_enter Ybad.func4, Ybad.ntmps4
  go_wp2_with fail
  refine (take_short ob ad m _ H1 h4).mono ?_
  rintro e w2 ⟨rfl, hbut, eb, heb, ho2, e0, e1⟩
  have hob2 : ob < w.heap.size := h.lt
  rw [World.size_alloc] at heb
  have hk : w2.heap[w.heap.size]? = some (.cells #[.int .u64 0, .int .u64 0, .pointer none] 34 (0, 0)) := (hbut.block w.heap.size (by simp) (by omega)).trans (heap_alloc_new w _)
  obtain ⟨r0, r1, r2, s0, s1, s2⟩ := res_cells hk
  have hb2 : But ob w w2 := (But.alloc (But.refl ob w) _).trans hbut
  clear hk
  go_wp2_with fail
  refine bodyPost_ret (v := zeroA) (by simp [results, Ybad.results4, go_sem, r0, r1, r2, zeroA]) rfl ⟨rfl, ((hb2.setNew (Nat.le_refl _) _).setNew (Nat.le_refl _) _).setNew (Nat.le_refl _) _, eb, by omega,
    ((ho2.other (Nat.ne_of_lt hob2) _).other (Nat.ne_of_lt hob2) _).other (Nat.ne_of_lt hob2) _, ?_, ?_⟩
  · exact (World.cell?_setCell_far _ ⟨w.heap.size, 2, none⟩ ⟨eb, 0, none⟩ _ (Nat.ne_of_lt heb)).trans ((World.cell?_setCell_far _ ⟨w.heap.size, 1, none⟩ ⟨eb, 0, none⟩ _ (Nat.ne_of_lt heb)).trans ((World.cell?_setCell_far _ ⟨w.heap.size, 0, none⟩ ⟨eb, 0, none⟩ _ (Nat.ne_of_lt heb)).trans e0))
  · exact (World.cell?_setCell_far _ ⟨w.heap.size, 2, none⟩ ⟨eb, 1, none⟩ _ (Nat.ne_of_lt heb)).trans ((World.cell?_setCell_far _ ⟨w.heap.size, 1, none⟩ ⟨eb, 1, none⟩ _ (Nat.ne_of_lt heb)).trans ((World.cell?_setCell_far _ ⟨w.heap.size, 0, none⟩ ⟨eb, 1, none⟩ _ (Nat.ne_of_lt heb)).trans e1))

set_option maxHeartbeats 400000 in
theorem ipv4_again (ob : Nat) (x : Value) (w : World) (h : Oct w ob (.slice none 0 0) (.iface 37 x)) :
    Calls Ybad.prog 4 #[.pointer (some ⟨ob, 0, none⟩)] w fun e w' => e = .returned zeroA ∧ Below w.heap.size w w' := by
  have H1 := h.alloc (.cells #[.int .u64 0, .int .u64 0, .pointer none] 34)
  go_enter Ybad.func4, Ybad.ntmps4
  go_wp2_with fail
  refine (take_again ob x _ H1).mono ?_
  rintro e w2 ⟨rfl, hw⟩
  subst hw
  go_wp2_with fail
  exact bodyPost_ret (v := zeroA) (by simp [results, Ybad.results4, go_sem, zeroA]) rfl ⟨rfl, (Below.refl _ _).alloc (Nat.le_refl _) _⟩
end Go.Proofs.YbulkbtugDoor
