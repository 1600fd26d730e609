/-
  The walk of LawS3520BScript (3).
-/
import Derived.Test.YbulkbtwkDoorS9
namespace Go.Proofs.YbulkbtwkDoor
open Go.RowKit

/-- The script, as the walk sees it. -/
structure OpsAt (W : World) (a : Option Addr) (b o len : Nat) (ops : Nat → Nat × Nat × Int) : Prop where
  addr : 0 < len → a = some ⟨b, o, none⟩
  lt : 0 < len → b < W.heap.size
  op : ∀ i, i < len → W.cell? ⟨b, o + i * 3, none⟩ = some (.int .u8 ((ops i).1 : Int))
  k : ∀ i, i < len → W.cell? ⟨b, o + i * 3 + 1, none⟩ = some (.int .u8 ((ops i).2.1 : Int))
  mark : ∀ i, i < len → W.cell? ⟨b, o + i * 3 + 2, none⟩ = some (.int .i64 (ops i).2.2)
  ob : ∀ i, i < len → (ops i).1 < 256
  kb : ∀ i, i < len → (ops i).2.1 < 256
  mb : ∀ i, i < len → (Lit.int .i64 (ops i).2.2).wf = true

theorem inv_start (W : World) (hg : W.cell? ⟨0, 0, none⟩ = some (.int .i64 8)) : Inv W (W.alloc (.cells #[.slice none 0 0, .map none] 26 (0, 0))) W.heap.size W.heap.size (.slice none 0 0) [] 0 := by
  have hp : 0 < W.heap.size := Nat.lt_of_le_of_lt (Nat.zero_le _) (World.block_lt_of_cell? _ _ hg)
  have hb : Below W.heap.size W (W.alloc (.cells #[.slice none 0 0, .map none] 26 (0, 0))) := (Below.refl _ _).alloc (Nat.le_refl _) _
  refine ⟨⟨_, _, heap_alloc_new W _, Nat.le_refl _, World.ownsRow_nil _ _ _ _, .inl rfl⟩, World.ownsRow_nil _ _ _ _, ?_, ?_, Nat.le_refl _, hb, hp, (hb.cell hp).trans hg⟩
  · intro i j hi; cases hi
  · intro i hi; cases hi

set_option maxHeartbeats 1600000 in
theorem law_long (a : Option Addr) (len cp : Nat) (W : World) (hlen : 1024 < len) : Calls Ybad.prog 3 #[.slice a len cp] W fun e w' => e = .returned (.bool true) ∧ Below W.heap.size W w' := by
  have h1 : (1024 : Int) < (len : Int) := by omega
  go_enter Ybad.func3, Ybad.ntmps3
  go_wp2
  go_ret
  exact ⟨rfl, Below.refl _ _⟩

theorem find_inv {W0 w : World} {B sb n N cp : Nat} {a : Option Addr} {L : Sps} (h : Inv W0 w B sb (.slice a N cp) L n) (hn : n ≤ 1024) (s : ByteArray) : Calls Ybad.prog 5 #[.slice a N cp, .string s] w fun e w' => Found L s e ∧ w' = w := by
  obtain ⟨a2, g2, cp2, e2, hr2⟩ := row_at h.model rfl
  simp only [Value.slice.injEq] at e2
  obtain ⟨rfl, rfl, rfl⟩ := e2
  have := h.len
  exact find_model a g2 L.length cp L s w hr2 rfl (by omega)

theorem found_split {L : Sps} {s : ByteArray} {e : Ending} (h : Found L s e) : ∃ (jv : Nat) (fv : Bool), e = .returned (.tuple #[.int .i64 (jv : Int), .bool fv]) ∧ ((fv = true ∧ ix L s = some jv) ∨ (fv = false ∧ jv = 0 ∧ ix L s = none)) := by
  unfold Found at h
  cases hx : ix L s with
  | none => rw [hx] at h; exact ⟨0, false, h, .inr ⟨rfl, rfl, rfl⟩⟩
  | some j => rw [hx] at h; exact ⟨j, true, h, .inl ⟨rfl, rfl⟩⟩
theorem two_cells' (w : World) (s : ByteArray) (m : Int) : ∀ j u, [Value.string s, .int .i64 m][j]? = some u → (w.alloc (.cells #[.string s, .int .i64 m] 35)).cell? ((⟨w.heap.size, 0, none⟩ : Addr).add j) = some u := fun j u hu => by
  rw [Addr.add_lit, World.cell?_alloc_new]
  match j with
  | 0 => simpa using hu
  | 1 => simpa using hu
  | j + 2 => simp at hu
theorem set_done {W0 w w3 : World} {B sb n N : Nat} {md v v' : Value} {L L' L2 : Sps} {s : ByteArray} {m : Int} {o : Obj} (h : Half W0 w B sb md L L' n) (hL : L' = L2 ++ [(s, m)]) (hN : N = L2.length) (hv : (w.alloc o).ownsRow B 35 2 v N (cellsL L2)) (hown : w3.ownsRow B 35 2 v' (N + 1) (cellsL L2 ++ [.string s, .int .i64 m])) (hgrow : (w.alloc o).grownBy w3 v.ownBlock) :
    ∃ a' cp', v' = .slice a' (N + 1) cp' ∧ Inv W0 w3 B sb (.slice a' (N + 1) cp') L' (n + 1) := by
  subst hL hN
  have hown2 : w3.ownsRow B 35 2 v' (L2 ++ [(s, m)]).length (cellsL (L2 ++ [(s, m)])) := by rw [cellsL_append]; rw [List.length_append]; exact hown
  have hD := ((h.quiet (World.grownBy_alloc w o none)).turn hv hgrow hown2).closes
  obtain ⟨a', g', cp', e, _⟩ := row_at hown2 rfl
  refine ⟨a', cp', by rw [e]; simp, ?_⟩
  rw [e] at hD
  simpa using hD
theorem box_kept {B : Nat} {w w' : World} {ob : Nat} {op k : Value} {mkv : Int} (hf : Fr B w w') (h : w.heap[ob]? = some (.cells #[op, k, .int .i64 mkv] 29 (0, 0))) : w'.cell? ⟨ob, 2, none⟩ = some (.int .i64 mkv) := by
  rw [cell_of_row w' ob _ _ 29 (0, 0) ((hf.kept ob _ 29 (0, 0) h (by decide) (by decide)).trans h)]; rfl
theorem news_take {w : World} {B N n g cp : Nat} {L : Sps} (h : w.ownsRow B 35 2 (.slice (some ⟨g, 0, none⟩) N cp) n (cellsL L)) (k : Nat) : ∀ j u, (cellsL (L.take k))[j]? = some u → w.cell? ((⟨g, 0, none⟩ : Addr).add j) = some u := fun j u hu => by
  rw [cellsL_take, List.getElem?_take] at hu
  split at hu
  · exact h.cells (g := g) rfl j u hu
  · cases hu
theorem news_drop {w : World} {B N n g cp : Nat} {L : Sps} (h : w.ownsRow B 35 2 (.slice (some ⟨g, 0, none⟩) N cp) n (cellsL L)) (k : Nat) {ad : Addr} (hn : n = L.length) (hads : 0 < n - k → ad = ⟨g, k * 2, none⟩) : ∀ j u, (cellsL (L.drop k))[j]? = some u → w.cell? (ad.add j) = some u := fun j u hu => by
  have hj : j < (cellsL (L.drop k)).length := (List.getElem?_eq_some_iff.1 hu).1
  rw [cellsL_length, List.length_drop] at hj
  rw [hads (by omega)]
  rw [cellsL_drop, List.getElem?_drop] at hu
  have := h.cells (g := g) rfl (k * 2 + j) u hu
  rw [Addr.add_lit] at this ⊢
  simpa using this
theorem Half.beside {W0 w w' : World} {B sb n m : Nat} {md v : Value} {L L' : Sps} {xs : List Value} (h : Half W0 w B sb md L L' n) (hv : w.ownsRow B 35 2 v m xs) (hg : w.grownBy w' v.ownBlock) (hne : md.ownBlock ≠ v.ownBlock) : Half W0 w' B sb md L L' n :=
  h.turn hv hg (h.model.kept hg (.inr hne))
theorem row_form {w : World} {B E n : Nat} {v : Value} {xs : List Value} (h : w.ownsRow B E 2 v n xs) : ∃ a cp, v = .slice a n cp := by
  rcases h.2 with ⟨rfl, rfl⟩ | ⟨g, cap, cur, rfl, _⟩
  · exact ⟨none, 0, rfl⟩
  · exact ⟨_, _, rfl⟩
theorem Half.lt {W0 w : World} {B sb n N cp g : Nat} {L L' : Sps} (h : Half W0 w B sb (.slice (some ⟨g, 0, none⟩) N cp) L L' n) : g < w.heap.size := by
  rcases h.model.2 with ⟨e, _⟩ | ⟨g', cap, cur, e, _, hg, _⟩
  · cases e
  · cases e; exact lt_of_blk hg
/-- Behind the second append: the model without the entry. -/
theorem struck {W0 w w' : World} {B sb n M jv : Nat} {md v v' : Value} {L L' : Sps} (h : Half W0 w B sb md L L' n) (hm : M + 1 = L.length) (hj : jv ≤ M) (hv : w.ownsRow B 35 2 v jv (cellsL (L.take jv))) (hown : w'.ownsRow B 35 2 v' (jv + (M - jv)) (cellsL (L.take jv) ++ cellsL (L.drop (jv + 1)))) (hg : w.grownBy w' v.ownBlock) :
    ∃ a cp, v' = .slice a M cp ∧ Half W0 w' B sb (.slice a M cp) (L.eraseIdx jv) L' n ∧ w'.ownsRow B 35 2 (.slice a M cp) M (cellsL (L.eraseIdx jv)) := by
  have hM : jv + (M - jv) = M := by omega
  rw [hM, ← cellsL_append, ← List.eraseIdx_eq_take_drop_succ] at hown
  have hE : (L.eraseIdx jv).length = M := by rw [List.length_eraseIdx_of_lt (by omega), ← hm]; omega
  obtain ⟨a, cp, rfl⟩ := row_form hown
  exact ⟨a, cp, rfl, h.turn hv hg (by rw [hE]; exact hown), hown⟩
theorem box_grown {w w' : World} {B n ob : Nat} {v : Value} {xs : List Value} {cs : Array Value} (h : w.heap[ob]? = some (.cells cs 29 (0, 0))) (hv : w.ownsRow B 35 2 v n xs) (hg : w.grownBy w' v.ownBlock) : w'.heap[ob]? = some (.cells cs 29 (0, 0)) :=
  (hg.block ob (lt_of_blk h) (fun e => row_ne hv h (fun cs e => by cases e) e.symm)).trans h
theorem Inv.later {W0 w : World} {B sb n : Nat} {md : Value} {L : Sps} (h : Inv W0 w B sb md L n) : Inv W0 w B sb md L (n + 1) := ⟨h.sv, h.model, h.nd, h.fits, Nat.le_succ_of_le h.len, h.bel, h.pos, h.g0⟩
theorem Half.cut {W0 w : World} {B sb n N cp j : Nat} {a : Option Addr} {L : Sps} (h : Half W0 w B sb (.slice a N cp) L (L.take (j + 1)) n) (hj : j < L.length) : Inv W0 w B sb (.slice a (j + 1) cp) (L.take (j + 1)) (n + 1) :=
  ⟨h.sv, take_row h.model hj, h.nd, h.fits, h.len, h.bel, h.pos, h.g0⟩
theorem Inv.rbNone {W0 w : World} {B sb n : Nat} {md : Value} {L : Sps} (h : Inv W0 w B sb md L n) (hn : n ≤ 1024) {s : ByteArray} (hs : s.size ≤ maxLen) (hx : ix L s = none) : Calls Ybad.prog 6 #[.pointer (some ⟨sb, 0, none⟩), .string s] w fun e w' => RbNone w e w' := by
  obtain ⟨lv, mv, hv⟩ := h.sv
  have := h.len
  exact rb_none B sb lv mv L s w hv (by omega) hs hx
def RbInv (W0 : World) (B sb : Nat) (md : Value) (L : Sps) (j n : Nat) (e : Ending) (w' : World) : Prop := e = .returned (.tuple #[.int .i64 (mkA L j), .bool true]) ∧ Half W0 w' B sb md L (L.take (j + 1)) n
theorem Inv.rbSome {W0 w : World} {B sb n : Nat} {md : Value} {L : Sps} (h : Inv W0 w B sb md L n) (hn : n ≤ 1024) {s : ByteArray} (hs : s.size ≤ maxLen) {j : Nat} (hx : ix L s = some j) : Calls Ybad.prog 6 #[.pointer (some ⟨sb, 0, none⟩), .string s] w fun e w' => RbInv W0 B sb md L j n e w' := by
  obtain ⟨lv, mv, hv⟩ := h.sv
  have := h.len
  refine (rb_any B sb lv mv L s w hv h.pos h.g0 (by omega) h.nd h.fits hs j hx).mono ?_
  rintro e w' ⟨rfl, hp⟩
  exact ⟨rfl, h.half hp (h.nd.take _) (h.fits.take _) (by simp; omega)⟩
def SetInv (W0 w : World) (B sb : Nat) (md : Value) (L : Sps) (s : ByteArray) (m : Int) (n : Nat) (e : Ending) (w' : World) : Prop := e = .returned (.tuple #[]) ∧ Half W0 w' B sb md L (setL L s m) n ∧ Fr B w w'
theorem Inv.calledSet {W0 w : World} {B sb n : Nat} {md : Value} {L : Sps} (h : Inv W0 w B sb md L n) (hn : n < 1024) {s : ByteArray} (hs : s.size ≤ maxLen) {m : Int} (hm : (Lit.int .i64 m).wf = true) : Calls Ybad.prog 7 #[.pointer (some ⟨sb, 0, none⟩), .string s, .int .i64 m] w fun e w' => SetInv W0 w B sb md L s m n e w' := by
  obtain ⟨lv, mv, hv⟩ := h.sv
  have := h.len
  refine (set_any B sb lv mv L s m w hv h.pos h.g0 (by omega) h.nd h.fits hs hm).mono ?_
  rintro e w' ⟨rfl, hp⟩
  exact ⟨rfl, h.half hp (setL_nd h.nd s m) (h.fits.set hs hm) (by have := setL_len L s m; omega), hp.2⟩
theorem Half.mark {W0 w : World} {B sb n N cp g j : Nat} {L L' : Sps} (h : Half W0 w B sb (.slice (some ⟨g, 0, none⟩) N cp) L L' n) (hj : j < L.length) : w.cell? ⟨g, j * 2 + 1, none⟩ = some (.int .i64 (mkA L j)) := by
  obtain ⟨a2, g2, cp2, e2, hr2⟩ := row_at h.model rfl
  simp only [Value.slice.injEq] at e2
  have ha := hr2.addr (by omega)
  rw [← e2.1] at ha
  obtain rfl : g = g2 := by simpa using ha
  exact hr2.mark j hj
theorem Inv.addr {W0 w : World} {B sb n N cp j : Nat} {a : Option Addr} {L : Sps} (h : Inv W0 w B sb (.slice a N cp) L n) (hj : j < L.length) : ∃ g, a = some ⟨g, 0, none⟩ ∧ j + 1 ≤ cp ∧ N ≤ cp := by
  rcases h.model.2 with ⟨_, h0⟩ | ⟨g, cap, cur, e2, hB, hg, hle, _⟩
  · omega
  · simp only [Value.slice.injEq] at e2
    obtain ⟨rfl, rfl, rfl⟩ := e2
    exact ⟨g, rfl, by omega, by omega⟩

set_option maxHeartbeats 3200000 in
set_option maxRecDepth 100000 in
theorem law_walk (a : Option Addr) (b o len cp : Nat) (ops : Nat → Nat × Nat × Int) (W : World) (h : OpsAt W a b o len ops) (hlen : len ≤ 1024) (hg : W.cell? ⟨0, 0, none⟩ = some (.int .i64 8)) :
    Calls Ybad.prog 3 #[.slice a len cp] W fun e w' => e = .returned (.bool true) ∧ Below W.heap.size W w' := by
  have h1 : ¬ (1024 : Int) < (len : Int) := by omega
  have HO := hide h
  obtain ⟨i0, hi, hz0, hz1, hz2⟩ := info_parts Ybad.info35
  clear h
  go_enter Ybad.func3, Ybad.ntmps3
  go_wp2
  go_loopg [4, 5, 6, 7, 8, 9, 10, 11, 12] len (fun k md iv _b _nm _j _fd _mk _ok _nx wr => ∃ n L N c2 a2, k = len - n ∧ n ≤ len ∧ iv = .int .i64 (n : Nat) ∧ md = .slice a2 N c2 ∧ N = L.length ∧ Inv W wr W.heap.size W.heap.size (.slice a2 N c2) L n)
  case atStart => exact ⟨0, [], 0, 0, none, rfl, Nat.zero_le _, rfl, rfl, rfl, inv_start W hg⟩
  case round =>
    obtain ⟨n, L, N, c2, a2, hk, hn, rfl, rfl, hN, hinv⟩ := hrel
    have HI := hide hinv
    have HN := hide hN
    clear hinv hN
    by_cases hlt : n < len
    · have hlt' : (n : Int) < (len : Int) := by omega
      obtain rfl := HO.out.addr (by omega)
      have hbl := HO.out.lt (by omega)
      have o1 := (HI.out.bel.cell (p := ⟨b, o + n * 3, none⟩) hbl).trans (HO.out.op n hlt)
      have o2 := (HI.out.bel.cell (p := ⟨b, o + n * 3 + 1, none⟩) hbl).trans (HO.out.k n hlt)
      have o3 := (HI.out.bel.cell (p := ⟨b, o + n * 3 + 2, none⟩) hbl).trans (HO.out.mark n hlt)
      have p1 := HO.out.ob n hlt
      have p2 := HO.out.kb n hlt
      have p3 := HO.out.mb n hlt
      generalize (ops n).1 = opv at *
      generalize (ops n).2.1 = kv at *
      generalize (ops n).2.2 = mkv at *
      go_upto_if 38 with (first | (go_at_call 4; refine (name_any kv p2 _).mono ?_; rintro e w' ⟨s, cs5, rfl, hs, rfl⟩) | (go_at_call 5; refine (find_inv ((HI.out.quiet (World.grownBy_alloc _ _ none)).quiet (World.grownBy_alloc _ _ none)) (by omega) s).mono ?_; rintro e w' ⟨hF, rfl⟩; obtain ⟨jv, fv, hF2, hjf⟩ := found_split hF; subst hF2; clear hF))
      have HI1 := hide ((HI.out.quiet (World.grownBy_alloc _ (.cells #[.int .u8 opv, .int .u8 kv, .int .i64 mkv] 29 (0, 0)) none)).quiet (World.grownBy_alloc _ (.cells cs5 5 (0, 0)) none))
      have hbx : ((wr.alloc (.cells #[.int .u8 opv, .int .u8 kv, .int .i64 mkv] 29 (0, 0))).alloc (.cells cs5 5 (0, 0))).heap[wr.heap.size]? = some (.cells #[.int .u8 opv, .int .u8 kv, .int .i64 mkv] 29 (0, 0)) := (Below.heap_alloc _ _ _ (by simp)).trans (heap_alloc_new wr _)
      generalize hw1 : (wr.alloc (.cells #[.int .u8 opv, .int .u8 kv, .int .i64 mkv] 29 (0, 0))).alloc (.cells cs5 5 (0, 0)) = w1 at *
      generalize hob : wr.heap.size = ob at *
      clear hw1 hob HI
      have HBx := hide hbx
      have y2 : w1.cell? ⟨ob, 2, none⟩ = some (.int .i64 mkv) := by rw [cell_of_row w1 ob _ _ 29 (0, 0) hbx]; rfl
      clear hbx o1 o2 o3
      by_cases hop : opv % 3 = 0
      · have hb : ((opv : Int) % 3 == 0) = true := by simp; omega
        clear hop
        rcases hjf with ⟨rfl, hx⟩ | ⟨rfl, rfl, hx⟩
        · have HX := hide hx
          have hjl := ix_lt hx
          have hjN : jv < N := by rw [HN.out]; exact hjl
          obtain ⟨gm, rfl, hjc, hNc⟩ := HI1.out.addr hjl
          have hjb : jv < 1024 := by have := HI1.out.len; omega
          have b3 : (0 : Int) ≤ (jv : Int) + 1 := by omega
          have e2 : (mkA L jv != mkA L jv) = false := by simp
          have HJ := hide hjl
          clear hx hjl
          go_wp2_with (first | (go_at_call 6; refine (HI1.out.rbSome (by omega) hs HX.out).mono ?_; rintro e w2 ⟨rfl, hh⟩; have HH := hide hh; have cm := hh.mark HJ.out; clear hh) | (go_at_call 8; refine (same_inv (HH.out.cut HJ.out) (by omega)).mono ?_; rintro e w' ⟨rfl, q2, rfl⟩))
          go_roundg (len - (n + 1))
          case measure => omega
          case rel => exact ⟨n + 1, L.take (jv + 1), jv + 1, c2, _, rfl, by omega, by go_num, rfl, (by have := HJ.out; simp; omega), ((HH.out.cut HJ.out).quiet (grown_drewN _ _ _))⟩
        · have HX := hide hx
          clear hx
          go_wp2_with (first | (go_at_call 6; refine (HI1.out.rbNone (by omega) hs HX.out).mono ?_; rintro e w' ⟨rfl, q, rfl⟩) | (go_at_call 8; refine (same_inv (HI1.out.quiet (grown_drewN _ q _)) (by omega)).mono ?_; rintro e w' ⟨rfl, q2, rfl⟩))
          go_roundg (len - (n + 1))
          case measure => omega
          case rel => exact ⟨n + 1, L, N, c2, a2, rfl, by omega, by go_num, rfl, HN.out, ((HI1.out.quiet (grown_drewN _ _ _))).later⟩
      · have hb : ((opv : Int) % 3 == 0) = false := by simp; omega
        clear hop
        rcases hjf with ⟨rfl, hx⟩ | ⟨rfl, rfl, hx⟩
        · have HX : Hid (setL L s mkv = L.eraseIdx jv ++ [(s, mkv)]) := by unfold Hid setL strike; rw [hx]
          have hjl := ix_lt hx
          have hjN : jv < N := by rw [HN.out]; exact hjl
          obtain ⟨gm, rfl, hjc, hNc⟩ := HI1.out.addr hjl
          have hjb : jv < 1024 := by have := HI1.out.len; omega
          have hNb : N ≤ 1024 := by have := HI1.out.len; have := HN.out; omega
          have b3 : (0 : Int) ≤ (jv : Int) + 1 := by omega
          have b4 : jv ≤ c2 := by omega
          obtain ⟨M, rfl⟩ : ∃ M, N = M + 1 := ⟨N - 1, by omega⟩
          have hjM : jv ≤ M := by omega
          have HE : Hid ((L.eraseIdx jv).length = M) := by unfold Hid; rw [List.length_eraseIdx_of_lt hjl, ← HN.out]; omega
          have HLt : Hid ((cellsL (L.take jv)).length = jv * 2) := by unfold Hid; rw [cellsL_length]; simp; omega
          have HLd : Hid ((cellsL (L.drop (jv + 1))).length = (M - jv) * 2) := by unfold Hid; rw [cellsL_length, List.length_drop, ← HN.out]; omega
          obtain ⟨ad, had, hads⟩ : ∃ ad : Addr, (if c2 = jv + 1 then some (⟨gm, 0, none⟩ : Addr) else some ⟨gm, (jv + 1) * 2, none⟩) = some ad ∧ (0 < M - jv → ad = ⟨gm, (jv + 1) * 2, none⟩) := by
            by_cases hc : c2 = jv + 1
            · exact ⟨_, if_pos hc, fun h => absurd h (by omega)⟩
            · exact ⟨_, if_neg hc, fun _ => rfl⟩
          have Hads := hide hads
          have HJ := hide hjl
          clear hx hjl hads
          go_wp2_with (first | (go_at_call 7; refine (HI1.out.calledSet (by omega) hs p3).mono ?_; rintro e w2 ⟨rfl, hh, hfr⟩; have HH := hide hh; obtain ⟨wm, hmk, hmo, hmg⟩ := run_make_own (P := Ybad.prog) w2 W.heap.size 27 35 i0 _ 2 Ybad.underlying27 hi hz0 hz1 .i64 .i64 (M + 1) (by rw [hz2]; omega) (by unfold maxLen; omega) hh.le; have HHm := hide (hh.quiet hmg); have HMo := hide hmo; have Hne : Hid (gm ≠ w2.heap.size) := Nat.ne_of_lt hh.lt; have HBm := hide ((hmg.block ob (lt_of_blk ((hfr.kept ob _ 29 (0, 0) HBx.out (by decide) (by decide)).trans HBx.out)) (by simp)).trans ((hfr.kept ob _ 29 (0, 0) HBx.out (by decide) (by decide)).trans HBx.out)); rw [show ((M + 1 : Nat) : Int) = (M : Int) + 1 from rfl] at hmk; clear hh hfr hmo hmg) | (go_at_call 8; refine (same_inv HD.out (by omega)).mono ?_; rintro e w' ⟨rfl, q2, rfl⟩) | (at_builtin; refine wpList_append_own_at _ rfl (.tmp 69) (.tmp 72) 27 rfl W.heap.size 35 i0 _ 2 24 Ybad.underlying27 hi hz0 hz1 hz2 rfl (by decide) (.slice (some ⟨w2.heap.size, 0, none⟩) 0 (M + 1)) 0 [] rfl HMo.out ⟨gm, 0, none⟩ jv c2 (cellsL (L.take jv)) rfl HLt.out (news_take HHm.out.model jv) (fun u hu => cellsL_one _ u hu) (by unfold maxLen; omega) (by omega) HHm.out.le ?_; intro v1 wa hown1 hgrow1 _ hat1; rw [Nat.zero_add, List.nil_append] at hown1; have HHa := hide (HHm.out.beside HMo.out hgrow1 (fun e => Hne.out (by cases e; rfl))); obtain ⟨a1, cp1, rfl⟩ := row_form hown1; have Hne1 : Hid (gm < wm.heap.size) := HHm.out.lt; have HBa := hide (box_grown HBm.out HMo.out hgrow1); have HO1 := hide hown1; clear hown1 hgrow1 hat1) | (at_builtin; refine wpList_append_own_at _ rfl (.tmp 74) (.tmp 78) 27 rfl W.heap.size 35 i0 _ 2 24 Ybad.underlying27 hi hz0 hz1 hz2 rfl (by decide) (.slice a1 jv cp1) jv (cellsL (L.take jv)) rfl HO1.out ad (M - jv) (c2 - (jv + 1)) (cellsL (L.drop (jv + 1))) rfl HLd.out (news_drop HHa.out.model (jv + 1) rfl (by rw [← HN.out]; exact fun h => Hads.out (by omega))) (fun u hu => cellsL_one _ u hu) (by unfold maxLen; omega) (by omega) HHa.out.le ?_; intro v2 wb hown2 hgrow2 _ _; obtain ⟨a3, cp3, rfl, hh3, hr3⟩ := struck HHa.out HN.out (by omega) HO1.out hown2 hgrow2; have HH3 := hide hh3; have HR3 := hide hr3; have y4 : wb.cell? ⟨ob, 2, none⟩ = some (.int .i64 mkv) := by { rw [cell_of_row wb ob _ _ 29 (0, 0) (box_grown HBa.out HO1.out hgrow2)]; rfl }; clear hown2 hgrow2 hh3 hr3) | (at_builtin; have HV := hide (kept_none HR3.out (World.grownBy_alloc wb (.cells #[.string s, .int .i64 mkv] 35 (0, 0)) none)); refine wpList_append_own_at _ rfl (.tmp 81) (.tmp 86) 27 rfl W.heap.size 35 i0 _ 2 24 Ybad.underlying27 hi hz0 hz1 hz2 rfl (by decide) (.slice a3 M cp3) M (cellsL (L.eraseIdx jv)) rfl HV.out ⟨wb.heap.size, 0, none⟩ 1 1 [.string s, .int .i64 mkv] rfl rfl (two_cells' _ _ _) (two_one _ _) (by unfold maxLen; omega) (by omega) (by have := HH3.out.le; simp; omega) ?_; intro v' w3 hown' hgrow _ _; obtain ⟨a', cp', rfl, hd⟩ := set_done HH3.out HX.out HE.out.symm HV.out hown' hgrow; have HD := hide hd; clear hd hown' hgrow HV))
          go_roundg (len - (n + 1))
          case measure => omega
          case rel => exact ⟨n + 1, setL L s mkv, M + 1, cp', a', rfl, by omega, by go_num, rfl, (by rw [HX.out, List.length_append, HE.out]; rfl), (HD.out.quiet (grown_drewN _ _ _))⟩
        · have HX : Hid (setL L s mkv = L ++ [(s, mkv)]) := by unfold Hid setL strike; rw [hx]
          have hNb : N ≤ 1024 := by have := HI1.out.len; have := HN.out; omega
          clear hx
          go_wp2_with (first | (go_at_call 7; refine (HI1.out.calledSet (by omega) hs p3).mono ?_; rintro e w2 ⟨rfl, hh, hfr⟩; have y3 := box_kept hfr HBx.out; have HH := hide hh; clear hh hfr) | (go_at_call 8; refine (same_inv HD.out (by omega)).mono ?_; rintro e w' ⟨rfl, q2, rfl⟩) | (at_builtin; have HV := hide (kept_none (by have := HH.out.model; rw [← HN.out] at this; exact this) (World.grownBy_alloc w2 (.cells #[.string s, .int .i64 mkv] 35 (0, 0)) none)); refine wpList_append_own_at _ rfl _ _ 27 rfl W.heap.size 35 i0 _ 2 24 Ybad.underlying27 hi hz0 hz1 hz2 rfl (by decide) (.slice a2 N c2) N (cellsL L) rfl HV.out ⟨w2.heap.size, 0, none⟩ 1 1 [.string s, .int .i64 mkv] rfl rfl (two_cells' _ _ _) (two_one _ _) (by unfold maxLen; omega) (by omega) (by have := HH.out.le; simp; omega) ?_; intro v' w3 hown' hgrow _ _; obtain ⟨a', cp', rfl, hd⟩ := set_done HH.out HX.out HN.out HV.out hown' hgrow; have HD := hide hd; clear hd hown' hgrow HV))
          go_roundg (len - (n + 1))
          case measure => omega
          case rel => exact ⟨n + 1, setL L s mkv, N + 1, cp', a', rfl, by omega, by go_num, rfl, (by rw [HX.out, HN.out]; simp), (HD.out.quiet (grown_drewN _ _ _))⟩
    · obtain rfl : n = len := by omega
      go_wp2_with fail
      go_ret
      exact ⟨rfl, HI.out.bel⟩
end Go.Proofs.YbulkbtwkDoor
