import Derived.Test.YbulkbtugDoorS2
namespace Go.Proofs.YbulkbtugDoor
open Go.RowKit

theorem Ybad.info5 : (Ybad.prog.info? 5).map (fun i => (i.zero, i.size, i.bytes)) = some (some (.int .u8 0), 1, 1) := by kernel_rfl
theorem Ybad.size5 : (Ybad.prog.info? 5).map (·.size) = some 1 := by kernel_rfl

/-- 'make' and 'copy' behind it: a new row that holds what the source held. -/
theorem fill_copy (T E ty : TypeId) (z : Value) (n cp : Nat) (a : Option Addr) (b o : Nat) (cs : List Value) (w : World) (hu : Ybad.prog.underlying T = some (.slice E)) (hsz : (Ybad.prog.info? E).map (·.size) = some 1)
    (hl : cs.length = n) (ha : 0 < n → a = some ⟨b, o, none⟩) (hb : 0 < n → b < w.heap.size) (hc : ∀ i, i < n → w.cell? ⟨b, o + i, none⟩ = cs[i]?) (h1 : ∀ v ∈ cs, v.oneCell' = true) :
    ∃ w2, (Builtin.copy_ #[T, T] ty #[.slice (some ⟨w.heap.size, 0, none⟩) n n, .slice a n cp]).run Ybad.prog (w.alloc (.cells (madeCells #[z] n) E)) = .ok (goInt n) w2 ∧
      Below w.heap.size w w2 ∧ w2.heap.size = w.heap.size + 1 ∧ (∀ i, i < n → w2.cell? ⟨w.heap.size, i, none⟩ = cs[i]?) := by
  have hnew : (w.alloc (.cells (madeCells #[z] n) E)).heap[w.heap.size]? = some (.cells (madeCells #[z] n) E (0, 0)) := heap_alloc_new w _
  have hbel : Below w.heap.size w (w.alloc (.cells (madeCells #[z] n) E)) := (Below.refl _ _).alloc (Nat.le_refl _) _
  by_cases h0 : n = 0
  · subst h0
    exact ⟨_, run_copy_none (P := Ybad.prog) _ T T ty E _ a 0 0 0 cp hu hsz rfl, hbel, by simp, fun i h => absurd h (Nat.not_lt_zero _)⟩
  · obtain rfl := ha (by omega)
    have hbw := hb (by omega)
    have hrun := run_copy_row (P := Ybad.prog) (w.alloc (.cells (madeCells #[z] n) E)) T T ty E w.heap.size 0 n n ⟨b, o, none⟩ n cp (madeCells #[z] n) E cs hu hsz hnew (by rw [hl]; exact (Nat.min_self n).symm)
      (fun j v hj => by
        have hjn : j < n := by rw [← hl]; exact (List.getElem?_eq_some_iff.1 hj).1
        rw [Addr.add_lit, (hbel.cell (p := ⟨b, o + j, none⟩) hbw), hc j hjn]; exact hj) (by simp [size_madeCells, hl]) h1
    rw [hl] at hrun
    have hrow : ((madeCells #[z] n).toList.take 0 ++ cs ++ (madeCells #[z] n).toList.drop (0 + n)).toArray = cs.toArray := by
      rw [List.take_zero, List.nil_append, List.drop_eq_nil_of_le (by simp [size_madeCells]), List.append_nil]
    rw [hrow] at hrun
    have hset := setRow_heap (w.alloc (.cells (madeCells #[z] n) E)) w.heap.size (madeCells #[z] n) cs.toArray E (0, 0) hnew
    refine ⟨_, hrun, below_setRow hbel (Nat.le_refl _) _, by simp [World.setRow], fun i hi => ?_⟩
    rw [cell_of_row _ w.heap.size i cs.toArray E (0, 0) hset]; simp

theorem hide {p : Prop} (h : p) : Hid p := h
theorem unhide {p : Prop} (h : Hid p) : p := h
/-- A slice of bytes that came in. -/
structure BytesAt (w : World) (a : Option Addr) (b o n : Nat) (xs : List Int) : Prop where
  len : xs.length = n
  addr : 0 < n → a = some ⟨b, o, none⟩
  lt : 0 < n → b < w.heap.size
  cell : ∀ i, i < n → w.cell? ⟨b, o + i, none⟩ = some (.int .u8 (xs[i]?.getD 0))

/-- The octets behind j reads of four out of len. -/
def St (g ob len j : Nat) (wr : World) : Prop :=
  (4 * j ≤ len ∧ ∃ ad, (0 < len - 4 * j → ad = some ⟨g, 4 * j, none⟩) ∧ Oct wr ob (.slice ad (len - 4 * j) (len - 4 * j)) .nilIface) ∨
  (len < 4 * j ∧ ∃ eb, ob < eb ∧ Oct wr ob (.slice none 0 0) (.iface 37 (.pointer (some ⟨eb, 0, none⟩))) ∧ wr.cell? ⟨eb, 0, none⟩ = some (.int .i64 4) ∧ wr.cell? ⟨eb, 1, none⟩ = some (.int .i64 (len % 4 : Nat)))

theorem St.more {g ob len j : Nat} {wr : World} (h : 4 * (j + 1) ≤ len) {ad : Option Addr} (had : 0 < len - 4 * j - 4 → ad = some ⟨g, 4 * j + 4, none⟩) (ho : Oct wr ob (.slice ad (len - 4 * j - 4) (len - 4 * j - 4)) .nilIface) : St g ob len (j + 1) wr := by
  have e : len - 4 * (j + 1) = len - 4 * j - 4 := by omega
  refine .inl ⟨h, ad, ?_, ?_⟩
  · rw [e]; exact had
  · rw [e]; exact ho

theorem But.below {ob B : Nat} {w w' : World} (h : But ob w w') (hB : B ≤ ob) (hs : B ≤ w.heap.size) : Below B w w' := ⟨h.os, h.tape, h.output, h.size, fun k hk => h.block k (by omega) (by omega)⟩
theorem assert_short (W : World) (p : Option Addr) : (Instr.typeAssert (.iface 37 (.pointer p)) 24 37 true).run Ybad.prog W = .ok (.tuple #[.pointer p, .bool true]) W := by kernel_rfl

theorem Ybad.u30 : ∃ te, Ybad.prog.underlying 30 = some (.pointer te) ∧ ((Ybad.prog.info? te).map (·.size)).isSome = true := ⟨_, Ybad.underlying30, by kernel_rfl⟩
theorem eqp' (d : Nat) (w : World) (z : Option Addr) : (Op.equalIn (d + 1) 30 (.pointer z) (.pointer z)).run Ybad.prog w = .ok true w := by
  obtain ⟨te, hu, hi⟩ := Ybad.u30
  obtain ⟨s, hs⟩ := Option.isSome_iff_exists.1 hi
  obtain ⟨j, hj, _⟩ := Option.map_eq_some_iff.1 hs
  cases z with
  | none => simp [Op.equalIn, run_underlying hu]
  | some a => simp [Op.equalIn, run_underlying hu, sizeOf, typeInfo, hj, run_sameAddr_same]
theorem eqp (w : World) (z : Option Addr) : (Op.equalIn 9998 30 (.pointer z) (.pointer z)).run Ybad.prog w = .ok true w := eqp' 9997 w z

theorem three_cells {B : Nat} {w w' : World} (h : Below B w w') {g : Nat} (hg : g < B) {a b c : Value} (hh : w.heap[g]? = some (.cells #[a, b, c] 34 (0, 0))) :
    w'.cell? ⟨g, 0, none⟩ = some a ∧ w'.cell? ⟨g, 1, none⟩ = some b ∧ w'.cell? ⟨g, 2, none⟩ = some c := by
  obtain ⟨r0, r1, r2, _⟩ := res_cells ((h.block g hg).trans hh)
  exact ⟨r0, r1, r2⟩

set_option maxHeartbeats 800000 in
set_option maxRecDepth 100000 in
theorem law_walk (a0 : Option Addr) (db d0 len cap : Nat) (xs : List Int) (n : Nat) (z : Addr) (w : World) (hx : BytesAt w a0 db d0 len xs) (hn : n ≤ 255) (hz : w.cell? ⟨0, 0, none⟩ = some (.pointer (some z))) :
    Calls Ybad.prog 3 #[.slice a0 len cap, .int .u8 (n : Int)] w fun e w' => e = .returned (.bool true) ∧ Below w.heap.size w w' := by
  by_cases hbig : (1024 : Int) < (len : Int)
  · go_enter Ybad.func3, Ybad.ntmps3
    go_wp2
    go_ret
    exact ⟨rfl, Below.refl _ _⟩
  have hlen : len ≤ 1024 := by omega
  obtain ⟨K, hK⟩ : ∃ K : Nat, (n : Int) % 8 + 1 = (K : Int) := ⟨n % 8 + 1, by omega⟩
  have hK8 : K ≤ 8 := by omega
  obtain ⟨i0, hi, hz0, hz1, hz2⟩ := info_parts Ybad.info5
  obtain ⟨w1, hcp, hbel, hsize, hcell⟩ := fill_copy 22 5 3 (.int .u8 0) len cap a0 db d0 (xs.map (Value.int .u8)) w Ybad.underlying22 Ybad.size5 (by simp [hx.len]) hx.addr hx.lt
    (fun i hi => by
      have hxi : i < xs.length := by rw [hx.len]; exact hi
      rw [hx.cell i hi]; simp [List.getElem?_eq_getElem hxi]) (fun v hv => by obtain ⟨_, _, rfl⟩ := List.mem_map.1 hv; rfl)
  have HX := hide hx
  have HC := hide hcell
  have HB := hide hbel
  clear hx hcell hbel
  go_enter Ybad.func3, Ybad.ntmps3
  go_wp2_with (at_make; refine wpList_make_row _ rfl (.tmp 20) (.tmp 20) 22 rfl 5 i0 (.int .u8 0) Ybad.underlying22 hi hz0 hz1 rfl .i64 .i64 len rfl rfl (by rw [hz2]; omega) (by omega) ?_)
  obtain ⟨wA, hA⟩ : ∃ wA, wA = w1.alloc (Obj.cells #[Value.slice (some { block := w.heap.size, off := 0 }) len len, Value.nilIface] 26) := ⟨_, rfl⟩
  rw [← hA]
  have hO : Oct wA (w.heap.size + 1) (.slice (some ⟨w.heap.size, 0, none⟩) len len) .nilIface := by
    have hb : wA.heap[w.heap.size + 1]? = some (.cells #[.slice (some ⟨w.heap.size, 0, none⟩) len len, .nilIface] 26 (0, 0)) := by rw [hA, ← hsize]; exact heap_alloc_new w1 _
    refine ⟨?_, ?_, ?_, ?_⟩ <;> simp [World.cell?, World.frozen?, hb]
  have hBA : Below (w.heap.size + 1) w1 wA := by rw [hA]; exact (Below.refl _ _).alloc (by omega) _
  have hBW : Below w.heap.size w wA := (unhide HB).trans (hBA.mono (by omega))
  have hsA : wA.heap.size = w.heap.size + 2 := by rw [hA]; simp; omega
  have HcA : Hid (∀ i, i < len → wA.cell? ⟨w.heap.size, i, none⟩ = some (.int .u8 (xs[i]?.getD 0))) := fun i hi => by
    rw [hBA.cell (p := ⟨w.heap.size, i, none⟩) (by simp), unhide HC i hi]
    have hxi : i < xs.length := by rw [(unhide HX).len]; exact hi
    simp [List.getElem?_eq_getElem hxi]
  have HsA := hide hsA
  clear hA HC hBA hsA hcp hsize HB
  have hzp : 0 < w.heap.size := World.block_lt_of_cell? _ _ hz
  go_loopg [8] K (fun k i wr => ∃ j, k = K - j ∧ j ≤ K ∧ i = .int .i64 (j : Nat) ∧ But (w.heap.size + 1) wA wr ∧ St w.heap.size (w.heap.size + 1) len j wr)
  case atStart => exact ⟨0, rfl, Nat.zero_le _, rfl, But.refl _ _, .inl ⟨Nat.zero_le _, _, fun _ => rfl, hO⟩⟩
  case round =>
    obtain ⟨j, hk, hj, rfl, hbut, hst⟩ := hrel
    have eqp0 := eqp
    have gz : wr.cell? ⟨0, 0, none⟩ = some (.pointer (some z)) := (hbut.cell (p := ⟨0, 0, none⟩) (by rw [HsA.out]; simp) (by simp)).trans ((hBW.cell (p := ⟨0, 0, none⟩) hzp).trans hz)
    have hgd : ∀ i, i < len → wr.cell? ⟨db, d0 + i, none⟩ = some (.int .u8 (xs[i]?.getD 0)) := fun i hi => by
      have hdb := (unhide HX).lt (by omega)
      exact (hbut.cell (p := ⟨db, d0 + i, none⟩) (by rw [HsA.out]; simp; omega) (by simp; omega)).trans ((hBW.cell (p := ⟨db, d0 + i, none⟩) hdb).trans ((unhide HX).cell i hi))
    have hgb : ∀ i, i < len → wr.cell? ⟨w.heap.size, i, none⟩ = some (.int .u8 (xs[i]?.getD 0)) := fun i hi =>
      (hbut.cell (p := ⟨w.heap.size, i, none⟩) (by rw [HsA.out]; simp) (by simp)).trans (HcA.out i hi)
    have HD := hide hgd
    have HG := hide hgb
    clear hgd hgb
    by_cases hlt : j < K
    · have hlt' : (j : Int) < (K : Int) := by omega
      rcases hst with ⟨hle, ad, had, ho⟩ | ⟨hgt, eb, heb, ho, e0, e1⟩
      · by_cases hmore : 4 * (j + 1) ≤ len
        · obtain rfl := had (by omega)
          have hmore' : 4 * ((j : Int) + 1) ≤ (len : Int) := by omega
          go_wp2_with fail
          refine (ipv4_yes (w.heap.size + 1) w.heap.size (4 * j) (len - 4 * j) (xs[4 * j]?.getD 0) (xs[4 * j + 1]?.getD 0) (xs[4 * j + 2]?.getD 0) (xs[4 * j + 3]?.getD 0) z wr ho (by omega) (by omega) (by omega) (by omega)
            (unhide HG _ (by omega)) (unhide HG _ (by omega)) (unhide HG _ (by omega)) (unhide HG _ (by omega)) gz).mono ?_
          rintro e w2 ⟨rfl, hb2, ad2, had2, ho2⟩
          obtain rfl := (unhide HX).addr (by omega)
          have hdb := (unhide HX).lt (by omega)
          have hob2 : w.heap.size + 1 < w2.heap.size := ho2.lt
          have HCat : Hid (∀ W, Below w2.heap.size w2 W → Calls Ybad.prog 5 #[.slice (some ⟨db, d0, none⟩) len cap, .int .i64 (4 * (j : Int))] W fun e w' => e = .returned (addrA (xs[4 * j]?.getD 0) (xs[4 * j + 1]?.getD 0) (xs[4 * j + 2]?.getD 0) (xs[4 * j + 3]?.getD 0) z) ∧ Below W.heap.size W w') := fun W hW => by
            have hc : ∀ i, i < len → W.cell? ⟨db, d0 + i, none⟩ = some (.int .u8 (xs[i]?.getD 0)) := fun i hi =>
              (hW.cell (p := ⟨db, d0 + i, none⟩) (by simp; omega)).trans ((hb2.cell (p := ⟨db, d0 + i, none⟩) (Nat.lt_of_lt_of_le (by simp; omega) (Nat.le_trans (Nat.le_of_eq HsA.out.symm) hbut.size)) (by simp; omega)).trans (unhide HD i hi))
            have hz2 : W.cell? ⟨0, 0, none⟩ = some (.pointer (some z)) := (hW.cell (p := ⟨0, 0, none⟩) (by simp; omega)).trans ((hb2.cell (p := ⟨0, 0, none⟩) (Nat.lt_of_lt_of_le (by simp) (Nat.le_trans (Nat.le_of_eq HsA.out.symm) hbut.size)) (by simp)).trans gz)
            have h := cat_any db d0 len cap (4 * j) _ _ _ _ z W (by omega) hlen (hc _ (by omega)) (hc _ (by omega)) (hc _ (by omega)) (hc _ (by omega)) hz2
            rw [show ((4 * j : Nat) : Int) = 4 * (j : Int) from by omega] at h
            exact h
          unfold addrA at HCat ⊢
          generalize lo4 (xs[4 * j]?.getD 0) (xs[4 * j + 1]?.getD 0) (xs[4 * j + 2]?.getD 0) (xs[4 * j + 3]?.getD 0) = L at HCat ⊢
          have hnew : (w2.alloc (.cells #[.int .u64 0, .int .u64 L, .pointer (some z)] 34)).heap[w2.heap.size]? = some (.cells #[.int .u64 0, .int .u64 L, .pointer (some z)] 34 (0, 0)) := heap_alloc_new w2 _
          have HNew := hide hnew
          clear hnew
          have bm1 : (0 : Int) ≤ 4 * (j : Int) := by omega
          have bm2 : 4 * (j : Int) ≤ 4096 := by omega
          have hwm := wrap_small (4 * (j : Int)) bm1 bm2
          go_wp2_with fail
          go_region_held3 (fun w' => w'.cell? ⟨w2.heap.size, 0, none⟩ = some (.int .u64 0) ∧ w'.cell? ⟨w2.heap.size, 1, none⟩ = some (.int .u64 L) ∧ w'.cell? ⟨w2.heap.size, 2, none⟩ = some (.pointer (some z)))
            (first | go_keep | exact three_cells hb3 (by simp) (unhide HNew))
            ((go_at_call 5; refine (unhide HCat _ ?_).mono ?_; exact (((Below.refl _ _).alloc (Nat.le_refl _) _).drew); rintro e w3 ⟨rfl, hb3⟩))
          all_goals go_wp2_with fail
          go_roundg (K - (j + 1))
          case measure => omega
          case rel =>
            refine ⟨j + 1, rfl, by omega, by go_num, hbut.trans (hb2.trans ((But.alloc (But.refl _ _) _).trans (But.drew (But.refl _ _) |>.trans (But.of_below hb3)))), ?_⟩
            exact St.more hmore had2 (ho2.of_block ((hb3.block _ (by simp; omega)).trans (Below.heap_alloc w2 _ _ hob2)))
        · have hmore' : ¬ 4 * ((j : Int) + 1) ≤ (len : Int) := by omega
          go_wp2_with fail
          refine (ipv4_short (w.heap.size + 1) ad (len - 4 * j) wr ho (by omega)).mono ?_
          rintro e w2 ⟨rfl, hb2, eb, heb, ho2, e0, e1⟩
          have hsz2 : wA.heap.size ≤ wr.heap.size := hbut.size
          have heb2 : w.heap.size + 1 < eb := by have := HsA.out; omega
          have hebl : eb < w2.heap.size := World.block_lt_of_cell? w2 ⟨eb, 0, none⟩ e0
          unfold zeroA
          go_wp2_with fail
          go_roundg (K - (j + 1))
          case measure => omega
          case rel =>
            refine ⟨j + 1, rfl, by omega, by go_num, hbut.trans (hb2.trans (But.alloc (But.refl _ _) _)), .inr ⟨by omega, eb, heb2, ho2.alloc _, ?_, ?_⟩⟩
            · exact (World.cell?_of_block (Below.heap_alloc w2 _ eb hebl)).trans e0
            · rw [show len % 4 = len - 4 * j from by omega]
              exact (World.cell?_of_block (Below.heap_alloc w2 _ eb hebl)).trans e1
      · have hmore' : ¬ 4 * ((j : Int) + 1) ≤ (len : Int) := by omega
        go_wp2_with fail
        refine (ipv4_again (w.heap.size + 1) _ wr ho).mono ?_
        rintro e w2 ⟨rfl, hb2⟩
        have hebl : eb < wr.heap.size := World.block_lt_of_cell? wr ⟨eb, 0, none⟩ e0
        have hob2 : w.heap.size + 1 < wr.heap.size := ho.lt
        have hB3 : ∀ o, Below wr.heap.size wr (w2.alloc o) := fun o => hb2.trans ((Below.refl _ _).alloc hb2.size o)
        have HB3 := hide hB3
        clear hB3
        unfold zeroA
        go_wp2_with fail
        go_roundg (K - (j + 1))
        case measure => omega
        case rel =>
          refine ⟨j + 1, rfl, by omega, by go_num, hbut.trans (But.of_below (unhide HB3 _)), .inr ⟨by omega, eb, heb, ho.of_block ((unhide HB3 _).block _ hob2), ?_, ?_⟩⟩
          · exact ((unhide HB3 _).cell (p := ⟨eb, 0, none⟩) hebl).trans e0
          · exact ((unhide HB3 _).cell (p := ⟨eb, 1, none⟩) hebl).trans e1
    · obtain rfl : j = K := by omega
      rcases hst with ⟨hle, ad, had, ho⟩ | ⟨hgt, eb, heb, ho, e0, e1⟩
      · obtain ⟨c0, c1, f0, f1⟩ := ho
        have hle' : 4 * (j : Int) ≤ (len : Int) := by omega
        have heq : (((len - 4 * j : Nat) : Int) == (len : Int) - 4 * (j : Int)) = true := by simp; omega
        go_wp2
        go_ret
        exact ⟨rfl, hBW.trans (But.below hbut (by omega) (by rw [HsA.out]; omega))⟩
      · obtain ⟨c0, c1, f0, f1⟩ := ho
        have hle' : ¬ 4 * (j : Int) ≤ (len : Int) := by omega
        have hta : ∀ W p, (Instr.typeAssert (.iface 37 (.pointer p)) 24 37 true).run Ybad.prog W = .ok (.tuple #[.pointer p, .bool true]) W := assert_short
        obtain ⟨r, hr⟩ : ∃ r : Int, ((len % 4 : Nat) : Int) = r := ⟨_, rfl⟩
        have hr2 : (r == (len : Int) % 4) = true := by simp; omega
        rw [hr] at e1
        clear hr
        go_wp2
        go_ret
        exact ⟨rfl, hBW.trans (But.below hbut (by omega) (by rw [HsA.out]; omega))⟩
end Go.Proofs.YbulkbtugDoor
