/-
  The walk of LawS3514BExact (3).
-/
import Derived.Test.YbulkbtteS6
import Derived.Deep.RegionWith
namespace Go.Proofs.Ybulkbtte
open Go.RowKit

/-- bytes.Equal: string(a) == string(b). -/
theorem equal_any (a b : Option Addr) (n m c d : Nat) (s t : ByteArray) (w : World) (h1 : Reads w (.slice a n c) s) (h2 : Reads w (.slice b m d) t) :
    Calls Yba.prog 9 #[.slice a n c, .slice b m d] w fun e w' => e = .returned (.bool (s.toList == t.toList)) ∧ w' = w := by
  have g1 : (convert 22 9 (.slice a n c)).run Yba.prog w = .ok (.string s) w := h1 0
  have g2 : (convert 22 9 (.slice b m d)).run Yba.prog w = .ok (.string t) w := h2 0
  go_enter Yba.func9, Yba.ntmps9
  go_wp2
  go_ret
  exact ⟨rfl, rfl⟩

theorem StrsAt.drewN {w : World} {a : Option Addr} {b o n : Nat} {ss : List ByteArray} (h : StrsAt w a b o n ss) (q : Nat) : StrsAt (w.drewN q) a b o n ss := h.mono (fun i _ => by simp)
theorem Reads.drewN {w : World} {v : Value} {s : ByteArray} (h : Reads w v s) (q : Nat) : Reads (w.drewN q) v s := fun r => by
  have := h (q + r)
  simpa [World.drewN_drewN] using this

theorem hide {p : Prop} (h : p) : Hid p := h
theorem unhide {p : Prop} (h : Hid p) : p := h
theorem below_drewN_refl (B : Nat) (w : World) (q : Nat) : Below B w (w.drewN q) := by
  induction q with
  | zero => exact Below.refl _ _
  | succ q ih => exact ih.drew

def AppDone (w1 : World) (s : ByteArray) (e : Ending) (w' : World) : Prop := ∃ v, e = .returned v ∧ Reads w' v s ∧ Old w1.heap.size w1 w'

theorem app_law (p c : ByteArray) (a1 : Option Addr) (pb po n cp1 : Nat) (ss : List ByteArray) (ao : Option Addr) (b off len : Nat) (xs : List Int) (w1 : World) (hs1 : StrsAt w1 a1 pb po n ss) (hpb : 0 < n → pb < w1.heap.size)
    (hB : BytesAt w1 ao b off len xs) (hbl : 0 < len → b < w1.heap.size) (hsm : Small len p c ss) :
    Calls Yba.prog 7 #[.agg #[.string p, .string c, .slice a1 n cp1], .slice ao len len] (w1.alloc (.cells #[.string p, .string c, .slice a1 n cp1] 27)) fun e w' => AppDone w1 (modelF (strOfNums xs) p c ss) e w' := by
  have hc0 : Came w1 1 ao b off len len (xs.map (Value.int .u8)) := by
    refine ⟨Nat.le_refl _, hB.addr, hbl, by simp [hB.len], fun j u hu => ?_, fun j hj => by omega⟩
    have hj : j < len := by rw [← hB.len]; simpa using (List.getElem?_eq_some_iff.1 hu).1
    rw [hB.cell j hj]; exact hu
  have hc := came_alloc (came_alloc hc0 (.cells #[.string p, .string c, .slice a1 n cp1] 27)) (.cells #[.string p, .string c, .slice a1 n cp1] 27)
  have hk : Below w1.heap.size w1 ((w1.alloc (.cells #[.string p, .string c, .slice a1 n cp1] 27)).alloc (.cells #[.string p, .string c, .slice a1 n cp1] 27)) := ((Below.refl _ _).alloc (Nat.le_refl _) _).alloc (by simp) _
  refine (app_any p c a1 pb po n cp1 ss ao b off len (xs.map (Value.int .u8)) _ _ rfl hc (hs1.mono fun i hi => hk.cell (p := ⟨pb, po + i, none⟩) (hpb (by omega))) (fun h => by have := hpb h; simp; omega) hsm).mono ?_
  rintro e w' ⟨v, rfl, hup⟩
  refine ⟨v, rfl, ?_, ?_⟩
  · have hr := hup.reads hc (by have := hsm.1; unfold maxLen; omega)
    rw [wire_model _ p c ss n hs1.len] at hr
    exact hr
  · exact (Old.of_below hk).trans (hup.old.mono (by simp; omega))

set_option maxHeartbeats 800000 in
set_option maxRecDepth 100000 in
theorem law_nil (p c : ByteArray) (a : Option Addr) (b o n cp : Nat) (ss : List ByteArray) (w : World) (hs : StrsAt w a b o n ss) (hb : 0 < n → b < w.heap.size) (hnil : a = none → n = 0) :
    Calls Yba.prog 3 #[.slice none 0 0, .string p, .string c, .slice a n cp] w fun e w' => e = .returned (.bool true) ∧ Old w.heap.size w w' := by
  go_enter Yba.func3, Yba.ntmps3
  go_wp2_with fail
  refine (small_any none 0 0 p c a b o n cp ss _ hs).mono ?_
  rintro e w' ⟨⟨r, rfl, hsm⟩, hw⟩
  subst hw
  cases r with
  | false =>
    go_wp2_with fail
    go_ret
    exact ⟨rfl, Old.of_below (Below.refl _ _)⟩
  | true =>
    have HS : Hid (Small 0 p c ss) := hsm rfl
    have hn1024 : n ≤ 1024 := by have := HS.out.2.2.2.1; rw [hs.len] at this; exact this
    clear hsm
    go_wp2_with fail
    refine (copy_any a b o n cp ss _ hs hn1024 hb hnil).mono ?_
    rintro e w1 ⟨a1, cp1, rfl, hs1, hb1, hz1⟩
    have hB0 : BytesAt w1 none 0 0 0 [] := ⟨rfl, fun h => absurd h (Nat.lt_irrefl _), fun i h => absurd h (Nat.not_lt_zero _)⟩
    go_wp2_with fail
    refine (app_law p c a1 w'.heap.size 0 n cp1 ss none 0 0 0 [] w1 hs1 hz1 hB0 (fun h => absurd h (Nat.lt_irrefl _)) HS.out).mono ?_
    rintro e w2 ⟨v, rfl, hr, hold⟩
    have rn : Reads w2 (.slice none 0 0) (strOfNums []) := reads_zero w2 none 0
    have rbc := rn
    have hs2 : StrsAt w2 a b o n ss := (hs.mono fun i hi => hb1.cell (p := ⟨b, o + i, none⟩) (hb (by omega))).mono fun i hi => hold.cell (p := ⟨b, o + i, none⟩) (Nat.lt_of_lt_of_le (hb (by omega)) hb1.size)
    have hs3 : StrsAt w2 a1 w'.heap.size 0 n ss := hs1.mono fun i hi => hold.cell (p := ⟨w'.heap.size, 0 + i, none⟩) (hz1 (by omega))
    have hold2 : Old w'.heap.size w' w2 := (Old.of_below hb1).trans (hold.mono hb1.size)
    obtain ⟨M, hM⟩ : ∃ M, M = modelF (strOfNums []) p c ss := ⟨_, rfl⟩
    have HM : Hid (modelF (strOfNums []) p c ss = M) := hM.symm
    rw [← hM] at hr
    clear hM
    have hr1 : ∀ q, (convert 22 9 v).run Yba.prog (w2.drewN q) = .ok (.string M) (w2.drewN q) := hr
    have hr2 : ∀ q, (convert 22 9 (.slice none 0 0)).run Yba.prog (w2.drewN q) = .ok (.string (strOfNums [])) (w2.drewN q) := rn
    have hmod := fun q => model_any (strOfNums []) p c a b o n cp ss _ (hs2.drewN q) (by rw [strOfNums_size]; exact HS.out)
    rw [HM.out] at hmod
    have HMod := hide hmod
    clear hmod
    have hMM : (!(M.toList == M.toList)) = false := by simp
    have hnn : ((n : Int) != (n : Int)) = false := by simp
    go_wp2_with fail
    go_quiet ((go_at_call 8; exact Calls.quiet_of_same (unhide HMod _)))
    go_wp2_with fail
    refine (equal_any none _ 0 _ 0 _ (strOfNums []) (strOfNums []) _ (rbc.drewN _) (rn.drewN _)).mono ?_
    rintro e w3 ⟨rfl, hw3⟩
    subst hw3
    have hss : ((strOfNums []).toList == (strOfNums []).toList) = true := by simp
    rw [hss]
    clear hr1 hr2 HMod hss
    go_wp2_with fail
    go_loopg [13] n (fun k i wr => ∃ j q, k = n - j ∧ j ≤ n ∧ i = .int .i64 (j : Nat) ∧ wr = w2.drewN q)
    case atStart => exact ⟨0, _, rfl, Nat.zero_le _, rfl, rfl⟩
    case round =>
      obtain ⟨j, q, hk, hj, rfl, rfl⟩ := hrel
      by_cases hlt : j < n
      · obtain rfl := hs2.addr (by omega)
        obtain rfl := hs3.addr (by omega)
        have hlt' : (j : Int) < (n : Int) := by omega
        have y1 := hs2.cell j hlt
        have y2 := hs3.cell j hlt
        rw [Nat.zero_add] at y2
        have hjj : (!((ss[j]?.getD ByteArray.empty).toList == (ss[j]?.getD ByteArray.empty).toList)) = false := by simp
        go_wp2
        go_quiet (fail)
        go_wp2
        go_roundg (n - (j + 1))
        case measure => omega
        case rel => exact ⟨j + 1, _, rfl, by omega, by go_num, rfl⟩
      · obtain rfl : j = n := by omega
        go_wp2
        go_ret
        exact ⟨rfl, hold2.trans (Old.of_below (below_drewN_refl _ _ _))⟩

set_option maxHeartbeats 800000 in
set_option maxRecDepth 100000 in
theorem law_some (ad : Addr) (bb bo len cap : Nat) (xs : List Int) (p c : ByteArray) (a : Option Addr) (b o n cp : Nat) (ss : List ByteArray) (w : World) (hx : BytesAt w (some ad) bb bo len xs) (hbb : 0 < len → bb < w.heap.size)
    (hs : StrsAt w a b o n ss) (hb : 0 < n → b < w.heap.size) (hnil : a = none → n = 0) :
    Calls Yba.prog 3 #[.slice (some ad) len cap, .string p, .string c, .slice a n cp] w fun e w' => e = .returned (.bool true) ∧ Old w.heap.size w w' := by
  obtain ⟨i0, hi, hz0, hzz1, hz2⟩ := info_parts Yba.info5
  go_enter Yba.func3, Yba.ntmps3
  go_wp2_with fail
  refine (small_any (some ad) len cap p c a b o n cp ss _ hs).mono ?_
  rintro e w' ⟨⟨r, rfl, hsm⟩, hw⟩
  subst hw
  cases r with
  | false =>
    go_wp2_with fail
    go_ret
    exact ⟨rfl, Old.of_below (Below.refl _ _)⟩
  | true =>
    have HS : Hid (Small len p c ss) := hsm rfl
    have hn1024 : n ≤ 1024 := by have := HS.out.2.2.2.1; rw [hs.len] at this; exact this
    have hlen : len ≤ 65536 := HS.out.1
    clear hsm
    go_wp2_with fail
    refine (copy_any a b o n cp ss _ hs hn1024 hb hnil).mono ?_
    rintro e w0 ⟨a1, cp1, rfl, hs0, hb0, hz0'⟩
    have hxw : BytesAt w0 (some ad) bb bo len xs := hx.mono fun i hi => hb0.cell (p := ⟨bb, bo + i, none⟩) (hbb (by omega))
    obtain ⟨w1, hcp, hbel, hsize, hcell, _⟩ := fill_copy 22 5 3 (.int .u8 0) len cap (some ad) bb bo (xs.map (Value.int .u8)) w0 Yba.underlying22 Yba.size5 (by simp [hx.len]) hxw.addr (fun h => Nat.lt_of_lt_of_le (hbb h) hb0.size) hxw.cell
      (fun v hv => by obtain ⟨_, _, rfl⟩ := List.mem_map.1 hv; rfl)
    have hs1 : StrsAt w1 a1 w'.heap.size 0 n ss := hs0.mono fun i hi => hbel.cell (p := ⟨w'.heap.size, 0 + i, none⟩) (hz0' (by omega))
    have hb1 : Below w'.heap.size w' w1 := hb0.trans (hbel.mono hb0.size)
    have hz1 : 0 < n → w'.heap.size < w1.heap.size := fun h => Nat.lt_of_lt_of_le (hz0' h) hbel.size
    have hB0 : BytesAt w1 (some ⟨w0.heap.size, 0, none⟩) w0.heap.size 0 len xs := ⟨hx.len, fun _ => rfl, hcell⟩
    have hsz : w0.heap.size < w1.heap.size := by omega
    clear hz0' hcell hsize
    go_wp2_with (at_make; refine wpList_make_row _ rfl (.tmp 25) (.tmp 25) 22 rfl 5 i0 (.int .u8 0) Yba.underlying22 hi hz0 hzz1 rfl .i64 .i64 len rfl rfl (by rw [hz2]; omega) (by omega) ?_)
    refine (app_law p c a1 w'.heap.size 0 n cp1 ss (some ⟨w0.heap.size, 0, none⟩) w0.heap.size 0 len xs w1 hs1 hz1 hB0 (fun _ => hsz) HS.out).mono ?_
    rintro e w2 ⟨v, rfl, hr, hold⟩
    have rn : Reads w2 (.slice (some ad) len cap) (strOfNums xs) := ((hx.mono fun i hi => hb1.cell (p := ⟨bb, bo + i, none⟩) (hbb (by omega))).mono fun i hi => hold.cell (p := ⟨bb, bo + i, none⟩) (Nat.lt_of_lt_of_le (hbb (by omega)) hb1.size)).reads cap
    have rbc : Reads w2 (.slice (some ⟨w0.heap.size, 0, none⟩) len len) (strOfNums xs) := (hB0.mono fun i hi => hold.cell (p := ⟨w0.heap.size, 0 + i, none⟩) hsz).reads len
    clear hcp
    have hs2 : StrsAt w2 a b o n ss := (hs.mono fun i hi => hb1.cell (p := ⟨b, o + i, none⟩) (hb (by omega))).mono fun i hi => hold.cell (p := ⟨b, o + i, none⟩) (Nat.lt_of_lt_of_le (hb (by omega)) hb1.size)
    have hs3 : StrsAt w2 a1 w'.heap.size 0 n ss := hs1.mono fun i hi => hold.cell (p := ⟨w'.heap.size, 0 + i, none⟩) (hz1 (by omega))
    have hold2 : Old w'.heap.size w' w2 := (Old.of_below hb1).trans (hold.mono hb1.size)
    obtain ⟨M, hM⟩ : ∃ M, M = modelF (strOfNums xs) p c ss := ⟨_, rfl⟩
    have HM : Hid (modelF (strOfNums xs) p c ss = M) := hM.symm
    rw [← hM] at hr
    clear hM
    have hr1 : ∀ q, (convert 22 9 v).run Yba.prog (w2.drewN q) = .ok (.string M) (w2.drewN q) := hr
    have hr2 : ∀ q, (convert 22 9 (.slice (some ad) len cap)).run Yba.prog (w2.drewN q) = .ok (.string (strOfNums xs)) (w2.drewN q) := rn
    have hmod := fun q => model_any (strOfNums xs) p c a b o n cp ss _ (hs2.drewN q) (by rw [strOfNums_size]; rw [hx.len]; exact HS.out)
    rw [HM.out] at hmod
    have HMod := hide hmod
    clear hmod
    have hMM : (!(M.toList == M.toList)) = false := by simp
    have hnn : ((n : Int) != (n : Int)) = false := by simp
    go_wp2_with fail
    go_quiet ((go_at_call 8; exact Calls.quiet_of_same (unhide HMod _)))
    go_wp2_with fail
    refine (equal_any (some ⟨w0.heap.size, 0, none⟩) _ len _ len _ (strOfNums xs) (strOfNums xs) _ (rbc.drewN _) (rn.drewN _)).mono ?_
    rintro e w3 ⟨rfl, hw3⟩
    subst hw3
    have hss : ((strOfNums xs).toList == (strOfNums xs).toList) = true := by simp
    rw [hss]
    clear hr1 hr2 HMod hss
    go_wp2_with fail
    go_loopg [13] n (fun k i wr => ∃ j q, k = n - j ∧ j ≤ n ∧ i = .int .i64 (j : Nat) ∧ wr = w2.drewN q)
    case atStart => exact ⟨0, _, rfl, Nat.zero_le _, rfl, rfl⟩
    case round =>
      obtain ⟨j, q, hk, hj, rfl, rfl⟩ := hrel
      by_cases hlt : j < n
      · obtain rfl := hs2.addr (by omega)
        obtain rfl := hs3.addr (by omega)
        have hlt' : (j : Int) < (n : Int) := by omega
        have y1 := hs2.cell j hlt
        have y2 := hs3.cell j hlt
        rw [Nat.zero_add] at y2
        have hjj : (!((ss[j]?.getD ByteArray.empty).toList == (ss[j]?.getD ByteArray.empty).toList)) = false := by simp
        go_wp2
        go_quiet (fail)
        go_wp2
        go_roundg (n - (j + 1))
        case measure => omega
        case rel => exact ⟨j + 1, _, rfl, by omega, by go_num, rfl⟩
      · obtain rfl : j = n := by omega
        go_wp2
        go_ret
        exact ⟨rfl, hold2.trans (Old.of_below (below_drewN_refl _ _ _))⟩
end Go.Proofs.Ybulkbtte
