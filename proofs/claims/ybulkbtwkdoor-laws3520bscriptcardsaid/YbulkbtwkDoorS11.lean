/-
  The row of LawS3520BScript out of its walk, and the tied card.
-/
import Derived.Test.YbulkbtwkDoorS10
import Derived.Test.YbulkbtwkDoorTie
import Derived.Test.YbulkbtwkDoorCards
import Derived.ProofKit
import Derived.OpenShut
import Derived.ChangeVars
import Derived.WalkSmall
import Derived.LaidMore
import Derived.Lay
import Derived.Deep.Slices
import Derived.Deep.Strs
import Derived.Stop.Joined
import Derived.SevenTiedAt
namespace Go.Proofs.YbulkbtwkDoor
open Go.ChangeShapes Go.WideShapes Go.ChangeAt Go.WideMaps Go.WideElems Go.RowKit
set_option linter.unusedVariables false

theorem own : ownKnob Ybad.prog.godebug = none := by kernel_rfl
theorem laidOut : laidOutB Ybad.prog = true := by kernel_rfl
theorem gmax : Ybad.prog.globalNamed (Rows.lawS3520BScriptRow.named.headD "") = some 0 := by kernel_rfl
theorem tmax : (Ybad.prog.globals[0]?).map (·.type) = some 3 := by kernel_rfl

/-- What the condition gives the walk: the variable's one cell holds 8. -/
theorem of_laid {W : World} (h : laidMetH Ybad.prog Rows.lawS3520BScriptRow.laid W) : W.cell? ⟨0, 0, none⟩ = some (.int .i64 8) := by
  rw [MakeChecks.laidMetH_plain _ _ _ (by kernel_rfl)] at h
  obtain ⟨ps, ⟨g0, t0, cs0, f0, p0, q0, hg0, ht0, hv0, hd0, _, _⟩, _, _⟩ := h
  obtain rfl := Option.some.inj (gmax.symm.trans hg0)
  obtain rfl := Option.some.inj (tmax.symm.trans ht0)
  obtain ⟨n, hcs, hx, _⟩ := DataW.trod_int Ybad.underlying3 hd0
  have := World.var?_cell hg0 hv0 0
  obtain ⟨l⟩ := cs0
  simp only at hcs
  subst hcs
  simp [Rows.laid_example_com_lockwright_lockwright_internal_lock_maxScanned] at hx
  obtain ⟨rfl, _⟩ := hx
  simpa using this

/-- The variable reads behind the call as it did. -/
theorem vars_kept {H : Type} {enc : TypeId × Value → H} {W W' : World} {gs : List (DataW H)} {ps : List MemPlace} (hb : Below W.heap.size W W') (h : DataW.TrodVars enc Ybad.prog W (fun _ => true) [Rows.lawS3520BScriptRow.named.headD ""] gs ps) :
    DataW.TrodVars enc Ybad.prog W' (fun b => decide (b < W.heap.size)) [Rows.lawS3520BScriptRow.named.headD ""] gs ps := by
  obtain ⟨g, t, cs, fuel, d, p, rfl, h1, h2, h3, h4, rfl⟩ := trodVars_one h
  obtain rfl := Option.some.inj (gmax.symm.trans h1)
  obtain rfl := Option.some.inj (tmax.symm.trans h2)
  obtain ⟨n, hcs, hx, hw⟩ := DataW.trod_int Ybad.underlying3 h4
  have hc := World.var?_cell h1 h3 0
  obtain ⟨l⟩ := cs
  simp only at hcs
  subst hcs
  have hlt : 0 < W.heap.size := World.block_lt_of_cell? (u := .int .i64 n) _ ⟨0, 0, none⟩ (by simpa using hc)
  cases hx
  exact trodVars_mk1 h1 h2 (var?_below hb h1 hlt h3) (trod_int_mk 0 Ybad.underlying3 hw)

/-- The script's cells, out of what the argument reads as. -/
theorem ops_opened {H : Type} {enc : TypeId × Value → H} {W : World} {a0 : Option Addr} {len0 cap0 : Nat} {base : Nat} {held : Bool} {fuel : Nat} {x : DataW H × List MemPlace}
    (hf : DataW.trod enc Ybad.prog W base (fun _ => true) held fuel 22 [.slice a0 len0 cap0] = some x) : ∃ b o ops, OpsAt W a0 b o len0 ops := by
  rcases Deep.open_slice Ybad.underlying22 hf with ⟨hcs, _⟩ | ⟨x, l, c, m, n, D, Pl, hcs, _, hl, _, hm, _, hx⟩
  · simp at hcs
    obtain ⟨rfl, rfl, rfl⟩ := hcs
    exact ⟨0, 0, fun _ => (0, 0, 0), ⟨fun h => absurd h (Nat.lt_irrefl _), fun h => absurd h (Nat.lt_irrefl _), fun i h => absurd h (Nat.not_lt_zero _), fun i h => absurd h (Nat.not_lt_zero _), fun i h => absurd h (Nat.not_lt_zero _), fun i h => absurd h (Nat.not_lt_zero _), fun i h => absurd h (Nat.not_lt_zero _), fun i h => absurd h (Nat.not_lt_zero _)⟩⟩
  · simp at hcs
    obtain ⟨rfl, rfl, rfl⟩ := hcs
    simp only [if_true] at hm
    subst hm
    have c29 : Ybad.prog.cellsOf 29 = 3 := by kernel_rfl
    have c5 : Ybad.prog.cellsOf 5 = 1 := by kernel_rfl
    have c3 : Ybad.prog.cellsOf 3 = 1 := by kernel_rfl
    have each : ∀ i, i < len0 → ∃ q : Nat × Nat × Int, W.cell? (x.add (i * 3)) = some (.int .u8 (q.1 : Int)) ∧ W.cell? (x.add (i * 3 + 1)) = some (.int .u8 (q.2.1 : Int)) ∧ W.cell? (x.add (i * 3 + 2)) = some (.int .i64 q.2.2) ∧ q.1 < 256 ∧ q.2.1 < 256 ∧ (Lit.int .i64 q.2.2).wf = true := by
      intro i hi
      obtain ⟨cs', h1, h2⟩ := hx i (by omega)
      rw [c29] at h1
      obtain ⟨_, hlen, hcell⟩ := World.cells?_some h1
      obtain ⟨y0, y1, y2, k, _, _, g0, g1, g2⟩ := Deep.trod_struct3 Ybad.underlying29 h2
      match cs', hlen with
      | [v0, v1, v2], _ =>
        simp [c5, c3] at g0 g1 g2
        obtain ⟨n0, e0, _, w0⟩ := DataW.trod_int Ybad.underlying5 g0
        obtain ⟨n1, e1, _, w1⟩ := DataW.trod_int Ybad.underlying5 g1
        obtain ⟨n2, e2, _, w2⟩ := DataW.trod_int Ybad.underlying3 g2
        have b0 := bounds_u8 w0
        have b1 := bounds_u8 w1
        obtain ⟨n0, rfl⟩ := Int.eq_ofNat_of_zero_le b0.1
        obtain ⟨n1, rfl⟩ := Int.eq_ofNat_of_zero_le b1.1
        have f0 := hcell 0 (by omega)
        have f1 := hcell 1 (by omega)
        have f2 := hcell 2 (by omega)
        rw [Deep.add_add] at f0 f1 f2
        simp at e0 e1 e2
        subst e0 e1 e2
        exact ⟨(n0, n1, n2), by simpa using f0, by simpa using f1, by simpa using f2, by simp only; omega, by simp only; omega, w2⟩
    obtain ⟨q, hq⟩ := Deep.choose_lt each
    obtain ⟨b, o, spot⟩ := x
    have hsp : 0 < len0 → spot = none := fun h => by
      have h0 := World.cell?_spot (hq 0 (by omega)).1
      simpa [Addr.add] using h0
    refine ⟨b, o, q, ⟨fun h => ?_, fun h => ?_, fun i hi => ?_, fun i hi => ?_, fun i hi => ?_, fun i hi => (hq i hi).2.2.2.1, fun i hi => (hq i hi).2.2.2.2.1, fun i hi => (hq i hi).2.2.2.2.2⟩⟩
    · obtain rfl := hsp h; rfl
    · obtain rfl := hsp h
      have e := (hq 0 (by omega)).1
      rw [Addr.add_lit] at e
      exact World.block_lt_of_cell? _ _ e
    · obtain rfl := hsp (by omega)
      have e := (hq i hi).1
      rw [Addr.add_lit] at e
      exact e
    · obtain rfl := hsp (by omega)
      have e := (hq i hi).2.1
      rw [Addr.add_lit] at e
      exact e
    · obtain rfl := hsp (by omega)
      have e := (hq i hi).2.2.1
      rw [Addr.add_lit] at e
      exact e

theorem walk_all (a0 : Option Addr) (len0 cap0 : Nat) (W : World) (hL : laidMetH Ybad.prog Rows.lawS3520BScriptRow.laid W) (h0 : ∃ b o ops, OpsAt W a0 b o len0 ops) :
    Calls Ybad.prog 3 #[.slice a0 len0 cap0] W fun e w' => e = .returned (.bool true) ∧ Below W.heap.size W w' := by
  obtain ⟨b, o, ops, hops⟩ := h0
  rcases Nat.lt_or_ge 1024 len0 with h | h
  · exact law_long a0 len0 cap0 W h
  · exact law_walk a0 b o len0 cap0 ops W hops h (of_laid hL)

set_option maxRecDepth 100000 in
theorem lifted (os : Os) (started : os.Started) (H : Type) (enc : TypeId × Value → H) :
    ReturnsInHanded {} Ybad.checked os 3 .any (fun w args => (Rows.lawS3520BScriptSpec.pre enc Ybad.prog Ybad.f3 [] false w args ∧ laidMetH Ybad.prog Rows.lawS3520BScriptRow.laid w) ∧ sizedMet enc Ybad.prog Ybad.f3 (OpenSpec.ofChange Rows.lawS3520BScriptSpec) false w args)
      (Rows.lawS3520BScriptSpec.post enc Ybad.prog Ybad.f3 false true false false) := by
  refine returnsInHanded_of_change_and (C := Ybad.checked) (X := fun w _ => laidMetH Ybad.prog Rows.lawS3520BScriptRow.laid w) (fun _ _ _ hh h => h.of_heap hh) own started (by kernel_rfl) Ybad.func3
    (ChangeSpec.witness_shaped (enc := enc) (C := Ybad.checked) (os := os) (X := fun w _ => laidMetH Ybad.prog Rows.lawS3520BScriptRow.laid w) false (World.laidAll Ybad.prog os Rows.lawS3520BScriptRow.laid) #[.slice none 0 0] 8 (World.laidAll_os _ _ _)
      (World.shaped_of_ZipB (by kernel_rfl) (by kernel_rfl)) (by kernel_rfl) (by kernel_rfl) (by kernel_rfl)
      (by rw [MakeChecks.laidMetH_plain _ _ _ (by kernel_rfl)]; exact laidMet_laidAll _ (by kernel_rfl) (by kernel_rfl))) ?_
  intro W base args ds gs before hval0 hW _ _ hL _
  have hval : ∀ (j : Nat) t v, Ybad.f3.params[j]? = some t → args[j]? = some v → Value.okWide Ybad.prog W .any base t v := hval0
  have hW' := hW
  obtain ⟨p, q, hA0, hV, rfl, hfz, hnd⟩ := hW
  have hA : DataW.TrodAll enc Ybad.prog W 0 (fun _ => true) true Ybad.f3.params.toList args.toList ds p := hA0
  rw [Ybad.params3] at hA hval
  obtain ⟨v0, vs0, d0, ds0, p0, q0, hargs, rfl, rfl, h0, r0⟩ := trodAll_cons hA
  obtain ⟨rfl, rfl, rfl⟩ := trodAll_nil r0
  obtain rfl : args = #[v0] := by cases args; simp_all
  obtain ⟨a0, len0, cap0, rfl⟩ := okWide_slice Ybad.underlying22 (hval 0 22 v0 rfl rfl)
  have k0 := h0
  have lt0 : ∀ x ∈ p0, x.block < W.heap.size := by obtain ⟨m, hm⟩ := k0; exact DataW.trod_lt m _ _ _ hm
  have w0 : ∃ b o ops, OpsAt W a0 b o len0 ops := by
    obtain ⟨fuel, hf⟩ := h0
    exact ops_opened hf
  obtain ⟨g1, hgs⟩ : ∃ g1, gs = [g1] := by
    obtain ⟨_, _, _, _, d, _, h, _⟩ := trodVars_one hV
    exact ⟨d, h⟩
  subst hgs
  clear hA0 hval0
  refine (walk_all a0 len0 cap0 W hL w0).mono fun e W' ⟨he, bel⟩ => ?_
  subst he
  exact ⟨_, rfl, _, _, _, [], _, _, hW', trodAll_mk1 (shut_bool Ybad.underlying4 _), (trodAll_cons_mk (Below.trod laidOut (by kernel_rfl) (of_decide_eq_true (by kernel_rfl)) k0 bel lt0) trodAll_mk0), vars_kept bel hV, bel.frame _, fun h => by cases h⟩

theorem over : Rows.LawS3520BScriptSaid :=
  OpenClaim.holds_of_wide 3 Ybad.f3 rfl rfl rfl rfl rfl rfl rfl ⟨rfl, rfl, rfl, rfl, rfl⟩ rfl rfl rfl rfl rfl (by kernel_rfl) Ybad.func3 (by kernel_rfl)
    (of_decide_eq_true (by kernel_rfl)) (by unfold Func.isWrapper; first | (rw [if_pos (by decide +kernel)]; kernel_rfl) | (rw [if_neg (by decide +kernel)]; exact ⟨rfl, rfl⟩))
    (fun os started H enc _ => lifted os started H enc)

/-- ████ THE STATEMENT: the tied card ████ -/
theorem lawS3520BScript_card : Rows.LawS3520BScriptCardSaid :=
  Claim7.holds_tied_plain_at .later [] [.data] true (true, "8e97e89856290a67df4639a4c4de934ec53d5aa99edb81e20ca2abed2eb816d3") false
    over (fun _ h => by cases h) (by kernel_rfl) (fun _ h => by cases h) lawS3520BScript_row_tie rfl ⟨rfl, rfl⟩ (by kernel_rfl) rfl
    (fun f fn hf hfn => by
      obtain rfl : f = 3 := Option.some.inj ((show Ybad.prog.funcNamed Rows.lawS3520BScriptRow.func = some 3 by kernel_rfl).symm.trans hf) |>.symm
      obtain rfl : fn = Ybad.f3 := (Option.some.inj (Ybad.func3.symm.trans hfn)).symm
      exact ⟨by kernel_rfl, fun j t ht => by
        rw [Ybad.params3] at ht
        have h3 : t = 22 := by
          rcases j with _ | j
          · simpa using ht.symm
          · simp at ht
        subst h3
        exact (show Ybad.prog.wantsStandIn 22 = false by kernel_rfl)⟩)
    (by kernel_rfl)
end Go.Proofs.YbulkbtwkDoor
