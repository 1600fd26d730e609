/-
  The row of LawS3516CRun out of its walk, and the tied card.
-/
import Derived.Test.YbulkbtugDoorS3
import Derived.Test.YbulkbtugDoorTie
import Derived.Test.YbulkbtugDoorCards
import Derived.ProofKit
import Derived.OpenShut
import Derived.LaidMore
import Derived.Lay
import Derived.Stop.Joined
import Derived.SevenTiedAt
namespace Go.Proofs.YbulkbtugDoor
open Go.ChangeShapes Go.WideShapes Go.ChangeAt Go.WideMaps Go.WideElems Go.RowKit
set_option linter.unusedVariables false

theorem own : ownKnob Ybad.prog.godebug = none := by kernel_rfl
theorem laidOut : laidOutB Ybad.prog = true := by kernel_rfl
theorem gz4 : Ybad.prog.globalNamed (Rows.lawS3516CRunRow.named.headD "") = some 0 := by kernel_rfl
theorem tz4 : (Ybad.prog.globals[0]?).map (·.type) = some 32 := by kernel_rfl

/-- What the condition gives the walk: the variable's one cell holds a pointer that is not nil. -/
theorem of_laid {W : World} (h : laidMetH Ybad.prog Rows.lawS3516CRunRow.laid W) : ∃ z, W.cell? ⟨0, 0, none⟩ = some (.pointer (some z)) := by
  rw [MakeChecks.laidMetH_plain _ _ _ (by kernel_rfl)] at h
  obtain ⟨ps, ⟨g0, t0, cs0, f0, p0, q0, hg0, ht0, hv0, hd0, _, _⟩, _, _⟩ := h
  obtain rfl := Option.some.inj (gz4.symm.trans hg0)
  obtain rfl := Option.some.inj (tz4.symm.trans ht0)
  obtain ⟨y0, n, hx, hl, hy⟩ := trod_struct1 Ybad.underlying32 hd0
  rcases DataW.trod_pointer Ybad.underlying30 hy with ⟨_, rfl⟩ | ⟨a, cs', y, m, _, hcs, _, _, _⟩
  · simp [Rows.laid_net_netip_z4] at hx
  · have := World.var?_cell hg0 hv0 0
    have c30 : Ybad.prog.cellsOf 30 = 1 := by kernel_rfl
    have c32 : Ybad.prog.cellsOf 32 = 1 := by kernel_rfl
    obtain ⟨l⟩ := cs0
    refine ⟨a, ?_⟩
    rw [c32] at hl
    simp only at hcs hl
    rw [c30] at hcs
    match l, hl, hcs with
    | [c], _, hcs =>
      simp at hcs
      subst hcs
      simpa using this

theorem bytes_opened {W : World} {x : Addr} {len : Nat} {zs : List Int} (hl : len ≤ zs.length) (hc : ∀ i, i < zs.length → W.cell? (x.add i) = some (.int .u8 (zs.getD i 0))) : BytesAt W (some x) x.block x.off len (zs.take len) := by
  obtain ⟨b, o, spot⟩ := x
  have hsp : 0 < len → spot = none := fun h => by
    have h0 := World.cell?_spot (hc 0 (by omega))
    simpa [Addr.add] using h0
  refine ⟨by simp; omega, fun h => ?_, fun h => ?_, fun i hi => ?_⟩
  · obtain rfl := hsp h; rfl
  · obtain rfl := hsp h
    have e := hc 0 (by omega)
    rw [Addr.add_lit] at e
    exact World.block_lt_of_cell? _ _ e
  · obtain rfl := hsp (by omega)
    have e := hc i (by omega)
    rw [Addr.add_lit] at e
    have hz : i < zs.length := by omega
    show W.cell? ⟨b, o + i, none⟩ = _
    rw [e]
    simp [hi]

theorem walk_all (a0 : Option Addr) (len0 cap0 : Nat) (n : Int) (W : World) (hn : (Lit.int .u8 n).wf = true) (hL : laidMetH Ybad.prog Rows.lawS3516CRunRow.laid W)
    (h0 : (a0 = none ∧ len0 = 0 ∧ cap0 = 0) ∨ ∃ (x : Addr) (zs : List Int), a0 = some x ∧ len0 ≤ zs.length ∧ ∀ i, i < zs.length → W.cell? (x.add i) = some (.int .u8 (zs.getD i 0))) :
    Calls Ybad.prog 3 #[.slice a0 len0 cap0, .int .u8 n] W fun e w' => e = .returned (.bool true) ∧ Below W.heap.size W w' := by
  obtain ⟨z, hz⟩ := of_laid hL
  have hb := bounds_u8 hn
  obtain ⟨n, rfl⟩ := Int.eq_ofNat_of_zero_le hb.1
  rcases h0 with ⟨rfl, rfl, rfl⟩ | ⟨x, zs, rfl, hl, hc⟩
  · exact law_walk none 0 0 0 0 [] n z W ⟨rfl, fun h => absurd h (Nat.lt_irrefl _), fun h => absurd h (Nat.lt_irrefl _), fun i h => absurd h (Nat.not_lt_zero _)⟩ (by omega) hz
  · exact law_walk (some x) x.block x.off len0 cap0 (zs.take len0) n z W (bytes_opened hl hc) (by omega) hz

set_option maxRecDepth 100000 in
theorem lifted (os : Os) (started : os.Started) (H : Type) (enc : TypeId × Value → H) :
    ReturnsInHanded {} Ybad.checked os 3 .any (fun w args => (Rows.lawS3516CRunSpec.pre enc Ybad.prog Ybad.f3 [] false w args ∧ laidMetH Ybad.prog Rows.lawS3516CRunRow.laid w) ∧ sizedMet enc Ybad.prog Ybad.f3 (OpenSpec.ofChange Rows.lawS3516CRunSpec) false w args)
      (Rows.lawS3516CRunSpec.post enc Ybad.prog Ybad.f3 false true false false) := by
  refine returnsInHanded_of_change_and (C := Ybad.checked) (X := fun w _ => laidMetH Ybad.prog Rows.lawS3516CRunRow.laid w) (fun _ _ _ hh h => h.of_heap hh) own started (by kernel_rfl) Ybad.func3
    (ChangeSpec.witness_shaped (enc := enc) (C := Ybad.checked) (os := os) (X := fun w _ => laidMetH Ybad.prog Rows.lawS3516CRunRow.laid w) false (World.laidAll Ybad.prog os Rows.lawS3516CRunRow.laid) #[.slice none 0 0, .int .u8 0] 8 (World.laidAll_os _ _ _)
      (World.shaped_of_ZipB (by kernel_rfl) (by kernel_rfl)) (by kernel_rfl) (by kernel_rfl) (by kernel_rfl)
      (by rw [MakeChecks.laidMetH_plain _ _ _ (by kernel_rfl)]; exact laidMet_laidAll _ (by kernel_rfl) (by kernel_rfl))) ?_
  intro W base args ds gs before hval0 hW _ _ hL _
  have hval : ∀ (j : Nat) t v, Ybad.f3.params[j]? = some t → args[j]? = some v → Value.okWide Ybad.prog W .any base t v := hval0
  have hW' := hW
  obtain ⟨p, q, hA0, hV, rfl, hfz, hnd⟩ := hW
  have hA : DataW.TrodAll enc Ybad.prog W 0 (fun _ => true) true Ybad.f3.params.toList args.toList ds p := hA0
  rw [Ybad.params3] at hA hval
  obtain ⟨v0, vs0, d0, ds0, p0, q0, hargs, rfl, rfl, h0, r0⟩ := trodAll_cons hA
  obtain ⟨v1, vs1, d1, ds1, p1, q1, rfl, rfl, rfl, h1, r1⟩ := trodAll_cons r0
  obtain ⟨rfl, rfl, rfl⟩ := trodAll_nil r1
  obtain rfl : args = #[v0, v1] := by cases args; simp_all
  obtain ⟨rfl, rfl⟩ := trodVars_none hV
  obtain ⟨a0, len0, cap0, rfl⟩ := okWide_slice Ybad.underlying22 (hval 0 22 v0 rfl rfl)
  have k0 := h0
  have lt0 : ∀ x ∈ p0, x.block < W.heap.size := by obtain ⟨m, hm⟩ := k0; exact DataW.trod_lt m _ _ _ hm
  have w0 : (a0 = none ∧ len0 = 0 ∧ cap0 = 0) ∨ ∃ (x : Addr) (zs : List Int), a0 = some x ∧ len0 ≤ zs.length ∧ ∀ i, i < zs.length → W.cell? (x.add i) = some (.int .u8 (zs.getD i 0)) := by
    obtain ⟨fuel, hf⟩ := h0
    rcases open_ints Ybad.underlying22 Ybad.underlying5 (by kernel_rfl) hf with ⟨hcs, _⟩ | ⟨x, l, c, zs, hcs, _, hl, hm, hz, _, hcell, hwz⟩
    · simp [Value.cells] at hcs
      exact .inl hcs
    · simp [Value.cells] at hcs
      obtain ⟨rfl, rfl, rfl⟩ := hcs
      simp only [if_true] at hz
      exact .inr ⟨_, zs, rfl, by omega, hcell⟩
  obtain ⟨a1, rfl, rfl, rfl, w1⟩ := open_int Ybad.underlying5 (hval 1 5 v1 rfl rfl) h1
  clear hA0 hval0
  refine (walk_all a0 len0 cap0 a1 W w1 hL w0).mono fun e W' ⟨he, bel⟩ => ?_
  subst he
  exact ⟨_, rfl, _, _, _, [], _, [], hW', trodAll_mk1 (shut_bool Ybad.underlying4 _), (trodAll_cons_mk (Below.trod laidOut (by kernel_rfl) (of_decide_eq_true (by kernel_rfl)) k0 bel lt0) (trodAll_cons_mk (shut_int Ybad.underlying5 w1) trodAll_mk0)), rfl, bel.frame _, fun h => by cases h⟩

theorem over : Rows.LawS3516CRunSaid :=
  OpenClaim.holds_of_wide 3 Ybad.f3 rfl rfl rfl rfl rfl rfl rfl ⟨rfl, rfl, rfl, rfl, rfl⟩ rfl rfl rfl rfl rfl (by kernel_rfl) Ybad.func3 (by kernel_rfl)
    (of_decide_eq_true (by kernel_rfl)) (by unfold Func.isWrapper; first | (rw [if_pos (by decide +kernel)]; kernel_rfl) | (rw [if_neg (by decide +kernel)]; exact ⟨rfl, rfl⟩))
    (fun os started H enc _ => lifted os started H enc)

/-- ████ THE STATEMENT: the tied card ████ -/
theorem lawS3516CRun_card : Rows.LawS3516CRunCardSaid :=
  Claim7.holds_tied_plain_at .later [] [.called] true (true, "beb54c75625a5856436b9cec907fbbc260d3d2e2fb9b736a7a6cf82e97c466c4") true
    over (fun _ h => by cases h) (by kernel_rfl) (fun _ h => by cases h) lawS3516CRun_row_tie rfl ⟨rfl, rfl⟩ (by kernel_rfl) rfl
    (fun f fn hf hfn => by
      obtain rfl : f = 3 := Option.some.inj ((show Ybad.prog.funcNamed Rows.lawS3516CRunRow.func = some 3 by kernel_rfl).symm.trans hf) |>.symm
      obtain rfl : fn = Ybad.f3 := (Option.some.inj (Ybad.func3.symm.trans hfn)).symm
      exact ⟨by kernel_rfl, fun j t ht => by
        rw [Ybad.params3] at ht
        have h3 : t = 22 ∨ t = 5 := by
          rcases j with _ | _ | j
          · exact .inl (by simpa using ht.symm)
          · exact .inr (by simpa using ht.symm)
          · simp at ht
        rcases h3 with rfl | rfl
        · exact (show Ybad.prog.wantsStandIn 22 = false by kernel_rfl)
        · exact (show Ybad.prog.wantsStandIn 5 = false by kernel_rfl)⟩)
    (by kernel_rfl)
end Go.Proofs.YbulkbtugDoor
