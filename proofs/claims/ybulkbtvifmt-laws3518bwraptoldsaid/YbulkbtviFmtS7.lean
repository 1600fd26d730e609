/-
  The row of LawS3518BWrap at fmt's told texts, and the told and tied card.
-/
import Derived.Test.YbulkbtviFmtS6
import Derived.Test.YbulkbtviFmtTie
import Derived.Test.YbulkbtviFmtCards
import Derived.ProofKit
import Derived.OpenShut
import Derived.ShutString
import Derived.LaidMore
import Derived.LaidLaws
import Derived.LaidHandle
import Derived.Stop.Joined
import Derived.Stop.JoinedTold
import Derived.SevenTiedAt
namespace Go.Proofs.YbulkbtviFmt
open Go.ChangeShapes Go.WideShapes Go.ChangeAt Go.RowKit
open Go.Extern.Stop Go.Stop Go.Extern
open Go.ChangeMaps (open_string shut_string)
set_option linter.unusedVariables false

theorem own : ownKnob Ybaf.prog.godebug = none := by kernel_rfl
theorem et : Ybaf.prog.globalNamed "errors.errorType" = some 0 := by kernel_rfl
theorem oneRow : ((List.range 104).filter fun t => Ybaf.prog.rowNamed t [101, 114, 114, 111, 114]) = [23] := by kernel_rfl
theorem sizeT : Ybaf.prog.types.size = 104 := by kernel_rfl

/-- What the condition gives the walk: the variable's one cell. -/
theorem handle_of_laid {W : World} (h : laidMetH Ybaf.prog Rows.lawS3518BWrapRow.laid W) : W.cell? ⟨0, 0, none⟩ = some (.iface 56 (.agg #[.pointer (some ⟨1, 23, none⟩)])) := by
  have h' : laidMet Ybaf.prog [] W ∧ handlesMet Ybaf.prog Rows.lawS3518BWrapRow.laid W := h
  obtain ⟨name, u, ty, e1, e2, e3, e4, e5⟩ := h'.2 _ (List.mem_singleton.2 rfl)
  have en : name = [101, 114, 114, 111, 114] := (Option.some.inj e1).symm
  subst en
  obtain rfl : u = 56 := Option.some.inj (e2.symm.trans (by kernel_rfl))
  have hm : ty ∈ (List.range 104).filter fun t => Ybaf.prog.rowNamed t [101, 114, 114, 111, 114] := List.mem_filter.2 ⟨List.mem_range.2 (by rw [← sizeT]; exact e3), e4⟩
  rw [oneRow] at hm
  obtain rfl := List.mem_singleton.1 hm
  have hh : typeHandle Ybaf.prog 23 = .pointer (some ⟨1, 23, none⟩) := by kernel_rfl
  rw [hh] at e5
  simpa using World.var?_cell et e5 0

/-- The heap that the door's own run leaves meets the condition. -/
theorem door_met (os : Os) (args : Array Value) : laidMetH Ybaf.prog Rows.lawS3518BWrapRow.laid ((World.doorLaid Ybaf.prog 400 os).forCall (fun _ _ => 0) ⟨#[], args, []⟩).memory :=
  laidMetH_of_parts (laidMet_nil _ _) (by kernel_rfl)

/-- The walk, whatever the argument. -/
theorem walk_all (F : Interp) (n code : Int) (msg : ByteArray) (W : World) (hn : (Lit.int .u8 n).wf = true) (hF : F.answers W.tape) (hL : laidMetH Ybaf.prog Rows.lawS3518BWrapRow.laid W) :
    Calls Ybaf.prog 3 #[.int .u8 n, .int .i64 code, .string msg] W fun e w' => e = .returned (.bool true) ∧ Below W.heap.size W w' := by
  have hb := bounds_u8 hn
  obtain ⟨n, rfl⟩ := Int.eq_ofNat_of_zero_le hb.1
  have hn' : n ≤ 255 := by omega
  by_cases h0 : (n : Int) % 3 = 0
  · exact law0 n code msg W hn' (by simpa using h0)
  · by_cases h1 : (n : Int) % 3 = 1
    · exact law1 F n code msg W hn' (by simpa using h1) hF (handle_of_laid hL)
    · exact law2 F n code msg W hn' (by simpa using h0) (by simpa using h1) hF

set_option maxRecDepth 100000 in
theorem lifted (os : Os) (started : os.Started) (H : Type) (enc : TypeId × Value → H) :
    ReturnsInTold none {} Ybaf.checked os 3 .any Input.okWide ((OpenSpec.ofChange Rows.lawS3518BWrapSpec).preRow enc Ybaf.prog Ybaf.f3 [] false Rows.lawS3518BWrapRow.laid)
      (fun F => ((OpenSpec.ofChange Rows.lawS3518BWrapSpec).at F).post enc Ybaf.prog Ybaf.f3 false true false false) (aloneAtReturn Ybaf.prog) nothingAlways := by
  refine returnsInTold_of_row (C := Ybaf.checked) (s := OpenSpec.ofChange Rows.lawS3518BWrapSpec) (by kernel_rfl) own started (by kernel_rfl) Ybaf.func3
    (OpenSpec.witness_stopped_at (enc := enc) (C := Ybaf.checked) false (World.doorLaid Ybaf.prog 400 os) #[.int .u8 0, .int .i64 0, .string ByteArray.empty] rfl (by kernel_rfl) (by kernel_rfl) (by kernel_rfl)
      (OpenSpec.preRow_of_B rfl 8 (by kernel_rfl) (by kernel_rfl) (door_met os _))) ?_
  intro F W base args ds gs before _ hF hval0 hW _ _ _ hL _
  have hval : ∀ (j : Nat) t v, Ybaf.f3.params[j]? = some t → args[j]? = some v → Value.okWide Ybaf.prog W .any base t v := hval0
  have hW' := hW
  obtain ⟨p, q, hA0, hV, rfl, hfz, hnd⟩ := hW
  have hA : DataW.TrodAll enc Ybaf.prog W 0 (fun _ => true) true Ybaf.f3.params.toList args.toList ds p := hA0
  rw [Ybaf.params3] at hA hval
  obtain ⟨v0, vs0, d0, ds0, p0, q0, hargs, rfl, rfl, h0, r0⟩ := trodAll_cons hA
  obtain ⟨v1, vs1, d1, ds1, p1, q1, rfl, rfl, rfl, h1, r1⟩ := trodAll_cons r0
  obtain ⟨v2, vs2, d2, ds2, p2, q2, rfl, rfl, rfl, h2, r2⟩ := trodAll_cons r1
  obtain ⟨rfl, rfl, rfl⟩ := trodAll_nil r2
  obtain rfl : args = #[v0, v1, v2] := by cases args; simp_all
  obtain ⟨rfl, rfl⟩ := trodVars_none hV
  obtain ⟨a0, rfl, rfl, rfl, w0⟩ := open_int Ybaf.underlying5 (hval 0 5 v0 rfl rfl) h0
  obtain ⟨a1, rfl, rfl, rfl, w1⟩ := open_int Ybaf.underlying3 (hval 1 3 v1 rfl rfl) h1
  obtain ⟨a2, rfl, rfl, rfl, w2⟩ := open_string Ybaf.underlying9 (hval 2 9 v2 rfl rfl) h2
  clear hA0 hval0
  refine (walk_all F.told a0 a1 a2 W w0 hF hL).mono fun e W' ⟨he, bel⟩ => ?_
  subst he
  exact ⟨_, rfl, _, _, _, [], _, [], hW', trodAll_mk1 (shut_bool Ybaf.underlying4 _), (trodAll_cons_mk (shut_int Ybaf.underlying5 w0) (trodAll_cons_mk (shut_int Ybaf.underlying3 w1) (trodAll_cons_mk (shut_string Ybaf.underlying9 w2) trodAll_mk0))), rfl, bel.frame _, fun h => by cases h⟩

theorem laidOut : laidOutB Ybaf.pinned.checked.prog = true := by kernel_rfl
theorem stops : Rows.lawS3518BWrapRow.stops = Ybaf.pinned.checked.prog.stops := by kernel_rfl
theorem stopKnobs : Ybaf.pinned.checked.prog.stopKnobs = [] := by kernel_rfl
theorem quiet (os : Os) : Stop.quiet Ybaf.pinned.checked.prog os := by
  intro k hk
  rw [stopKnobs] at hk
  cases hk

/-- ████ THE STATEMENT: the told and tied card ████ -/
theorem lawS3518BWrap_card : Rows.LawS3518BWrapToldSaid :=
  Claim7.holds_of_told_tied_any_at .later 3 Ybaf.f3 _ [] [] (true, "41b72b2dc6fb24577dca5526e8f85076c67a8c791ffd6202c4c1dee95cc6f138") true false [.handle] true (by kernel_rfl) rfl rfl rfl laidOut (by kernel_rfl) rfl ⟨rfl, rfl, rfl, rfl, rfl, rfl, rfl⟩ rfl rfl (by kernel_rfl) (by kernel_rfl) Ybaf.func3 (by kernel_rfl)
    (of_decide_eq_true (by kernel_rfl)) (by unfold Func.isWrapper; first | (rw [if_pos (by decide +kernel)]; kernel_rfl) | (rw [if_neg (by decide +kernel)]; exact ⟨rfl, rfl⟩)) stops rfl stopKnobs.symm (by kernel_rfl)
    (by kernel_rfl) (by kernel_rfl) (by kernel_rfl) (by kernel_rfl) (by kernel_rfl) (by kernel_rfl) (by kernel_rfl) (by kernel_rfl) (by kernel_rfl) rfl (by kernel_rfl) rfl rfl
    rfl rfl
    rfl (by kernel_rfl) (by kernel_rfl) (by kernel_rfl) (by decide) (by kernel_rfl) lawS3518BWrap_row_tie
    (OpenClaim.moreEntering_of (by kernel_rfl) (by kernel_rfl) (by kernel_rfl) (by kernel_rfl) (by kernel_rfl) (by kernel_rfl) (by kernel_rfl) (by kernel_rfl) (by kernel_rfl) (by kernel_rfl))
    ⟨_, WideRow.started_initial, quiet _⟩
    (fun os started _ H enc _ => lifted os started H enc)
end Go.Proofs.YbulkbtviFmt
