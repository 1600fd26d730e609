/-
  The row of LawS3514BExact, out of its walk.
-/
import Derived.Test.YbulkbtteS7
import Derived.ProofKit
import Derived.OpenShut
import Derived.ShutString
import Derived.ChangeOld
import Derived.SliceStrings
namespace Go.Proofs.Ybulkbtte
open Go.ChangeShapes Go.WideShapes Go.ChangeAt Go.RowKit
open Go.ChangeMaps (open_string shut_string)
set_option linter.unusedVariables false

theorem own : ownKnob Yba.prog.godebug = none := by kernel_rfl
theorem laidOut : laidOutB Yba.prog = true := by kernel_rfl

theorem Old.trod {H : Type} {enc : TypeId × Value → H} {P : Program} {t : TypeId} (hl : laidOutB P = true) (hr : P.readableRec t = true) (hrow : t < P.types.size) {W W' : World} {v : Value} {d : DataW H} {ps : List MemPlace}
    (h : DataW.Trod enc P W 0 (fun _ => true) true t v d ps) (hb : Old W.heap.size W W') (hlt : ∀ x ∈ ps, x.block < W.heap.size) :
    DataW.Trod enc P W' 0 (fun b => decide (b < W.heap.size)) true t v d ps :=
  WideElems.Trod_stays hl hr hrow h (fun x hx => hb.same (hlt x hx)) (fun x hx => by simpa using hlt x hx)

theorem bytes_opened {W : World} {x : Addr} {len : Nat} {zs : List Int} (hl : len ≤ zs.length) (hc : ∀ i, i < zs.length → W.cell? (x.add i) = some (.int .u8 (zs.getD i 0))) : BytesAt W (some x) x.block x.off len (zs.take len) := by
  obtain ⟨b, o, spot⟩ := x
  refine ⟨by simp; omega, fun h => ?_, fun i hi => ?_⟩
  · have h0 := World.cell?_spot (hc 0 (by omega))
    have : spot = none := by simpa [Addr.add] using h0
    subst this; rfl
  · have h0 := World.cell?_spot (hc 0 (by omega))
    have : spot = none := by simpa [Addr.add] using h0
    subst this
    have e := hc i (by omega)
    rw [Addr.add_lit] at e
    have hz : i < zs.length := by omega
    show W.cell? ⟨b, o + i, none⟩ = _
    rw [e]
    simp [hi, List.getElem?_eq_getElem hz]

theorem strs_opened {W : World} {x : Addr} {len : Nat} {ss : List ByteArray} (hl : len ≤ ss.length) (hc : ∀ i, i < ss.length → W.cell? (x.add i) = some (.string (ss.getD i ByteArray.empty))) : StrsAt W (some x) x.block x.off len (ss.take len) := by
  obtain ⟨b, o, spot⟩ := x
  refine ⟨by simp; omega, fun h => ?_, fun i hi => ?_⟩
  · have h0 := World.cell?_spot (hc 0 (by omega))
    have : spot = none := by simpa [Addr.add] using h0
    subst this; rfl
  · have h0 := World.cell?_spot (hc 0 (by omega))
    have : spot = none := by simpa [Addr.add] using h0
    subst this
    have e := hc i (by omega)
    rw [Addr.add_lit] at e
    have hz : i < ss.length := by omega
    show W.cell? ⟨b, o + i, none⟩ = _
    rw [e]
    simp [hi, List.getElem?_eq_getElem hz]

/-- The walk, for every input that can be read. -/
theorem walk_all (a0 : Option Addr) (len0 cap0 : Nat) (p c : ByteArray) (a3 : Option Addr) (len3 cap3 : Nat) (W : World)
    (h0 : (a0 = none ∧ len0 = 0 ∧ cap0 = 0) ∨ ∃ (x : Addr) (zs : List Int), a0 = some x ∧ len0 ≤ zs.length ∧ ∀ i, i < zs.length → W.cell? (x.add i) = some (.int .u8 (zs.getD i 0)))
    (h3 : (a3 = none ∧ len3 = 0 ∧ cap3 = 0) ∨ ∃ (x : Addr) (ss : List ByteArray), a3 = some x ∧ len3 ≤ ss.length ∧ ∀ i, i < ss.length → W.cell? (x.add i) = some (.string (ss.getD i ByteArray.empty))) :
    Calls Yba.prog 3 #[.slice a0 len0 cap0, .string p, .string c, .slice a3 len3 cap3] W fun e w' => e = .returned (.bool true) ∧ Old W.heap.size W w' := by
  obtain ⟨b, o, ss, hs, hb, hnil⟩ : ∃ b o ss, StrsAt W a3 b o len3 ss ∧ (0 < len3 → b < W.heap.size) ∧ (a3 = none → len3 = 0) := by
    rcases h3 with ⟨rfl, rfl, rfl⟩ | ⟨x, ss, rfl, hl, hc⟩
    · exact ⟨0, 0, [], ⟨rfl, fun h => absurd h (Nat.lt_irrefl _), fun i h => absurd h (Nat.not_lt_zero _)⟩, fun h => absurd h (Nat.lt_irrefl _), fun _ => rfl⟩
    · have hs := strs_opened hl hc
      exact ⟨_, _, _, hs, fun h => World.block_lt_of_cell? W ⟨x.block, x.off + 0, none⟩ (hs.cell 0 h), fun h => by cases h⟩
  rcases h0 with ⟨rfl, rfl, rfl⟩ | ⟨x, zs, rfl, hl, hc⟩
  · exact law_nil p c a3 b o len3 cap3 ss W hs hb hnil
  · have hx := bytes_opened hl hc
    refine law_some x x.block x.off len0 cap0 (zs.take len0) p c a3 b o len3 cap3 ss W hx (fun h => ?_) hs hb hnil
    have h0 := hc 0 (by omega)
    have := World.block_lt_of_cell? _ _ h0
    simpa [Addr.add] using this

set_option maxRecDepth 100000 in
theorem lifted (os : Os) (started : os.Started) (H : Type) (enc : TypeId × Value → H) :
    ReturnsInHanded {} Yba.checked os 3 .any (Rows.lawS3514BExactSpec.pre6 enc Yba.prog Yba.f3 Rows.lawS3514BExactRow.domain false) (Rows.lawS3514BExactSpec.post enc Yba.prog Yba.f3 false true false false) := by
  refine returnsInHanded_of_change (C := Yba.checked) own started (by kernel_rfl) Yba.func3
    (ChangeSpec.witness6 (enc := enc) (C := Yba.checked) false ⟨#[], #[.slice none 0 0, .string ByteArray.empty, .string ByteArray.empty, .slice none 0 0], []⟩ 8 (by kernel_rfl) (by kernel_rfl) (by kernel_rfl) (by kernel_rfl)) ?_
  intro W base args ds gs before hval0 hW hcnd _
  have hval : ∀ (j : Nat) t v, Yba.f3.params[j]? = some t → args[j]? = some v → Value.okWide Yba.prog W .any base t v := hval0
  have hW' := hW
  obtain ⟨p, q, hA0, hV, rfl, hfz, hnd⟩ := hW
  have hA : DataW.TrodAll enc Yba.prog W 0 (fun _ => true) true Yba.f3.params.toList args.toList ds p := hA0
  rw [Yba.params3] at hA hval
  obtain ⟨v0, vs0, d0, ds0, p0, q0, hargs, rfl, rfl, h0, r0⟩ := trodAll_cons hA
  obtain ⟨v1, vs1, d1, ds1, p1, q1, rfl, rfl, rfl, h1, r1⟩ := trodAll_cons r0
  obtain ⟨v2, vs2, d2, ds2, p2, q2, rfl, rfl, rfl, h2, r2⟩ := trodAll_cons r1
  obtain ⟨v3, vs3, d3, ds3, p3, q3, rfl, rfl, rfl, h3, r3⟩ := trodAll_cons r2
  obtain ⟨rfl, rfl, rfl⟩ := trodAll_nil r3
  obtain rfl : args = #[v0, v1, v2, v3] := by cases args; simp_all
  obtain ⟨rfl, rfl⟩ := trodVars_none hV
  obtain ⟨a0, len0, cap0, rfl⟩ := okWide_slice Yba.underlying22 (hval 0 22 v0 rfl rfl)
  have k0 := h0
  have lt0 : ∀ x ∈ p0, x.block < W.heap.size := by obtain ⟨m, hm⟩ := k0; exact DataW.trod_lt m _ _ _ hm
  have w0 : (a0 = none ∧ len0 = 0 ∧ cap0 = 0) ∨ ∃ (x : Addr) (zs : List Int), a0 = some x ∧ len0 ≤ zs.length ∧ ∀ i, i < zs.length → W.cell? (x.add i) = some (.int .u8 (zs.getD i 0)) := by
    obtain ⟨fuel, hf⟩ := h0
    rcases open_ints Yba.underlying22 Yba.underlying5 (by kernel_rfl) hf with ⟨hcs, _⟩ | ⟨x, l, c, zs, hcs, _, hl, hm, hz, _, hcell, hwz⟩
    · simp [Value.cells] at hcs
      exact .inl hcs
    · simp [Value.cells] at hcs
      obtain ⟨rfl, rfl, rfl⟩ := hcs
      simp only [if_true] at hz
      exact .inr ⟨_, zs, rfl, by omega, hcell⟩
  obtain ⟨a1, rfl, rfl, rfl, w1⟩ := open_string Yba.underlying9 (hval 1 9 v1 rfl rfl) h1
  obtain ⟨a2, rfl, rfl, rfl, w2⟩ := open_string Yba.underlying9 (hval 2 9 v2 rfl rfl) h2
  obtain ⟨a3, len3, cap3, rfl⟩ := okWide_slice Yba.underlying23 (hval 3 23 v3 rfl rfl)
  have k3 := h3
  have lt3 : ∀ x ∈ p3, x.block < W.heap.size := by obtain ⟨m, hm⟩ := k3; exact DataW.trod_lt m _ _ _ hm
  have w3 : (a3 = none ∧ len3 = 0 ∧ cap3 = 0) ∨ ∃ (x : Addr) (ss : List ByteArray), a3 = some x ∧ len3 ≤ ss.length ∧ ∀ i, i < ss.length → W.cell? (x.add i) = some (.string (ss.getD i ByteArray.empty)) := by
    obtain ⟨fuel, hf⟩ := h3
    rcases open_strings Yba.underlying23 Yba.underlying9 (by kernel_rfl) hf with ⟨hcs, _⟩ | ⟨x, l, c, ss, hcs, _, hl, hm, hz, _, hcell, hws⟩
    · simp [Value.cells] at hcs
      exact .inl hcs
    · simp [Value.cells] at hcs
      obtain ⟨rfl, rfl, rfl⟩ := hcs
      simp only [if_true] at hz
      exact .inr ⟨_, ss, rfl, by omega, hcell⟩
  clear hA0 hval0
  refine (walk_all a0 len0 cap0 a1 a2 a3 len3 cap3 W w0 w3).mono fun e W' ⟨he, bel⟩ => ?_
  subst he
  exact ⟨_, rfl, _, _, _, [], _, [], hW', trodAll_mk1 (shut_bool Yba.underlying4 _), (trodAll_cons_mk (Old.trod laidOut (by kernel_rfl) (of_decide_eq_true (by kernel_rfl)) k0 bel lt0) (trodAll_cons_mk (shut_string Yba.underlying9 w1) (trodAll_cons_mk (shut_string Yba.underlying9 w2) (trodAll_cons_mk (Old.trod laidOut (by kernel_rfl) (of_decide_eq_true (by kernel_rfl)) k3 bel lt3) trodAll_mk0)))), rfl, bel.frame _, fun h => by cases h⟩

theorem over : Rows.lawS3514BExactRow.holds Yba.pinned (OpenSpec.ofChange Rows.lawS3514BExactSpec) :=
  OpenClaim.holds_of_wide 3 Yba.f3 rfl rfl rfl rfl rfl rfl rfl ⟨rfl, rfl, rfl, rfl, rfl⟩ rfl rfl rfl rfl rfl (by kernel_rfl) Yba.func3 (by kernel_rfl)
    (of_decide_eq_true (by kernel_rfl)) (by unfold Func.isWrapper; first | (rw [if_pos (by decide +kernel)]; kernel_rfl) | (rw [if_neg (by decide +kernel)]; exact ⟨rfl, rfl⟩))
    (fun os started H enc _ => lifted os started H enc)

/-- ████ THE STATEMENT ████ -/
theorem lawS3514BExact_proved : Rows.LawS3514BExactSaid := over
end Go.Proofs.Ybulkbtte
