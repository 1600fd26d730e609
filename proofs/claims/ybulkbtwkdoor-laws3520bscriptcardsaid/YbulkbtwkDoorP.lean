/-
  The plain part: a list of savepoints (a name, a mark), what Set and RollBack make of it, where a name stands in it, and what a map that indexes it by name holds. No Go function in sight.
-/
import Derived.Test.YbulkbtwkDoorRows
import Derived.WalkKit
import Derived.Maps.OwnSet
namespace Go.Proofs.YbulkbtwkDoor
open Go.RowKit

abbrev Sps := List (ByteArray × Int)
def nmA (L : Sps) (i : Nat) : ByteArray := (L[i]?.getD (ByteArray.empty, 0)).1
def mkA (L : Sps) (i : Nat) : Int := (L[i]?.getD (ByteArray.empty, 0)).2
/-- Where the name stands: the first place. -/
def ix (L : Sps) (s : ByteArray) : Option Nat := L.findIdx? (fun p => p.1.toList == s.toList)
/-- No name twice. -/
def Nd (L : Sps) : Prop := ∀ i j, i < L.length → j < L.length → nmA L i = nmA L j → i = j

theorem toList_inj {a b : ByteArray} : (a.toList == b.toList) = true ↔ a = b := by
  rw [ByteArray.toList_eq, ByteArray.toList_eq, beq_iff_eq]
  constructor
  · intro h
    apply ByteArray.ext
    exact Array.toList_inj.1 h
  · intro h; rw [h]

theorem nmA_get (L : Sps) (i : Nat) (h : i < L.length) : nmA L i = L[i].1 := by unfold nmA; rw [List.getElem?_eq_getElem h]; rfl
theorem mkA_get (L : Sps) (i : Nat) (h : i < L.length) : mkA L i = L[i].2 := by unfold mkA; rw [List.getElem?_eq_getElem h]; rfl

theorem ix_some_iff (L : Sps) (s : ByteArray) (j : Nat) : ix L s = some j ↔ j < L.length ∧ nmA L j = s ∧ ∀ i, i < j → nmA L i ≠ s := by
  unfold ix
  rw [List.findIdx?_eq_some_iff_getElem]
  constructor
  · rintro ⟨h, h1, h2⟩
    refine ⟨h, ?_, fun i hi e => ?_⟩
    · rw [nmA_get L j h]; exact toList_inj.1 h1
    · have := h2 i hi
      rw [nmA_get L i (by omega)] at e
      exact this (toList_inj.2 e)
  · rintro ⟨h, h1, h2⟩
    refine ⟨h, ?_, fun i hi e => ?_⟩
    · rw [nmA_get L j h] at h1; exact toList_inj.2 h1
    · have := h2 i hi
      rw [nmA_get L i (by omega)] at this
      exact this (toList_inj.1 e)

theorem ix_none_iff (L : Sps) (s : ByteArray) : ix L s = none ↔ ∀ i, i < L.length → nmA L i ≠ s := by
  constructor
  · intro h i hi e
    unfold ix at h
    rw [List.findIdx?_eq_none_iff] at h
    have := h L[i] (List.getElem_mem hi)
    rw [nmA_get L i hi] at e
    rw [toList_inj.2 e] at this
    cases this
  · intro h
    cases hx : ix L s with
    | none => rfl
    | some j =>
      obtain ⟨h1, h2, _⟩ := (ix_some_iff L s j).1 hx
      exact absurd h2 (h j h1)

/-- Among names of which none stands twice: where it stands is where it stands. -/
theorem ix_at {L : Sps} (hn : Nd L) {s : ByteArray} {j : Nat} (hj : j < L.length) (h : nmA L j = s) : ix L s = some j :=
  (ix_some_iff L s j).2 ⟨hj, h, fun i hi e => by have := hn i j (by omega) hj (e.trans h.symm); omega⟩

theorem ix_iff {L : Sps} (hn : Nd L) (s : ByteArray) (j : Nat) : ix L s = some j ↔ j < L.length ∧ nmA L j = s :=
  ⟨fun h => let ⟨a, b, _⟩ := (ix_some_iff L s j).1 h; ⟨a, b⟩, fun ⟨a, b⟩ => ix_at hn a b⟩

/-! ### cutting, striking, adding -/
theorem nmA_take (L : Sps) (k i : Nat) (h : i < k) : nmA (L.take k) i = nmA L i := by unfold nmA; rw [List.getElem?_take, if_pos h]
theorem mkA_take (L : Sps) (k i : Nat) (h : i < k) : mkA (L.take k) i = mkA L i := by unfold mkA; rw [List.getElem?_take, if_pos h]
theorem Nd.take {L : Sps} (h : Nd L) (k : Nat) : Nd (L.take k) := fun i j hi hj e => by
  simp at hi hj
  rw [nmA_take L k i (by omega), nmA_take L k j (by omega)] at e
  exact h i j (by omega) (by omega) e

theorem nmA_erase (L : Sps) (k i : Nat) : nmA (L.eraseIdx k) i = if i < k then nmA L i else nmA L (i + 1) := by
  unfold nmA; rw [List.getElem?_eraseIdx]; split <;> rfl
theorem mkA_erase (L : Sps) (k i : Nat) : mkA (L.eraseIdx k) i = if i < k then mkA L i else mkA L (i + 1) := by
  unfold mkA; rw [List.getElem?_eraseIdx]; split <;> rfl
theorem Nd.erase {L : Sps} (h : Nd L) {k : Nat} (hk : k < L.length) : Nd (L.eraseIdx k) := fun i j hi hj e => by
  rw [List.length_eraseIdx_of_lt hk] at hi hj
  rw [nmA_erase, nmA_erase] at e
  split at e <;> split at e
  · exact h i j (by omega) (by omega) e
  · have := h i (j + 1) (by omega) (by omega) e; omega
  · have := h (i + 1) j (by omega) (by omega) e; omega
  · have := h (i + 1) (j + 1) (by omega) (by omega) e; omega

theorem nmA_snoc_lt (L : Sps) (x : ByteArray × Int) (i : Nat) (h : i < L.length) : nmA (L ++ [x]) i = nmA L i := by unfold nmA; rw [List.getElem?_append_left h]
theorem mkA_snoc_lt (L : Sps) (x : ByteArray × Int) (i : Nat) (h : i < L.length) : mkA (L ++ [x]) i = mkA L i := by unfold mkA; rw [List.getElem?_append_left h]
theorem nmA_snoc_at (L : Sps) (x : ByteArray × Int) : nmA (L ++ [x]) L.length = x.1 := by unfold nmA; simp
theorem mkA_snoc_at (L : Sps) (x : ByteArray × Int) : mkA (L ++ [x]) L.length = x.2 := by unfold mkA; simp
theorem Nd.snoc {L : Sps} (h : Nd L) {x : ByteArray × Int} (hx : ∀ i, i < L.length → nmA L i ≠ x.1) : Nd (L ++ [x]) := fun i j hi hj e => by
  simp at hi hj
  rcases Nat.lt_or_ge i L.length with h1 | h1 <;> rcases Nat.lt_or_ge j L.length with h2 | h2
  · rw [nmA_snoc_lt L x i h1, nmA_snoc_lt L x j h2] at e; exact h i j h1 h2 e
  · obtain rfl : j = L.length := by omega
    rw [nmA_snoc_lt L x i h1, nmA_snoc_at] at e; exact absurd e (hx i h1)
  · obtain rfl : i = L.length := by omega
    rw [nmA_snoc_at, nmA_snoc_lt L x j h2] at e; exact absurd e.symm (hx j h2)
  · omega

/-- What Set strikes. -/
def strike (L : Sps) (s : ByteArray) : Sps := match ix L s with | some j => L.eraseIdx j | none => L
/-- What Set leaves. -/
def setL (L : Sps) (s : ByteArray) (m : Int) : Sps := strike L s ++ [(s, m)]
/-- What RollBack leaves. -/
def rollL (L : Sps) (s : ByteArray) : Sps := match ix L s with | some j => L.take (j + 1) | none => L

theorem strike_free {L : Sps} (hn : Nd L) (s : ByteArray) : ∀ i, i < (strike L s).length → nmA (strike L s) i ≠ s := by
  unfold strike
  cases hx : ix L s with
  | none => exact (ix_none_iff L s).1 hx
  | some j =>
    obtain ⟨h1, h2, _⟩ := (ix_some_iff L s j).1 hx
    intro i hi e
    simp only at hi e
    rw [List.length_eraseIdx_of_lt h1] at hi
    rw [nmA_erase] at e
    split at e
    · have := hn i j (by omega) h1 (e.trans h2.symm); omega
    · have := hn (i + 1) j (by omega) h1 (e.trans h2.symm); omega
theorem strike_nd {L : Sps} (hn : Nd L) (s : ByteArray) : Nd (strike L s) := by
  unfold strike
  cases hx : ix L s with
  | none => exact hn
  | some j => exact hn.erase ((ix_some_iff L s j).1 hx).1
theorem strike_len (L : Sps) (s : ByteArray) : (strike L s).length ≤ L.length := by
  unfold strike
  cases hx : ix L s with
  | none => exact Nat.le_refl _
  | some j => exact List.length_eraseIdx_le _ _
theorem setL_nd {L : Sps} (hn : Nd L) (s : ByteArray) (m : Int) : Nd (setL L s m) := (strike_nd hn s).snoc (strike_free hn s)
theorem rollL_nd {L : Sps} (hn : Nd L) (s : ByteArray) : Nd (rollL L s) := by
  unfold rollL
  cases hx : ix L s with
  | none => exact hn
  | some j => exact hn.take _
theorem setL_len (L : Sps) (s : ByteArray) (m : Int) : (setL L s m).length ≤ L.length + 1 := by
  unfold setL; have := strike_len L s; simp; omega
theorem rollL_len (L : Sps) (s : ByteArray) : (rollL L s).length ≤ L.length := by
  unfold rollL
  cases hx : ix L s with
  | none => exact Nat.le_refl _
  | some j => simp; omega

/-- Each name is a string that fits, each mark an int. -/
def Fits (L : Sps) : Prop := ∀ i, i < L.length → (nmA L i).size ≤ maxLen ∧ (Lit.int .i64 (mkA L i)).wf = true
theorem Fits.take {L : Sps} (h : Fits L) (k : Nat) : Fits (L.take k) := fun i hi => by
  simp at hi; rw [nmA_take L k i (by omega), mkA_take L k i (by omega)]; exact h i (by omega)
theorem Fits.erase {L : Sps} (h : Fits L) {k : Nat} (hk : k < L.length) : Fits (L.eraseIdx k) := fun i hi => by
  rw [List.length_eraseIdx_of_lt hk] at hi
  rw [nmA_erase, mkA_erase]
  split
  · exact h i (by omega)
  · exact h (i + 1) (by omega)
theorem Fits.snoc {L : Sps} (h : Fits L) {x : ByteArray × Int} (h1 : x.1.size ≤ maxLen) (h2 : (Lit.int .i64 x.2).wf = true) : Fits (L ++ [x]) := fun i hi => by
  simp at hi
  rcases Nat.lt_or_ge i L.length with h3 | h3
  · rw [nmA_snoc_lt L x i h3, mkA_snoc_lt L x i h3]; exact h i h3
  · obtain rfl : i = L.length := by omega
    rw [nmA_snoc_at, mkA_snoc_at]; exact ⟨h1, h2⟩
theorem Fits.strike {L : Sps} (h : Fits L) (s : ByteArray) : Fits (strike L s) := by
  unfold YbulkbtwkDoor.strike
  cases hx : ix L s with
  | none => exact h
  | some j => exact h.erase ((ix_some_iff L s j).1 hx).1
theorem Fits.set {L : Sps} (h : Fits L) {s : ByteArray} {m : Int} (h1 : s.size ≤ maxLen) (h2 : (Lit.int .i64 m).wf = true) : Fits (setL L s m) := (h.strike s).snoc h1 h2
theorem Fits.roll {L : Sps} (h : Fits L) (s : ByteArray) : Fits (rollL L s) := by
  unfold rollL
  cases hx : ix L s with
  | none => exact h
  | some j => exact h.take _

/-! ### the map -/
def key (s : ByteArray) : Lit := .string s.data.toList
theorem key_inj {a b : ByteArray} (h : key a = key b) : a = b := by
  unfold key at h
  apply ByteArray.ext
  have : a.data.toList = b.data.toList := by simpa using h
  exact Array.toList_inj.1 this
theorem key_isKey (s : ByteArray) : WideAt.IsKeyLit (key s) := by simp [WideAt.IsKeyLit, key]

/-- The map D tells of each name where it stands in L, and holds no other. -/
structure Ix (D : DataW Unit) (L : Sps) : Prop where
  size : Maps.size D = L.length
  has : ∀ s, Maps.has D (key s) = (ix L s).isSome
  at_ : ∀ s j, ix L s = some j → ∀ z, D.atKey (key s) z = .lit (.int .i64 j)

theorem ix_lt {L : Sps} {s : ByteArray} {j : Nat} (h : ix L s = some j) : j < L.length := ((ix_some_iff L s j).1 h).1
theorem ix_nm {L : Sps} {s : ByteArray} {j : Nat} (h : ix L s = some j) : nmA L j = s := ((ix_some_iff L s j).1 h).2.1
theorem isSome_iff {L : Sps} (hn : Nd L) (s : ByteArray) : (ix L s).isSome = true ↔ ∃ j, j < L.length ∧ nmA L j = s := by
  constructor
  · intro h
    obtain ⟨j, hj⟩ := Option.isSome_iff_exists.1 h
    exact ⟨j, ix_lt hj, ix_nm hj⟩
  · rintro ⟨j, h1, h2⟩
    rw [ix_at hn h1 h2]; rfl

theorem ix_snoc_lt {L : Sps} (hn : Nd L) {x : ByteArray × Int} (hx : ∀ i, i < L.length → nmA L i ≠ x.1) {s : ByteArray} (hs : s ≠ x.1) : ix (L ++ [x]) s = ix L s := by
  cases h : ix L s with
  | some j =>
    refine ix_at (hn.snoc hx) (by have := ix_lt h; simp; omega) ?_
    rw [nmA_snoc_lt L x j (ix_lt h)]; exact ix_nm h
  | none =>
    refine (ix_none_iff _ _).2 fun i hi e => ?_
    simp at hi
    rcases Nat.lt_or_ge i L.length with h3 | h3
    · rw [nmA_snoc_lt L x i h3] at e; exact (ix_none_iff L s).1 h i h3 e
    · obtain rfl : i = L.length := by omega
      rw [nmA_snoc_at] at e; exact hs e.symm
theorem ix_snoc_at {L : Sps} (hn : Nd L) {x : ByteArray × Int} (hx : ∀ i, i < L.length → nmA L i ≠ x.1) : ix (L ++ [x]) x.1 = some L.length :=
  ix_at (hn.snoc hx) (by simp) (nmA_snoc_at L x)

def at64 (j : Nat) : DataW Unit := .lit (.int .i64 j)

/-- An entry is added behind the last. -/
theorem Ix.put_new {D : DataW Unit} {L : Sps} (h : Ix D L) (ht : Maps.Tidy D) (hn : Nd L) {x : ByteArray × Int} (hx : ∀ i, i < L.length → nmA L i ≠ x.1) : Ix (D.put (key x.1) (at64 L.length)) (L ++ [x]) := by
  have hno : ix L x.1 = none := (ix_none_iff L x.1).2 hx
  refine ⟨?_, fun s => ?_, fun s j hj z => ?_⟩
  · rw [Maps.size_put ht, h.has, hno]; simp [h.size]
  · by_cases hs : s = x.1
    · subst hs; rw [Maps.has_put_same ht.isMap (key_isKey _), ix_snoc_at hn hx]; rfl
    · rw [Maps.has_put_other (fun e => hs (key_inj e)), h.has, ix_snoc_lt hn hx hs]
  · by_cases hs : s = x.1
    · subst hs
      rw [ix_snoc_at hn hx] at hj
      cases hj
      exact Maps.atKey_put_same ht.isMap (key_isKey _) _ z
    · rw [Maps.atKey_put_other (fun e => hs (key_inj e))]
      rw [ix_snoc_lt hn hx hs] at hj
      exact h.at_ s j hj z

theorem ix_empty : Ix (.map []) [] := ⟨rfl, fun s => by simp [Maps.has, ix], fun s j hj => by simp [ix] at hj⟩

/-- Set, the name being there at place i: behind the entries up to place j of the shorter list L1 have been told anew. -/
structure Mid (D : DataW Unit) (L L1 : Sps) (j : Nat) : Prop where
  size : Maps.size D = L.length
  has : ∀ s, Maps.has D (key s) = (ix L s).isSome
  at_ : ∀ s t, ix L1 s = some t → t < j → ∀ z, D.atKey (key s) z = at64 t

theorem Mid.start {D : DataW Unit} {L : Sps} (h : Ix D L) (hn : Nd L) {i : Nat} (hi : i < L.length) : Mid D L (L.eraseIdx i) i := by
  refine ⟨h.size, h.has, fun s t ht htj z => ?_⟩
  obtain ⟨h1, h2⟩ := (ix_iff (hn.erase hi) s t).1 ht
  rw [nmA_erase, if_pos htj] at h2
  exact h.at_ s t (ix_at hn (by omega) h2) z

theorem Mid.step {D : DataW Unit} {L : Sps} {i j : Nat} (hn : Nd L) (hi : i < L.length) (h : Mid D L (L.eraseIdx i) j) (ht : Maps.Tidy D) (hj : j < (L.eraseIdx i).length) :
    Mid (D.put (key (nmA (L.eraseIdx i) j)) (at64 j)) L (L.eraseIdx i) (j + 1) := by
  have hin : Maps.has D (key (nmA (L.eraseIdx i) j)) = true := by
    rw [h.has, isSome_iff hn]
    rw [List.length_eraseIdx_of_lt hi] at hj
    rw [nmA_erase]
    split
    · exact ⟨j, by omega, rfl⟩
    · exact ⟨j + 1, by omega, rfl⟩
  refine ⟨?_, fun s => ?_, fun s t hx htj z => ?_⟩
  · rw [Maps.size_put ht, hin]; simpa using h.size
  · by_cases hs : s = nmA (L.eraseIdx i) j
    · subst hs; rw [Maps.has_put_same ht.isMap (key_isKey _), ← h.has, hin]
    · rw [Maps.has_put_other (fun e => hs (key_inj e)), h.has]
  · by_cases hs : s = nmA (L.eraseIdx i) j
    · subst hs
      rw [ix_at (hn.erase hi) hj rfl] at hx
      cases hx
      exact Maps.atKey_put_same ht.isMap (key_isKey _) _ z
    · rw [Maps.atKey_put_other (fun e => hs (key_inj e))]
      refine h.at_ s t hx ?_ z
      rcases Nat.lt_or_ge t j with h3 | h3
      · exact h3
      · obtain rfl : t = j := by omega
        exact absurd (ix_nm hx).symm hs

theorem Mid.fin {D : DataW Unit} {L : Sps} {i : Nat} (hn : Nd L) {s : ByteArray} (hi : ix L s = some i) (m : Int) (h : Mid D L (L.eraseIdx i) (L.eraseIdx i).length) (ht : Maps.Tidy D) :
    Ix (D.put (key s) (at64 (L.eraseIdx i).length)) (L.eraseIdx i ++ [(s, m)]) := by
  have hil := ix_lt hi
  have hstr : strike L s = L.eraseIdx i := by unfold strike; rw [hi]
  have hfree : ∀ k, k < (L.eraseIdx i).length → nmA (L.eraseIdx i) k ≠ s := by rw [← hstr]; exact strike_free hn s
  have hfree' : ∀ k, k < (L.eraseIdx i).length → nmA (L.eraseIdx i) k ≠ (s, m).1 := hfree
  refine ⟨?_, fun r => ?_, fun r j hj z => ?_⟩
  · rw [Maps.size_put ht, h.has, hi]
    simp only [Option.isSome_some, if_true, h.size, List.length_append, List.length_eraseIdx_of_lt hil, List.length_singleton]
    omega
  · by_cases hs : r = s
    · subst hs; rw [Maps.has_put_same ht.isMap (key_isKey _), ix_snoc_at (x := (r, m)) (hn.erase hil) hfree']; rfl
    · rw [Maps.has_put_other (fun e => hs (key_inj e)), h.has, ix_snoc_lt (x := (s, m)) (hn.erase hil) hfree' hs]
      rw [Bool.eq_iff_iff, isSome_iff hn, isSome_iff (hn.erase hil)]
      constructor
      · rintro ⟨k, hk, e⟩
        rcases Nat.lt_trichotomy k i with h3 | h3 | h3
        · exact ⟨k, by rw [List.length_eraseIdx_of_lt hil]; omega, by rw [nmA_erase, if_pos h3]; exact e⟩
        · subst h3; exact absurd (e.symm.trans (ix_nm hi)) hs
        · exact ⟨k - 1, by rw [List.length_eraseIdx_of_lt hil]; omega, by rw [nmA_erase, if_neg (by omega), Nat.sub_add_cancel (by omega)]; exact e⟩
      · rintro ⟨k, hk, e⟩
        rw [List.length_eraseIdx_of_lt hil] at hk
        rw [nmA_erase] at e
        split at e
        · exact ⟨k, by omega, e⟩
        · exact ⟨k + 1, by omega, e⟩
  · by_cases hs : r = s
    · subst hs
      rw [ix_snoc_at (x := (r, m)) (hn.erase hil) hfree'] at hj
      cases hj
      exact Maps.atKey_put_same ht.isMap (key_isKey _) _ z
    · rw [Maps.atKey_put_other (fun e => hs (key_inj e))]
      rw [ix_snoc_lt (x := (s, m)) (hn.erase hil) hfree' hs] at hj
      exact h.at_ r j hj (ix_lt hj) z

/-- RollBack to place i: t of the entries behind it have been struck. -/
structure Del (D : DataW Unit) (L : Sps) (i t : Nat) : Prop where
  size : Maps.size D + t = L.length
  has : ∀ s, Maps.has D (key s) = true ↔ ∃ j, ix L s = some j ∧ (j ≤ i ∨ i + 1 + t ≤ j)
  at_ : ∀ s j, ix L s = some j → (j ≤ i ∨ i + 1 + t ≤ j) → ∀ z, D.atKey (key s) z = at64 j

theorem Del.start {D : DataW Unit} {L : Sps} (h : Ix D L) (i : Nat) : Del D L i 0 := by
  refine ⟨h.size, fun s => ?_, fun s j hj _ z => h.at_ s j hj z⟩
  rw [h.has]
  constructor
  · intro hs
    obtain ⟨j, hj⟩ := Option.isSome_iff_exists.1 hs
    exact ⟨j, hj, by omega⟩
  · rintro ⟨j, hj, _⟩
    rw [hj]; rfl

theorem Del.step {D : DataW Unit} {L : Sps} {i t : Nat} (hn : Nd L) (h : Del D L i t) (ht : Maps.Tidy D) (hj : i + 1 + t < L.length) : Del (D.del (key (nmA L (i + 1 + t)))) L i (t + 1) := by
  have hix : ix L (nmA L (i + 1 + t)) = some (i + 1 + t) := ix_at hn hj rfl
  have hin : Maps.has D (key (nmA L (i + 1 + t))) = true := (h.has _).2 ⟨_, hix, by omega⟩
  refine ⟨?_, fun s => ?_, fun s j hx hc z => ?_⟩
  · have := Maps.size_del ht (k := key (nmA L (i + 1 + t)))
    rw [hin] at this
    have := h.size
    simp at *
    omega
  · by_cases hs : s = nmA L (i + 1 + t)
    · subst hs
      rw [Maps.has_del_same]
      constructor
      · intro e; cases e
      · rintro ⟨j, hx, hc⟩
        rw [hix] at hx
        cases hx
        omega
    · rw [Maps.has_del_other (fun e => hs (key_inj e)), h.has]
      constructor
      · rintro ⟨j, hx, hc⟩
        refine ⟨j, hx, ?_⟩
        rcases hc with hc | hc
        · exact .inl hc
        · right
          rcases Nat.lt_or_ge (i + 1 + t) j with h3 | h3
          · omega
          · obtain rfl : j = i + 1 + t := by omega
            exact absurd (ix_nm hx).symm hs
      · rintro ⟨j, hx, hc⟩
        exact ⟨j, hx, by omega⟩
  · have hs : s ≠ nmA L (i + 1 + t) := by
      intro hs
      subst hs
      rw [hix] at hx
      cases hx
      omega
    rw [Maps.atKey_del_other (fun e => hs (key_inj e))]
    exact h.at_ s j hx (by omega) z

theorem Del.fin {D : DataW Unit} {L : Sps} {i t : Nat} (hn : Nd L) (hi : i < L.length) (h : Del D L i t) (hj : i + 1 + t = L.length) : Ix D (L.take (i + 1)) := by
  have hlen : (L.take (i + 1)).length = i + 1 := by simp; omega
  have key1 : ∀ s j, ix (L.take (i + 1)) s = some j ↔ ix L s = some j ∧ j ≤ i := fun s j => by
    rw [ix_iff (hn.take _), ix_iff hn, hlen]
    constructor
    · rintro ⟨h1, h2⟩
      rw [nmA_take L _ j h1] at h2
      exact ⟨⟨by omega, h2⟩, by omega⟩
    · rintro ⟨⟨h1, h2⟩, h3⟩
      exact ⟨by omega, by rw [nmA_take L _ j (by omega)]; exact h2⟩
  refine ⟨?_, fun s => ?_, fun s j hx z => ?_⟩
  · have := h.size; omega
  · rw [Bool.eq_iff_iff, h.has, Option.isSome_iff_exists]
    constructor
    · rintro ⟨j, hx, hc⟩
      have := ix_lt hx
      exact ⟨j, (key1 s j).2 ⟨hx, by omega⟩⟩
    · rintro ⟨j, hx⟩
      obtain ⟨h1, h2⟩ := (key1 s j).1 hx
      exact ⟨j, h1, .inl h2⟩
  · obtain ⟨h1, h2⟩ := (key1 s j).1 hx
    exact h.at_ s j h1 (.inl h2) z

/-- In the words of the list: an entry behind the first k. -/
theorem take_snoc (L : Sps) (k : Nat) (h : k < L.length) : L.take (k + 1) = L.take k ++ [(nmA L k, mkA L k)] := by
  rw [List.take_succ_eq_append_getElem h, nmA_get L k h, mkA_get L k h]
theorem take_free {L : Sps} (hn : Nd L) (k : Nat) (h : k < L.length) : ∀ i, i < (L.take k).length → nmA (L.take k) i ≠ nmA L k := fun i hi e => by
  simp at hi
  rw [nmA_take L k i (by omega)] at e
  have := hn i k (by omega) h e
  omega

/-! ### the cells of a row -/
def cellsL (L : Sps) : List Value := L.flatMap fun p => [.string p.1, .int .i64 p.2]
theorem cellsL_length (L : Sps) : (cellsL L).length = L.length * 2 := by
  induction L with
  | nil => rfl
  | cons a r ih => simp only [cellsL, List.flatMap_cons, List.length_append] at ih ⊢; rw [ih]; simp; omega
theorem cellsL_append (A B : Sps) : cellsL (A ++ B) = cellsL A ++ cellsL B := by simp [cellsL]
theorem cellsL_take (L : Sps) (k : Nat) : cellsL (L.take k) = (cellsL L).take (k * 2) := by
  induction L generalizing k with
  | nil => simp [cellsL]
  | cons a r ih =>
    cases k with
    | zero => simp [cellsL]
    | succ k =>
      have e : (k + 1) * 2 = k * 2 + 2 := by omega
      simp only [List.take_succ_cons, cellsL, List.flatMap_cons] at ih ⊢
      rw [ih, e]
      simp
theorem cellsL_drop (L : Sps) (k : Nat) : cellsL (L.drop k) = (cellsL L).drop (k * 2) := by
  induction L generalizing k with
  | nil => simp [cellsL]
  | cons a r ih =>
    cases k with
    | zero => simp [cellsL]
    | succ k =>
      have e : (k + 1) * 2 = k * 2 + 2 := by omega
      simp only [List.drop_succ_cons, cellsL, List.flatMap_cons] at ih ⊢
      rw [ih, e]
      simp
theorem cellsL_name (L : Sps) (i : Nat) (h : i < L.length) : (cellsL L)[i * 2]? = some (.string (nmA L i)) := by
  induction L generalizing i with
  | nil => simp at h
  | cons a r ih =>
    cases i with
    | zero => simp [cellsL, nmA]
    | succ i =>
      have e : (i + 1) * 2 = i * 2 + 2 := by omega
      have h' := ih i (by simpa using h)
      simp only [cellsL, List.flatMap_cons] at h' ⊢
      rw [e]
      simpa [nmA] using h'
theorem cellsL_mark (L : Sps) (i : Nat) (h : i < L.length) : (cellsL L)[i * 2 + 1]? = some (.int .i64 (mkA L i)) := by
  induction L generalizing i with
  | nil => simp at h
  | cons a r ih =>
    cases i with
    | zero => simp [cellsL, mkA]
    | succ i =>
      have e : (i + 1) * 2 + 1 = i * 2 + 1 + 2 := by omega
      have h' := ih i (by simpa using h)
      simp only [cellsL, List.flatMap_cons] at h' ⊢
      rw [e]
      simpa [mkA] using h'
theorem cellsL_one (L : Sps) : ∀ v ∈ cellsL L, v.oneCell' = true := by
  intro v hv
  simp only [cellsL, List.mem_flatMap] at hv
  obtain ⟨p, _, hp⟩ := hv
  simp at hp
  rcases hp with rfl | rfl <;> rfl
theorem erase_split (L : Sps) (i : Nat) : L.eraseIdx i = L.take i ++ L.drop (i + 1) := List.eraseIdx_eq_take_drop_succ L i

end Go.Proofs.YbulkbtwkDoor
