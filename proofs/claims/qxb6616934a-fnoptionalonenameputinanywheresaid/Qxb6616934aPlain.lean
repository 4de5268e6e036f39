/-
  Plain laws: the first place of a text in a list, the fold that Optional makes, the least cover. No Go in sight.
-/
import Derived.Laws.Strings
namespace Go.Proofs.Qxb6616934a.Pl

theorem toList_inj {a b : ByteArray} : a.toList = b.toList ↔ a = b := by
  rw [ByteArray.toList_eq, ByteArray.toList_eq]
  constructor
  · intro h
    cases a; cases b
    simp at h
    rw [h]
  · intro h; rw [h]

/-- The first place of s in xs. -/
def pos (xs : List ByteArray) (s : ByteArray) : Option Nat := xs.findIdx? (fun x => x.toList == s.toList)

theorem pos_none {xs : List ByteArray} {s : ByteArray} : pos xs s = none ↔ ∀ j (h : j < xs.length), xs[j] ≠ s := by
  unfold pos
  rw [List.findIdx?_eq_none_iff]
  constructor
  · intro h j hj e
    have := h xs[j] (List.getElem_mem hj)
    rw [e] at this
    simp at this
  · intro h x hx
    obtain ⟨j, hj, rfl⟩ := List.getElem_of_mem hx
    have := h j hj
    cases e : (xs[j].toList == s.toList)
    · rfl
    · exact absurd (toList_inj.1 (by simpa using e)) this

theorem pos_some {xs : List ByteArray} {s : ByteArray} {i : Nat} : pos xs s = some i ↔ ∃ h : i < xs.length, xs[i] = s ∧ ∀ j (hj : j < i), xs[j] ≠ s := by
  unfold pos
  rw [List.findIdx?_eq_some_iff_getElem]
  constructor
  · rintro ⟨h, h1, h2⟩
    refine ⟨h, toList_inj.1 (by simpa using h1), fun j hj e => ?_⟩
    have := h2 j hj
    rw [e] at this
    simp at this
  · rintro ⟨h, h1, h2⟩
    refine ⟨h, by rw [h1]; simp, fun j hj => ?_⟩
    have := h2 j hj
    simp only [Bool.not_eq_true]
    cases e : (xs[j].toList == s.toList)
    · rfl
    · exact absurd (toList_inj.1 (by simpa using e)) this

theorem pos_mem {xs : List ByteArray} {s : ByteArray} : (pos xs s).isSome = true ↔ s ∈ xs := by
  constructor
  · intro h
    obtain ⟨i, hi⟩ := Option.isSome_iff_exists.1 h
    obtain ⟨h1, h2, _⟩ := pos_some.1 hi
    rw [← h2]; exact List.getElem_mem h1
  · intro h
    cases e : pos xs s with
    | some i => rfl
    | none =>
      obtain ⟨j, hj, rfl⟩ := List.getElem_of_mem h
      exact absurd rfl (pos_none.1 e j hj)

/-- As Go's zzCsvB1Pos has it. -/
def posI (xs : List ByteArray) (s : ByteArray) : Int := match pos xs s with | some i => i | none => -1

theorem posI_hit {xs : List ByteArray} {s : ByteArray} {k : Nat} (hk : k < xs.length) (h : xs[k] = s) (hno : ∀ j (hj : j < k), xs[j] ≠ s) : posI xs s = k := by
  unfold posI
  rw [pos_some.2 ⟨hk, h, hno⟩]

theorem posI_miss {xs : List ByteArray} {s : ByteArray} (hno : ∀ j (hj : j < xs.length), xs[j] ≠ s) : posI xs s = -1 := by
  unfold posI
  rw [pos_none.2 hno]

theorem posI_ge (xs : List ByteArray) (s : ByteArray) : -1 ≤ posI xs s ∧ posI xs s < xs.length := by
  unfold posI
  cases h : pos xs s with
  | none => simp; omega
  | some i => obtain ⟨h1, _⟩ := pos_some.1 h; simp; omega

/-- No name stands twice. -/
def Distinct (hs : List ByteArray) : Prop := ∀ i j (hi : i < hs.length) (hj : j < hs.length), hs[i] = hs[j] → i = j

theorem pos_distinct {hs : List ByteArray} (hd : Distinct hs) {j : Nat} (hj : j < hs.length) : pos hs hs[j] = some j := by
  refine pos_some.2 ⟨hj, rfl, fun i hi e => ?_⟩
  have := hd i j (by omega) hj e
  omega

/-- What Optional makes of need. -/
def optN (hs : List ByteArray) (names : List ByteArray) (need : Nat) : Nat :=
  names.foldl (fun n s => match pos hs s with | some i => max n (i + 1) | none => n) need

theorem optN_append (hs xs ys : List ByteArray) (need : Nat) : optN hs (xs ++ ys) need = optN hs ys (optN hs xs need) := by
  unfold optN; rw [List.foldl_append]

theorem optN_snoc (hs xs : List ByteArray) (s : ByteArray) (need : Nat) : optN hs (xs ++ [s]) need = match pos hs s with | some i => max (optN hs xs need) (i + 1) | none => optN hs xs need := by
  rw [optN_append]; rfl

/-- 'M' covers: it is the greatest of need and of the places behind the named columns. -/
def Cover (hs names : List ByteArray) (need M : Nat) : Prop :=
  need ≤ M ∧ (∀ j (hj : j < hs.length), hs[j] ∈ names → j + 1 ≤ M) ∧ (M = need ∨ ∃ j, ∃ hj : j < hs.length, hs[j] ∈ names ∧ M = j + 1)

theorem cover_unique {hs names : List ByteArray} {need M N : Nat} (h : Cover hs names need M) (k : Cover hs names need N) : M = N := by
  obtain ⟨h1, h2, h3⟩ := h
  obtain ⟨k1, k2, k3⟩ := k
  have a : M ≤ N := by
    rcases h3 with e | ⟨j, hj, hm, e⟩
    · omega
    · have := k2 j hj hm; omega
  have b : N ≤ M := by
    rcases k3 with e | ⟨j, hj, hm, e⟩
    · omega
    · have := h2 j hj hm; omega
  omega

theorem opt_cover {hs : List ByteArray} (hd : Distinct hs) : ∀ (names : List ByteArray) (need : Nat), Cover hs names need (optN hs names need) := by
  intro names
  induction names with
  | nil => intro need; exact ⟨Nat.le_refl _, fun j hj h => by simp at h, Or.inl rfl⟩
  | cons s names ih =>
    intro need
    have e : optN hs (s :: names) need = optN hs names (match pos hs s with | some i => max need (i + 1) | none => need) := rfl
    rw [e]
    cases hp : pos hs s with
    | none =>
      obtain ⟨h1, h2, h3⟩ := ih need
      refine ⟨h1, fun j hj h => ?_, ?_⟩
      · rcases List.mem_cons.1 h with e | h
        · exact absurd e (pos_none.1 hp j hj)
        · exact h2 j hj h
      · rcases h3 with e | ⟨j, hj, hm, e⟩
        · exact Or.inl e
        · exact Or.inr ⟨j, hj, List.mem_cons_of_mem _ hm, e⟩
    | some i =>
      obtain ⟨hi, he, _⟩ := pos_some.1 hp
      obtain ⟨h1, h2, h3⟩ := ih (max need (i + 1))
      dsimp only
      refine ⟨by omega, fun j hj h => ?_, ?_⟩
      · rcases List.mem_cons.1 h with e | h
        · have := hd j i hj hi (by rw [e, he]); omega
        · exact h2 j hj h
      · rcases h3 with e | ⟨j, hj, hm, e⟩
        · by_cases c : need ≤ i + 1
          · exact Or.inr ⟨i, hi, by rw [he]; exact List.mem_cons_self, by omega⟩
          · exact Or.inl (by omega)
        · exact Or.inr ⟨j, hj, List.mem_cons_of_mem _ hm, e⟩

/-- What zzCsvB1LeastCover comes to from column j - 1 down. -/
def lc (hs names : List ByteArray) (need : Nat) : Nat → Nat
  | 0 => need
  | j + 1 => if need ≤ j then (if (pos names (hs.getD j ByteArray.empty)).isSome then j + 1 else lc hs names need j) else need

theorem lc_cover (hs names : List ByteArray) (need : Nat) : ∀ n, n ≤ hs.length → need ≤ n →
    need ≤ lc hs names need n ∧ (∀ j (hj : j < hs.length), j < n → hs[j] ∈ names → j + 1 ≤ lc hs names need n) ∧ (lc hs names need n = need ∨ ∃ j, ∃ hj : j < hs.length, hs[j] ∈ names ∧ lc hs names need n = j + 1)
  | 0, _, _ => ⟨Nat.le_refl _, fun j hj h => by omega, Or.inl rfl⟩
  | n + 1, hn, hneed => by
    unfold lc
    have hg : hs.getD n ByteArray.empty = hs[n] := by simp [List.getD, List.getElem?_eq_getElem (show n < hs.length by omega)]
    rw [hg]
    by_cases c : need ≤ n
    · rw [if_pos c]
      by_cases m : (pos names hs[n]).isSome = true
      · rw [if_pos m]
        refine ⟨by omega, fun j hj h _ => by omega, Or.inr ⟨n, by omega, pos_mem.1 m, rfl⟩⟩
      · rw [if_neg m]
        obtain ⟨h1, h2, h3⟩ := lc_cover hs names need n (by omega) c
        refine ⟨h1, fun j hj h hm => ?_, h3⟩
        by_cases e : j = n
        · subst e; exact absurd (pos_mem.2 hm) m
        · exact h2 j hj (by omega) hm
    · rw [if_neg c]
      refine ⟨Nat.le_refl _, fun j hj h _ => by omega, Or.inl rfl⟩

theorem opt_lc {hs names : List ByteArray} {need : Nat} (hd : Distinct hs) (hn : need ≤ hs.length) : optN hs names need = lc hs names need hs.length := by
  obtain ⟨h1, h2, h3⟩ := lc_cover hs names need hs.length (Nat.le_refl _) hn
  exact cover_unique (opt_cover hd names need) ⟨h1, fun j hj hm => h2 j hj hj hm, h3⟩

theorem opt_split (hs names : List ByteArray) (need cut : Nat) : optN hs (names.drop cut) (optN hs (names.take cut) need) = optN hs names need := by
  rw [← optN_append, List.take_append_drop]

theorem opt_put_none {hs names : List ByteArray} {need p : Nat} {s : ByteArray} (hd : Distinct hs) (h : pos hs s = none) : optN hs (names.take p ++ (s :: names.drop p)) need = optN hs names need := by
  refine cover_unique (opt_cover hd _ need) ?_
  obtain ⟨h1, h2, h3⟩ := opt_cover hd names need
  have hm : ∀ x, x ∈ names.take p ++ (s :: names.drop p) ↔ x = s ∨ x ∈ names := by
    intro x
    rw [List.mem_append, List.mem_cons]
    conv => rhs; rw [← List.take_append_drop p names, List.mem_append]
    constructor
    · rintro (h | h | h) <;> simp [h]
    · rintro (h | h | h) <;> simp [h]
  refine ⟨h1, fun j hj hx => ?_, ?_⟩
  · rcases (hm _).1 hx with e | hx
    · exact absurd e (pos_none.1 h j hj)
    · exact h2 j hj hx
  · rcases h3 with e | ⟨j, hj, hx, e⟩
    · exact Or.inl e
    · exact Or.inr ⟨j, hj, (hm _).2 (Or.inr hx), e⟩

theorem opt_put_some {hs names : List ByteArray} {need p j0 : Nat} {s : ByteArray} (hd : Distinct hs) (h : pos hs s = some j0) : optN hs (names.take p ++ (s :: names.drop p)) need = max (optN hs names need) (j0 + 1) := by
  refine cover_unique (opt_cover hd _ need) ?_
  obtain ⟨h1, h2, h3⟩ := opt_cover hd names need
  obtain ⟨hi, he, _⟩ := pos_some.1 h
  have hm : ∀ x, x ∈ names.take p ++ (s :: names.drop p) ↔ x = s ∨ x ∈ names := by
    intro x
    rw [List.mem_append, List.mem_cons]
    conv => rhs; rw [← List.take_append_drop p names, List.mem_append]
    constructor
    · rintro (h | h | h) <;> simp [h]
    · rintro (h | h | h) <;> simp [h]
  refine ⟨by omega, fun j hj hx => ?_, ?_⟩
  · rcases (hm _).1 hx with e | hx
    · have := hd j j0 hj hi (by rw [e, he]); omega
    · have := h2 j hj hx; omega
  · by_cases c : optN hs names need ≤ j0 + 1
    · exact Or.inr ⟨j0, hi, (hm _).2 (Or.inl he), by omega⟩
    · rcases h3 with e | ⟨j, hj, hx, e⟩
      · exact Or.inl (by omega)
      · exact Or.inr ⟨j, hj, (hm _).2 (Or.inr hx), by omega⟩

theorem opt_le (hs : List ByteArray) : ∀ (names : List ByteArray) (need : Nat), need ≤ hs.length → optN hs names need ≤ hs.length := by
  intro names
  induction names with
  | nil => intro need h; exact h
  | cons s names ih =>
    intro need h
    have e : optN hs (s :: names) need = optN hs names (match pos hs s with | some i => max need (i + 1) | none => need) := rfl
    rw [e]
    cases hp : pos hs s with
    | none => exact ih need h
    | some i =>
      obtain ⟨hi, _⟩ := pos_some.1 hp
      exact ih _ (by dsimp only; omega)

end Go.Proofs.Qxb6616934a.Pl
