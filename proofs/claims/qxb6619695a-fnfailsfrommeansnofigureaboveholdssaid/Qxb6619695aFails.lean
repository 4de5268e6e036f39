/-
  FnFailsFromMeansNoFigureAboveHolds: her walk, and the row.
-/
import Derived.Test.Qxb6619695aSub
import Derived.ProofKit
import Derived.OpenShut
import Derived.ShutString
namespace Go.Proofs.Qxb6619695a.fnFailsFromMeansNoFigureAboveHolds
open Go.ChangeShapes Go.WideShapes Go.ChangeAt Go.RowKit
open Go.ChangeMaps (open_string shut_string)
open Go.Proofs.Qxb6619695a.Hd

/-! ### The plain law -/
theorem fails_up (s : List UInt8) (v x b : Nat) (hf : failsB s (Fl.ord v b) = true) (hx : Fl.ord x v = some .gt ∨ Fl.ord x v = some .eq) :
    holdsB s (Fl.ord x b) = false ∧ failsB s (Fl.ord x b) = true := by
  have hb : Fl.ord v b = none → Fl.ord x b = none := by
    intro h
    rcases (Fl.ord_none v b).1 h with g | g
    · have := (Fl.ord_none x v).2 (Or.inr g); rw [this] at hx; simp at hx
    · exact (Fl.ord_none x b).2 (Or.inr g)
  unfold failsB at hf ⊢
  by_cases q1 : (s == [60]) = true
  · have e1 : s = [60] := by simpa using q1
    subst e1
    simp only [holdsB, beq_self_eq_true, Bool.true_or, if_true] at hf ⊢
    cases hv : Fl.ord v b with
    | none => rw [hb hv]; decide
    | some o =>
      rw [hv] at hf
      have h2 : Fl.ord v b = some .gt ∨ Fl.ord v b = some .eq := by rw [hv]; cases o <;> simp at hf ⊢
      rcases (Fl.ord_trans x v b hx h2).1 with g | g <;> rw [g] <;> decide
  · by_cases q2 : (s == [60, 61]) = true
    · have e1 : s = [60, 61] := by simpa using q2
      subst e1
      have hne : (([60, 61] : List UInt8) == [60]) = false := by decide
      simp only [holdsB, hne, beq_self_eq_true, Bool.or_true, if_true, Bool.false_eq_true, if_false] at hf ⊢
      cases hv : Fl.ord v b with
      | none => rw [hb hv]; decide
      | some o =>
        rw [hv] at hf
        have h2 : Fl.ord v b = some .gt := by rw [hv]; cases o <;> simp at hf ⊢
        rw [(Fl.ord_trans x v b hx (Or.inl h2)).2 h2]; decide
    · have q12 : (s == [60] || s == [60, 61]) = false := by
        rw [Bool.not_eq_true] at q1 q2; rw [q1, q2]; rfl
      rw [q12] at hf ⊢
      by_cases q5 : (s == [61, 61]) = true
      · have e1 : s = [61, 61] := by simpa using q5
        subst e1
        have h2 : Fl.ord v b = some .gt := by simpa using hf
        have h3 := (Fl.ord_trans x v b hx (Or.inl h2)).2 h2
        rw [h3]; decide
      · rw [if_neg q5] at hf; simp at hf

/-! ### The walks -/
set_option maxRecDepth 100000 in
set_option maxHeartbeats 1000000 in
theorem walk_long (s : ByteArray) (v x b : Nat) (hs : s.size ≤ maxLen) (w : World) (h : ¬ s.size ≤ 65536) :
    Calls Try.prog 5 #[.string s, .float .f64 v, .float .f64 x, .float .f64 b] w fun e w' => e = .returned (.bool true) ∧ Grown w w' := by
  have hs0 := hs
  unfold maxLen at hs
  by_cases h1 : s.size ≤ 1048576
  · have d1 : decide (s.size ≤ 1048576) = true := by simpa using h1
    go_enter Try.func5, Try.ntmps5
    go_wp2_with (first | (go_at_call 9; refine (bytes9 _ _ _ _ _ hs0).mono ?_; rintro e w' ⟨rfl, rfl⟩) | (go_at_call 7; refine (zzholds_any _ _ _ _).mono ?_; rintro e w' ⟨rfl, rfl⟩) | (go_at_call 10; refine (zzfails_any _ _ _ _).mono ?_; rintro e w' ⟨rfl, rfl⟩))
    go_ret
    exact ⟨rfl, Grown.refl _⟩
  · have d1 : decide (s.size ≤ 1048576) = false := by simpa using h1
    go_enter Try.func5, Try.ntmps5
    go_wp2_with (first | (go_at_call 9; refine (bytes9 _ _ _ _ _ hs0).mono ?_; rintro e w' ⟨rfl, rfl⟩) | (go_at_call 7; refine (zzholds_any _ _ _ _).mono ?_; rintro e w' ⟨rfl, rfl⟩) | (go_at_call 10; refine (zzfails_any _ _ _ _).mono ?_; rintro e w' ⟨rfl, rfl⟩))
    go_ret
    exact ⟨rfl, Grown.refl _⟩

set_option maxRecDepth 100000 in
set_option maxHeartbeats 1000000 in
theorem walk_other (s : ByteArray) (v x b : Nat) (hs : s.size ≤ maxLen) (w : World) (h : s.size ≤ 65536)
    (q1 : (s.toList == [60]) = false) (q2 : (s.toList == [60, 61]) = false) (q5 : (s.toList == [61, 61]) = false) :
    Calls Try.prog 5 #[.string s, .float .f64 v, .float .f64 x, .float .f64 b] w fun e w' => e = .returned (.bool true) ∧ Grown w w' := by
  have hs0 := hs
  unfold maxLen at hs
  have d1 : decide (s.size ≤ 1048576) = true := by simp; omega
  have hF : failsB s.toList (Fl.ord v b) = false := by simp [failsB, q1, q2, q5]
  go_enter Try.func5, Try.ntmps5
  go_wp2_with (first | (go_at_call 9; refine (bytes9 _ _ _ _ _ hs0).mono ?_; rintro e w' ⟨rfl, rfl⟩) | (go_at_call 7; refine (zzholds_any _ _ _ _).mono ?_; rintro e w' ⟨rfl, rfl⟩) | (go_at_call 10; refine (zzfails_any _ _ _ _).mono ?_; rintro e w' ⟨rfl, rfl⟩))
  go_ret
  exact ⟨rfl, Grown.refl _⟩

set_option maxRecDepth 100000 in
set_option maxHeartbeats 2000000 in
theorem walk_less (s : ByteArray) (v x b : Nat) (hs : s.size ≤ maxLen) (w : World) (h : s.size ≤ 65536)
    (q : (s.toList == [60]) = true ∨ ((s.toList == [60]) = false ∧ (s.toList == [60, 61]) = true)) :
    Calls Try.prog 5 #[.string s, .float .f64 v, .float .f64 x, .float .f64 b] w fun e w' => e = .returned (.bool true) ∧ Grown w w' := by
  have hs0 := hs
  unfold maxLen at hs
  have d1 : decide (s.size ≤ 1048576) = true := by simp; omega
  have hFH : failsB s.toList (Fl.ord v b) = !holdsB s.toList (Fl.ord v b) := by
    rcases q with q1 | ⟨q1, q2⟩
    · simp [failsB, q1]
    · simp [failsB, q1, q2]
  cases hH : holdsB s.toList (Fl.ord v b)
  · have hF : failsB s.toList (Fl.ord v b) = true := by rw [hFH, hH]; rfl
    clear hFH
    cases hc : Fl.ord x v with
    | none =>
      have hc' : FloatKind.f64.format.order x v = none := hc
      clear hc
      rcases q with q1 | ⟨q1, q2⟩
      · go_enter Try.func5, Try.ntmps5
        go_wp2_with (first | (go_at_call 9; refine (bytes9 _ _ _ _ _ hs0).mono ?_; rintro e w' ⟨rfl, rfl⟩) | (go_at_call 7; refine (zzholds_any _ _ _ _).mono ?_; rintro e w' ⟨rfl, rfl⟩) | (go_at_call 10; refine (zzfails_any _ _ _ _).mono ?_; rintro e w' ⟨rfl, rfl⟩))
        go_ret
        exact ⟨rfl, Grown.refl _⟩
      · go_enter Try.func5, Try.ntmps5
        go_wp2_with (first | (go_at_call 9; refine (bytes9 _ _ _ _ _ hs0).mono ?_; rintro e w' ⟨rfl, rfl⟩) | (go_at_call 7; refine (zzholds_any _ _ _ _).mono ?_; rintro e w' ⟨rfl, rfl⟩) | (go_at_call 10; refine (zzfails_any _ _ _ _).mono ?_; rintro e w' ⟨rfl, rfl⟩))
        go_ret
        exact ⟨rfl, Grown.refl _⟩
    | some o =>
      have hc' : FloatKind.f64.format.order x v = some o := hc
      cases o with
      | lt =>
        clear hc
        rcases q with q1 | ⟨q1, q2⟩
        · go_enter Try.func5, Try.ntmps5
          go_wp2_with (first | (go_at_call 9; refine (bytes9 _ _ _ _ _ hs0).mono ?_; rintro e w' ⟨rfl, rfl⟩) | (go_at_call 7; refine (zzholds_any _ _ _ _).mono ?_; rintro e w' ⟨rfl, rfl⟩) | (go_at_call 10; refine (zzfails_any _ _ _ _).mono ?_; rintro e w' ⟨rfl, rfl⟩))
          go_ret
          exact ⟨rfl, Grown.refl _⟩
        · go_enter Try.func5, Try.ntmps5
          go_wp2_with (first | (go_at_call 9; refine (bytes9 _ _ _ _ _ hs0).mono ?_; rintro e w' ⟨rfl, rfl⟩) | (go_at_call 7; refine (zzholds_any _ _ _ _).mono ?_; rintro e w' ⟨rfl, rfl⟩) | (go_at_call 10; refine (zzfails_any _ _ _ _).mono ?_; rintro e w' ⟨rfl, rfl⟩))
          go_ret
          exact ⟨rfl, Grown.refl _⟩
      | eq =>
        obtain ⟨hH2, hF2⟩ := fails_up s.toList v x b hF (Or.inr hc)
        clear hc
        rcases q with q1 | ⟨q1, q2⟩
        · go_enter Try.func5, Try.ntmps5
          go_wp2_with (first | (go_at_call 9; refine (bytes9 _ _ _ _ _ hs0).mono ?_; rintro e w' ⟨rfl, rfl⟩) | (go_at_call 7; refine (zzholds_any _ _ _ _).mono ?_; rintro e w' ⟨rfl, rfl⟩) | (go_at_call 10; refine (zzfails_any _ _ _ _).mono ?_; rintro e w' ⟨rfl, rfl⟩))
          go_ret
          exact ⟨rfl, Grown.refl _⟩
        · go_enter Try.func5, Try.ntmps5
          go_wp2_with (first | (go_at_call 9; refine (bytes9 _ _ _ _ _ hs0).mono ?_; rintro e w' ⟨rfl, rfl⟩) | (go_at_call 7; refine (zzholds_any _ _ _ _).mono ?_; rintro e w' ⟨rfl, rfl⟩) | (go_at_call 10; refine (zzfails_any _ _ _ _).mono ?_; rintro e w' ⟨rfl, rfl⟩))
          go_ret
          exact ⟨rfl, Grown.refl _⟩
      | gt =>
        obtain ⟨hH2, hF2⟩ := fails_up s.toList v x b hF (Or.inl hc)
        clear hc
        rcases q with q1 | ⟨q1, q2⟩
        · go_enter Try.func5, Try.ntmps5
          go_wp2_with (first | (go_at_call 9; refine (bytes9 _ _ _ _ _ hs0).mono ?_; rintro e w' ⟨rfl, rfl⟩) | (go_at_call 7; refine (zzholds_any _ _ _ _).mono ?_; rintro e w' ⟨rfl, rfl⟩) | (go_at_call 10; refine (zzfails_any _ _ _ _).mono ?_; rintro e w' ⟨rfl, rfl⟩))
          go_ret
          exact ⟨rfl, Grown.refl _⟩
        · go_enter Try.func5, Try.ntmps5
          go_wp2_with (first | (go_at_call 9; refine (bytes9 _ _ _ _ _ hs0).mono ?_; rintro e w' ⟨rfl, rfl⟩) | (go_at_call 7; refine (zzholds_any _ _ _ _).mono ?_; rintro e w' ⟨rfl, rfl⟩) | (go_at_call 10; refine (zzfails_any _ _ _ _).mono ?_; rintro e w' ⟨rfl, rfl⟩))
          go_ret
          exact ⟨rfl, Grown.refl _⟩
  · have hF : failsB s.toList (Fl.ord v b) = false := by rw [hFH, hH]; rfl
    clear hFH
    rcases q with q1 | ⟨q1, q2⟩
    · go_enter Try.func5, Try.ntmps5
      go_wp2_with (first | (go_at_call 9; refine (bytes9 _ _ _ _ _ hs0).mono ?_; rintro e w' ⟨rfl, rfl⟩) | (go_at_call 7; refine (zzholds_any _ _ _ _).mono ?_; rintro e w' ⟨rfl, rfl⟩) | (go_at_call 10; refine (zzfails_any _ _ _ _).mono ?_; rintro e w' ⟨rfl, rfl⟩))
      go_ret
      exact ⟨rfl, Grown.refl _⟩
    · go_enter Try.func5, Try.ntmps5
      go_wp2_with (first | (go_at_call 9; refine (bytes9 _ _ _ _ _ hs0).mono ?_; rintro e w' ⟨rfl, rfl⟩) | (go_at_call 7; refine (zzholds_any _ _ _ _).mono ?_; rintro e w' ⟨rfl, rfl⟩) | (go_at_call 10; refine (zzfails_any _ _ _ _).mono ?_; rintro e w' ⟨rfl, rfl⟩))
      go_ret
      exact ⟨rfl, Grown.refl _⟩

set_option maxRecDepth 100000 in
set_option maxHeartbeats 2000000 in
theorem walk_equal_fails (s : ByteArray) (v x b : Nat) (hs : s.size ≤ maxLen) (w : World) (h : s.size ≤ 65536)
    (q1 : (s.toList == [60]) = false) (q2 : (s.toList == [60, 61]) = false) (q5 : (s.toList == [61, 61]) = true) (ho : Fl.ord v b = some .gt) :
    Calls Try.prog 5 #[.string s, .float .f64 v, .float .f64 x, .float .f64 b] w fun e w' => e = .returned (.bool true) ∧ Grown w w' := by
  have hs0 := hs
  unfold maxLen at hs
  have d1 : decide (s.size ≤ 1048576) = true := by simp; omega
  have hF : failsB s.toList (Fl.ord v b) = true := by rw [ho]; simp [failsB, q1, q2, q5]
  have ev : FloatKind.f64.format.order v v = some .eq := by
    rcases Fl.ord_self v with e | e
    · have := (Fl.ord_none v b).2 (Or.inl e); rw [ho] at this; cases this
    · exact e
  have eb : FloatKind.f64.format.order b b = some .eq := by
    rcases Fl.ord_self b with e | e
    · have := (Fl.ord_none v b).2 (Or.inr e); rw [ho] at this; cases this
    · exact e
  have ebv : FloatKind.f64.format.order b v = some .lt := by
    show Fl.ord b v = _
    rw [Fl.ord_swap, ho]; rfl
  clear ho
  cases hc : Fl.ord x v with
  | none =>
    have hc' : FloatKind.f64.format.order x v = none := hc
    clear hc
    go_enter Try.func5, Try.ntmps5
    go_wp2_with (first | (go_at_call 9; refine (bytes9 _ _ _ _ _ hs0).mono ?_; rintro e w' ⟨rfl, rfl⟩) | (go_at_call 7; refine (zzholds_any _ _ _ _).mono ?_; rintro e w' ⟨rfl, rfl⟩) | (go_at_call 10; refine (zzfails_any _ _ _ _).mono ?_; rintro e w' ⟨rfl, rfl⟩))
    go_ret
    exact ⟨rfl, Grown.refl _⟩
  | some o =>
    have hc' : FloatKind.f64.format.order x v = some o := hc
    cases o with
    | lt =>
      clear hc
      go_enter Try.func5, Try.ntmps5
      go_wp2_with (first | (go_at_call 9; refine (bytes9 _ _ _ _ _ hs0).mono ?_; rintro e w' ⟨rfl, rfl⟩) | (go_at_call 7; refine (zzholds_any _ _ _ _).mono ?_; rintro e w' ⟨rfl, rfl⟩) | (go_at_call 10; refine (zzfails_any _ _ _ _).mono ?_; rintro e w' ⟨rfl, rfl⟩))
      go_ret
      exact ⟨rfl, Grown.refl _⟩
    | eq =>
      obtain ⟨hH2, hF2⟩ := fails_up s.toList v x b hF (Or.inr hc)
      clear hc
      go_enter Try.func5, Try.ntmps5
      go_wp2_with (first | (go_at_call 9; refine (bytes9 _ _ _ _ _ hs0).mono ?_; rintro e w' ⟨rfl, rfl⟩) | (go_at_call 7; refine (zzholds_any _ _ _ _).mono ?_; rintro e w' ⟨rfl, rfl⟩) | (go_at_call 10; refine (zzfails_any _ _ _ _).mono ?_; rintro e w' ⟨rfl, rfl⟩))
      go_ret
      exact ⟨rfl, Grown.refl _⟩
    | gt =>
      obtain ⟨hH2, hF2⟩ := fails_up s.toList v x b hF (Or.inl hc)
      clear hc
      go_enter Try.func5, Try.ntmps5
      go_wp2_with (first | (go_at_call 9; refine (bytes9 _ _ _ _ _ hs0).mono ?_; rintro e w' ⟨rfl, rfl⟩) | (go_at_call 7; refine (zzholds_any _ _ _ _).mono ?_; rintro e w' ⟨rfl, rfl⟩) | (go_at_call 10; refine (zzfails_any _ _ _ _).mono ?_; rintro e w' ⟨rfl, rfl⟩))
      go_ret
      exact ⟨rfl, Grown.refl _⟩

set_option maxRecDepth 100000 in
set_option maxHeartbeats 2000000 in
theorem walk_equal_not (s : ByteArray) (v x b : Nat) (hs : s.size ≤ maxLen) (w : World) (h : s.size ≤ 65536)
    (q1 : (s.toList == [60]) = false) (q2 : (s.toList == [60, 61]) = false) (q5 : (s.toList == [61, 61]) = true) (ho : Fl.ord v b ≠ some .gt) :
    Calls Try.prog 5 #[.string s, .float .f64 v, .float .f64 x, .float .f64 b] w fun e w' => e = .returned (.bool true) ∧ Grown w w' := by
  have hs0 := hs
  unfold maxLen at hs
  have d1 : decide (s.size ≤ 1048576) = true := by simp; omega
  have hF : failsB s.toList (Fl.ord v b) = false := by simp [failsB, q1, q2, q5, ho]
  rcases Fl.ord_self v with e | e
  · have ev : FloatKind.f64.format.order v v = none := e
    clear ho e
    go_enter Try.func5, Try.ntmps5
    go_wp2_with (first | (go_at_call 9; refine (bytes9 _ _ _ _ _ hs0).mono ?_; rintro e w' ⟨rfl, rfl⟩) | (go_at_call 7; refine (zzholds_any _ _ _ _).mono ?_; rintro e w' ⟨rfl, rfl⟩) | (go_at_call 10; refine (zzfails_any _ _ _ _).mono ?_; rintro e w' ⟨rfl, rfl⟩))
    go_ret
    exact ⟨rfl, Grown.refl _⟩
  · have ev : FloatKind.f64.format.order v v = some .eq := e
    rcases Fl.ord_self b with e' | e'
    · have eb : FloatKind.f64.format.order b b = none := e'
      clear ho e e'
      go_enter Try.func5, Try.ntmps5
      go_wp2_with (first | (go_at_call 9; refine (bytes9 _ _ _ _ _ hs0).mono ?_; rintro e w' ⟨rfl, rfl⟩) | (go_at_call 7; refine (zzholds_any _ _ _ _).mono ?_; rintro e w' ⟨rfl, rfl⟩) | (go_at_call 10; refine (zzfails_any _ _ _ _).mono ?_; rintro e w' ⟨rfl, rfl⟩))
      go_ret
      exact ⟨rfl, Grown.refl _⟩
    · have eb : FloatKind.f64.format.order b b = some .eq := e'
      have hbb : holdsB [61, 61] (Fl.ord b b) = true := by rw [e']; decide
      have hn : Fl.ord v b ≠ none := by
        intro g
        rcases (Fl.ord_none v b).1 g with k | k
        · rw [e] at k; cases k
        · rw [e'] at k; cases k
      have hbv : FloatKind.f64.format.order b v = some .gt ∨ FloatKind.f64.format.order b v = some .eq := by
        show Fl.ord b v = _ ∨ Fl.ord b v = _
        rw [Fl.ord_swap]
        cases ho' : Fl.ord v b with
        | none => exact absurd ho' hn
        | some o => cases o with
          | lt => exact Or.inl rfl
          | eq => exact Or.inr rfl
          | gt => exact absurd ho' ho
      clear ho e e' hn
      rcases hbv with ebv | ebv
      · go_enter Try.func5, Try.ntmps5
        go_wp2_with (first | (go_at_call 9; refine (bytes9 _ _ _ _ _ hs0).mono ?_; rintro e w' ⟨rfl, rfl⟩) | (go_at_call 7; refine (zzholds_any _ _ _ _).mono ?_; rintro e w' ⟨rfl, rfl⟩) | (go_at_call 10; refine (zzfails_any _ _ _ _).mono ?_; rintro e w' ⟨rfl, rfl⟩))
        go_ret
        exact ⟨rfl, Grown.refl _⟩
      · go_enter Try.func5, Try.ntmps5
        go_wp2_with (first | (go_at_call 9; refine (bytes9 _ _ _ _ _ hs0).mono ?_; rintro e w' ⟨rfl, rfl⟩) | (go_at_call 7; refine (zzholds_any _ _ _ _).mono ?_; rintro e w' ⟨rfl, rfl⟩) | (go_at_call 10; refine (zzfails_any _ _ _ _).mono ?_; rintro e w' ⟨rfl, rfl⟩))
        go_ret
        exact ⟨rfl, Grown.refl _⟩

theorem walk (s : ByteArray) (v x b : Nat) (hs : s.size ≤ maxLen) (w : World) :
    Calls Try.prog 5 #[.string s, .float .f64 v, .float .f64 x, .float .f64 b] w fun e w' => e = .returned (.bool true) ∧ Grown w w' := by
  by_cases h : s.size ≤ 65536
  · cases q1 : (s.toList == [60])
    · cases q2 : (s.toList == [60, 61])
      · cases q5 : (s.toList == [61, 61])
        · exact walk_other s v x b hs w h q1 q2 q5
        · by_cases ho : Fl.ord v b = some .gt
          · exact walk_equal_fails s v x b hs w h q1 q2 q5 ho
          · exact walk_equal_not s v x b hs w h q1 q2 q5 ho
      · exact walk_less s v x b hs w h (Or.inr ⟨q1, q2⟩)
    · exact walk_less s v x b hs w h (Or.inl q1)
  · exact walk_long s v x b hs w h

/-! ### The row's step -/
theorem own : ownKnob Try.prog.godebug = none := by kernel_rfl

set_option maxRecDepth 100000 in
theorem lifted (os : Os) (started : os.Started) (H : Type) (enc : TypeId × Value → H) :
    ReturnsInHanded {} Try.checked os 5 .any (Rows.fnFailsFromMeansNoFigureAboveHoldsSpec.pre6 enc Try.prog Try.f5 Rows.fnFailsFromMeansNoFigureAboveHoldsRow.domain false) (Rows.fnFailsFromMeansNoFigureAboveHoldsSpec.post enc Try.prog Try.f5 false true false false) := by
  refine returnsInHanded_of_change (C := Try.checked) own started (by kernel_rfl) Try.func5
    (ChangeSpec.witness6 (enc := enc) (C := Try.checked) false ⟨#[], #[.string ByteArray.empty, .float .f64 0, .float .f64 0, .float .f64 0], []⟩ 8 (by kernel_rfl) (by kernel_rfl) (by kernel_rfl) (by kernel_rfl)) ?_
  intro W base args ds gs before hval0 hW hcnd _
  have hval : ∀ (j : Nat) t v, Try.f5.params[j]? = some t → args[j]? = some v → Value.okWide Try.prog W .any base t v := hval0
  have hW' := hW
  obtain ⟨p, q, hA0, hV, rfl, hfz, hnd⟩ := hW
  have hA : DataW.TrodAll enc Try.prog W 0 (fun _ => true) true Try.f5.params.toList args.toList ds p := hA0
  rw [Try.params5] at hA hval
  obtain ⟨v0, vs0, d0, ds0, p0, q0, hargs, rfl, rfl, h0, r0⟩ := trodAll_cons hA
  obtain ⟨v1, vs1, d1, ds1, p1, q1, rfl, rfl, rfl, h1, r1⟩ := trodAll_cons r0
  obtain ⟨v2, vs2, d2, ds2, p2, q2, rfl, rfl, rfl, h2, r2⟩ := trodAll_cons r1
  obtain ⟨v3, vs3, d3, ds3, p3, q3, rfl, rfl, rfl, h3, r3⟩ := trodAll_cons r2
  obtain ⟨rfl, rfl, rfl⟩ := trodAll_nil r3
  obtain rfl : args = #[v0, v1, v2, v3] := by cases args; simp_all
  obtain ⟨rfl, rfl⟩ := trodVars_none hV
  obtain ⟨a0, rfl, rfl, rfl, w0⟩ := open_string Try.underlying9 (hval 0 9 v0 rfl rfl) h0
  obtain ⟨a1, rfl, rfl, rfl, w1⟩ := open_float Try.underlying22 (hval 1 22 v1 rfl rfl) h1
  obtain ⟨a2, rfl, rfl, rfl, w2⟩ := open_float Try.underlying22 (hval 2 22 v2 rfl rfl) h2
  obtain ⟨a3, rfl, rfl, rfl, w3⟩ := open_float Try.underlying22 (hval 3 22 v3 rfl rfl) h3
  clear hA0 hval0
  simp only [List.append_nil] at hW'
  refine (walk a0 a1 a2 a3 w0 W).mono fun e W' ⟨he, hg⟩ => ?_
  subst he
  exact ⟨_, rfl, post_of_same (pa := []) (pv := []) hW' (fun _ _ _ => (trodAll_cons_mk (shut_bool Try.underlying4 _) trodAll_mk0)) (fun sp _ => (trodAll_cons_mk (shut_string Try.underlying9 w0) (trodAll_cons_mk (shut_float Try.underlying22 w1) (trodAll_cons_mk (shut_float Try.underlying22 w2) (trodAll_cons_mk (shut_float Try.underlying22 w3) trodAll_mk0))))) (fun _ _ => rfl) rfl
    (hg.frame _) hg.2.1 (ok_one (by kernel_rfl) rfl (okWide_bool_mk Try.underlying4 _))⟩

theorem over : Rows.fnFailsFromMeansNoFigureAboveHoldsRow.holds Try.pinned (OpenSpec.ofChange Rows.fnFailsFromMeansNoFigureAboveHoldsSpec) :=
  OpenClaim.holds_of_wide 5 Try.f5 rfl rfl rfl rfl rfl rfl rfl ⟨rfl, rfl, rfl, rfl, rfl⟩ rfl rfl rfl rfl rfl (by kernel_rfl) Try.func5 (by kernel_rfl)
    (of_decide_eq_true (by kernel_rfl)) (by unfold Func.isWrapper; first | (rw [if_pos (by decide +kernel)]; kernel_rfl) | (rw [if_neg (by decide +kernel)]; exact ⟨rfl, rfl⟩))
    (fun os started H enc _ => lifted os started H enc)
end Go.Proofs.Qxb6619695a.fnFailsFromMeansNoFigureAboveHolds
namespace Go.Proofs.Qxb6619695a
/-- The statement. -/
theorem fnFailsFromMeansNoFigureAboveHolds_holds : Rows.FnFailsFromMeansNoFigureAboveHoldsSaid :=
  fnFailsFromMeansNoFigureAboveHolds.over
end Go.Proofs.Qxb6619695a
