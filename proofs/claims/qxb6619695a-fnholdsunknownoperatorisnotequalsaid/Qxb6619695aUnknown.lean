/-
  FnHoldsUnknownOperatorIsNotEqual: her walk, and the row.
-/
import Derived.Test.Qxb6619695aSub
import Derived.ProofKit
import Derived.OpenShut
import Derived.ShutString
namespace Go.Proofs.Qxb6619695a.fnHoldsUnknownOperatorIsNotEqual
open Go.ChangeShapes Go.WideShapes Go.ChangeAt Go.RowKit
open Go.ChangeMaps (open_string shut_string)
open Go.Proofs.Qxb6619695a.Hd

set_option maxRecDepth 100000 in
set_option maxHeartbeats 1000000 in
theorem walk_long (s : ByteArray) (v b : Nat) (hs : s.size ≤ maxLen) (w : World) (h : ¬ s.size ≤ 65536) :
    Calls Try.prog 4 #[.string s, .float .f64 v, .float .f64 b] w fun e w' => e = .returned (.bool true) ∧ Grown w w' := by
  have hs0 := hs
  unfold maxLen at hs
  by_cases h1 : s.size ≤ 1048576
  · have d1 : decide (s.size ≤ 1048576) = true := by simpa using h1
    go_enter Try.func4, Try.ntmps4
    go_wp2_with (go_at_call 8; refine (bytes8 _ _ _ _ hs0).mono ?_; rintro e w' ⟨rfl, rfl⟩)
    go_ret
    exact ⟨rfl, Grown.refl _⟩
  · have d1 : decide (s.size ≤ 1048576) = false := by simpa using h1
    go_enter Try.func4, Try.ntmps4
    go_wp2_with (go_at_call 8; refine (bytes8 _ _ _ _ hs0).mono ?_; rintro e w' ⟨rfl, rfl⟩)
    go_ret
    exact ⟨rfl, Grown.refl _⟩

set_option maxRecDepth 100000 in
set_option maxHeartbeats 1000000 in
theorem walk_known (s : ByteArray) (v b : Nat) (hs : s.size ≤ maxLen) (w : World) (h : s.size ≤ 65536)
    (hk : (s.toList == [60]) = true ∨ (s.toList == [60, 61]) = true ∨ (s.toList == [62]) = true ∨ (s.toList == [62, 61]) = true ∨ (s.toList == [61, 61]) = true) :
    Calls Try.prog 4 #[.string s, .float .f64 v, .float .f64 b] w fun e w' => e = .returned (.bool true) ∧ Grown w w' := by
  have hs0 := hs
  unfold maxLen at hs
  have d1 : decide (s.size ≤ 1048576) = true := by simp; omega
  cases q1 : (s.toList == [60])
  · cases q2 : (s.toList == [60, 61])
    · cases q3 : (s.toList == [62])
      · cases q4 : (s.toList == [62, 61])
        · have q5 : (s.toList == [61, 61]) = true := by simpa [q1, q2, q3, q4] using hk
          clear hk
          go_enter Try.func4, Try.ntmps4
          go_wp2_with (go_at_call 8; refine (bytes8 _ _ _ _ hs0).mono ?_; rintro e w' ⟨rfl, rfl⟩)
          go_ret
          exact ⟨rfl, Grown.refl _⟩
        · clear hk
          go_enter Try.func4, Try.ntmps4
          go_wp2_with (go_at_call 8; refine (bytes8 _ _ _ _ hs0).mono ?_; rintro e w' ⟨rfl, rfl⟩)
          go_ret
          exact ⟨rfl, Grown.refl _⟩
      · clear hk
        go_enter Try.func4, Try.ntmps4
        go_wp2_with (go_at_call 8; refine (bytes8 _ _ _ _ hs0).mono ?_; rintro e w' ⟨rfl, rfl⟩)
        go_ret
        exact ⟨rfl, Grown.refl _⟩
    · clear hk
      go_enter Try.func4, Try.ntmps4
      go_wp2_with (go_at_call 8; refine (bytes8 _ _ _ _ hs0).mono ?_; rintro e w' ⟨rfl, rfl⟩)
      go_ret
      exact ⟨rfl, Grown.refl _⟩
  · clear hk
    go_enter Try.func4, Try.ntmps4
    go_wp2_with (go_at_call 8; refine (bytes8 _ _ _ _ hs0).mono ?_; rintro e w' ⟨rfl, rfl⟩)
    go_ret
    exact ⟨rfl, Grown.refl _⟩

attribute [local go_sem] holdsB

set_option maxRecDepth 100000 in
set_option maxHeartbeats 1000000 in
theorem walk_none (s : ByteArray) (v b : Nat) (hs : s.size ≤ maxLen) (w : World) (h : s.size ≤ 65536) (ho : Fl.ord v b = none)
    (q1 : (s.toList == [60]) = false) (q2 : (s.toList == [60, 61]) = false) (q3 : (s.toList == [62]) = false) (q4 : (s.toList == [62, 61]) = false) (q5 : (s.toList == [61, 61]) = false) :
    Calls Try.prog 4 #[.string s, .float .f64 v, .float .f64 b] w fun e w' => e = .returned (.bool true) ∧ Grown w w' := by
  have hs0 := hs
  unfold maxLen at hs
  have d1 : decide (s.size ≤ 1048576) = true := by simp; omega
  have h' : Fl.ord b v = none := by rw [Fl.ord_swap, ho]; rfl
  rcases Fl.ord_self v with e | e
  · have e1 : FloatKind.f64.format.order v v = none := e
    clear e
    go_enter Try.func4, Try.ntmps4
    go_wp2_with (first | (go_at_call 8; refine (bytes8 _ _ _ _ hs0).mono ?_; rintro e w' ⟨rfl, rfl⟩) | (go_at_call 7; refine (zzholds_any _ _ _ _).mono ?_; rintro e w' ⟨rfl, rfl⟩))
    go_ret
    exact ⟨rfl, Grown.refl _⟩
  · have e1 : FloatKind.f64.format.order v v = some .eq := e
    have e2 : FloatKind.f64.format.order b b = none := by
      rcases (Fl.ord_none v b).1 ho with g | g
      · rw [e] at g; cases g
      · exact g
    clear e
    go_enter Try.func4, Try.ntmps4
    go_wp2_with (first | (go_at_call 8; refine (bytes8 _ _ _ _ hs0).mono ?_; rintro e w' ⟨rfl, rfl⟩) | (go_at_call 7; refine (zzholds_any _ _ _ _).mono ?_; rintro e w' ⟨rfl, rfl⟩))
    go_ret
    exact ⟨rfl, Grown.refl _⟩

set_option maxRecDepth 100000 in
set_option maxHeartbeats 1000000 in
theorem walk_some (s : ByteArray) (v b r : Nat) (o : Ordering) (hs : s.size ≤ maxLen) (w : World) (h : s.size ≤ 65536) (ho : Fl.ord v b = some o)
    (q1 : (s.toList == [60]) = false) (q2 : (s.toList == [60, 61]) = false) (q3 : (s.toList == [62]) = false) (q4 : (s.toList == [62, 61]) = false) (q5 : (s.toList == [61, 61]) = false)
    (e1 : FloatKind.f64.format.order v v = some .eq) (e2 : FloatKind.f64.format.order b b = some .eq)
    (hsub : ∀ wx, (binOp .sub 22 (.float .f64 v) (.float .f64 b)).run Try.prog wx = .ok (.float .f64 r) wx)
    (e3 : FloatKind.f64.format.order r r = some .eq) (e4 : FloatKind.f64.format.order r 0 = some o) :
    Calls Try.prog 4 #[.string s, .float .f64 v, .float .f64 b] w fun e w' => e = .returned (.bool true) ∧ Grown w w' := by
  have hs0 := hs
  unfold maxLen at hs
  have d1 : decide (s.size ≤ 1048576) = true := by simp; omega
  have h' : Fl.ord b v = some o.swap := by rw [Fl.ord_swap, ho]; rfl
  cases o
  all_goals
    simp only [Ordering.swap] at h'
    go_enter Try.func4, Try.ntmps4
    go_wp2_with (first | (go_at_call 8; refine (bytes8 _ _ _ _ hs0).mono ?_; rintro e w' ⟨rfl, rfl⟩) | (go_at_call 7; refine (zzholds_any _ _ _ _).mono ?_; rintro e w' ⟨rfl, rfl⟩))
    go_ret
    exact ⟨rfl, Grown.refl _⟩

set_option maxRecDepth 100000 in
set_option maxHeartbeats 1000000 in
theorem walk_nan (s : ByteArray) (v b : Nat) (hs : s.size ≤ maxLen) (w : World) (h : s.size ≤ 65536) (ho : Fl.ord v b = some .eq)
    (q1 : (s.toList == [60]) = false) (q2 : (s.toList == [60, 61]) = false) (q3 : (s.toList == [62]) = false) (q4 : (s.toList == [62, 61]) = false) (q5 : (s.toList == [61, 61]) = false)
    (e1 : FloatKind.f64.format.order v v = some .eq) (e2 : FloatKind.f64.format.order b b = some .eq)
    (hsub : ∀ wx, (binOp .sub 22 (.float .f64 v) (.float .f64 b)).run Try.prog wx = .ok (.float .f64 (nanOf wx v b)) wx.drew)
    (e3 : ∀ wx, FloatKind.f64.format.order (nanOf wx v b) (nanOf wx v b) = none) :
    Calls Try.prog 4 #[.string s, .float .f64 v, .float .f64 b] w fun e w' => e = .returned (.bool true) ∧ Grown w w' := by
  have hs0 := hs
  unfold maxLen at hs
  have d1 : decide (s.size ≤ 1048576) = true := by simp; omega
  have h' : Fl.ord b v = some .eq := by rw [Fl.ord_swap, ho]; rfl
  go_enter Try.func4, Try.ntmps4
  go_wp2_with (first | (go_at_call 8; refine (bytes8 _ _ _ _ hs0).mono ?_; rintro e w' ⟨rfl, rfl⟩) | (go_at_call 7; refine (zzholds_any _ _ _ _).mono ?_; rintro e w' ⟨rfl, rfl⟩))
  go_ret
  exact ⟨rfl, by repeat (first | exact Grown.refl _ | apply Grown.drew | apply Grown.alloc)⟩

theorem walk (s : ByteArray) (v b : Nat) (hs : s.size ≤ maxLen) (w : World) :
    Calls Try.prog 4 #[.string s, .float .f64 v, .float .f64 b] w fun e w' => e = .returned (.bool true) ∧ Grown w w' := by
  by_cases h : s.size ≤ 65536
  · by_cases hk : (s.toList == [60]) = true ∨ (s.toList == [60, 61]) = true ∨ (s.toList == [62]) = true ∨ (s.toList == [62, 61]) = true ∨ (s.toList == [61, 61]) = true
    · exact walk_known s v b hs w h hk
    · simp only [not_or, Bool.not_eq_true] at hk
      obtain ⟨q1, q2, q3, q4, q5⟩ := hk
      cases ho : Fl.ord v b with
      | none => exact walk_none s v b hs w h ho q1 q2 q3 q4 q5
      | some o =>
        have e1 : Fl.ord v v = some .eq := by
          rcases Fl.ord_self v with e | e
          · have := (Fl.ord_none v b).2 (Or.inl e); rw [ho] at this; cases this
          · exact e
        have e2 : Fl.ord b b = some .eq := by
          rcases Fl.ord_self b with e | e
          · have := (Fl.ord_none v b).2 (Or.inr e); rw [ho] at this; cases this
          · exact e
        rcases Fl.sub_law v b o ho with ⟨r, hr, e4, e3⟩ | ⟨hr, rfl⟩
        · exact walk_some s v b r o hs w h ho q1 q2 q3 q4 q5 e1 e2 (fun wx => run_sub_some Try.prog wx 22 v b r hr) e3 e4
        · exact walk_nan s v b hs w h ho q1 q2 q3 q4 q5 e1 e2 (fun wx => run_sub_nan Try.prog wx 22 v b hr) (fun wx => nanOf_nan wx v b)
  · exact walk_long s v b hs w h

/-! ### The row's step -/
theorem own : ownKnob Try.prog.godebug = none := by kernel_rfl

set_option maxRecDepth 100000 in
theorem lifted (os : Os) (started : os.Started) (H : Type) (enc : TypeId × Value → H) :
    ReturnsInHanded {} Try.checked os 4 .any (Rows.fnHoldsUnknownOperatorIsNotEqualSpec.pre6 enc Try.prog Try.f4 Rows.fnHoldsUnknownOperatorIsNotEqualRow.domain false) (Rows.fnHoldsUnknownOperatorIsNotEqualSpec.post enc Try.prog Try.f4 false true false false) := by
  refine returnsInHanded_of_change (C := Try.checked) own started (by kernel_rfl) Try.func4
    (ChangeSpec.witness6 (enc := enc) (C := Try.checked) false ⟨#[], #[.string ByteArray.empty, .float .f64 0, .float .f64 0], []⟩ 8 (by kernel_rfl) (by kernel_rfl) (by kernel_rfl) (by kernel_rfl)) ?_
  intro W base args ds gs before hval0 hW hcnd _
  have hval : ∀ (j : Nat) t v, Try.f4.params[j]? = some t → args[j]? = some v → Value.okWide Try.prog W .any base t v := hval0
  have hW' := hW
  obtain ⟨p, q, hA0, hV, rfl, hfz, hnd⟩ := hW
  have hA : DataW.TrodAll enc Try.prog W 0 (fun _ => true) true Try.f4.params.toList args.toList ds p := hA0
  rw [Try.params4] at hA hval
  obtain ⟨v0, vs0, d0, ds0, p0, q0, hargs, rfl, rfl, h0, r0⟩ := trodAll_cons hA
  obtain ⟨v1, vs1, d1, ds1, p1, q1, rfl, rfl, rfl, h1, r1⟩ := trodAll_cons r0
  obtain ⟨v2, vs2, d2, ds2, p2, q2, rfl, rfl, rfl, h2, r2⟩ := trodAll_cons r1
  obtain ⟨rfl, rfl, rfl⟩ := trodAll_nil r2
  obtain rfl : args = #[v0, v1, v2] := by cases args; simp_all
  obtain ⟨rfl, rfl⟩ := trodVars_none hV
  obtain ⟨a0, rfl, rfl, rfl, w0⟩ := open_string Try.underlying9 (hval 0 9 v0 rfl rfl) h0
  obtain ⟨a1, rfl, rfl, rfl, w1⟩ := open_float Try.underlying22 (hval 1 22 v1 rfl rfl) h1
  obtain ⟨a2, rfl, rfl, rfl, w2⟩ := open_float Try.underlying22 (hval 2 22 v2 rfl rfl) h2
  clear hA0 hval0
  simp only [List.append_nil] at hW'
  refine (walk a0 a1 a2 w0 W).mono fun e W' ⟨he, hg⟩ => ?_
  subst he
  exact ⟨_, rfl, post_of_same (pa := []) (pv := []) hW' (fun _ _ _ => (trodAll_cons_mk (shut_bool Try.underlying4 _) trodAll_mk0)) (fun sp _ => (trodAll_cons_mk (shut_string Try.underlying9 w0) (trodAll_cons_mk (shut_float Try.underlying22 w1) (trodAll_cons_mk (shut_float Try.underlying22 w2) trodAll_mk0)))) (fun _ _ => rfl) rfl
    (hg.frame _) hg.2.1 (ok_one (by kernel_rfl) rfl (okWide_bool_mk Try.underlying4 _))⟩

theorem over : Rows.fnHoldsUnknownOperatorIsNotEqualRow.holds Try.pinned (OpenSpec.ofChange Rows.fnHoldsUnknownOperatorIsNotEqualSpec) :=
  OpenClaim.holds_of_wide 4 Try.f4 rfl rfl rfl rfl rfl rfl rfl ⟨rfl, rfl, rfl, rfl, rfl⟩ rfl rfl rfl rfl rfl (by kernel_rfl) Try.func4 (by kernel_rfl)
    (of_decide_eq_true (by kernel_rfl)) (by unfold Func.isWrapper; first | (rw [if_pos (by decide +kernel)]; kernel_rfl) | (rw [if_neg (by decide +kernel)]; exact ⟨rfl, rfl⟩))
    (fun os started H enc _ => lifted os started H enc)
end Go.Proofs.Qxb6619695a.fnHoldsUnknownOperatorIsNotEqual
namespace Go.Proofs.Qxb6619695a
/-- The statement. -/
theorem fnHoldsUnknownOperatorIsNotEqual_holds : Rows.FnHoldsUnknownOperatorIsNotEqualSaid :=
  fnHoldsUnknownOperatorIsNotEqual.over
end Go.Proofs.Qxb6619695a
