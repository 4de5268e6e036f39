/-
  FnHoldsOrdersByTheDifference: her walk, and the row.
-/
import Derived.Test.Qxb6619695aSub
import Derived.ProofKit
import Derived.OpenShut
import Derived.ShutString
namespace Go.Proofs.Qxb6619695a.fnHoldsOrdersByTheDifference
open Go.ChangeShapes Go.WideShapes Go.ChangeAt Go.RowKit
open Go.Proofs.Qxb6619695a.Hd

theorem own : ownKnob Try.prog.godebug = none := by kernel_rfl

attribute [local go_sem] holdsB

set_option maxRecDepth 100000 in
set_option maxHeartbeats 1000000 in
theorem walk_none (v b : Nat) (w : World) (h : Fl.ord v b = none) :
    Calls Try.prog 3 #[.float .f64 v, .float .f64 b] w fun e w' => e = .returned (.bool true) ∧ Grown w w' := by
  have h' : Fl.ord b v = none := by rw [Fl.ord_swap, h]; rfl
  rcases Fl.ord_self v with e | e
  · have e1 : FloatKind.f64.format.order v v = none := e
    clear e
    go_enter Try.func3, Try.ntmps3
    go_wp2_with (go_at_call 7; refine (zzholds_any _ _ _ _).mono ?_; rintro e w' ⟨rfl, rfl⟩)
    go_ret
    exact ⟨rfl, Grown.refl _⟩
  · have e1 : FloatKind.f64.format.order v v = some .eq := e
    have e2 : FloatKind.f64.format.order b b = none := by
      rcases (Fl.ord_none v b).1 h with g | g
      · rw [e] at g; cases g
      · exact g
    clear e
    go_enter Try.func3, Try.ntmps3
    go_wp2_with (go_at_call 7; refine (zzholds_any _ _ _ _).mono ?_; rintro e w' ⟨rfl, rfl⟩)
    go_ret
    exact ⟨rfl, Grown.refl _⟩

set_option maxRecDepth 100000 in
set_option maxHeartbeats 1000000 in
theorem walk_some (v b r : Nat) (o : Ordering) (w : World) (h : Fl.ord v b = some o) (e1 : FloatKind.f64.format.order v v = some .eq) (e2 : FloatKind.f64.format.order b b = some .eq)
    (hs : ∀ wx, (binOp .sub 22 (.float .f64 v) (.float .f64 b)).run Try.prog wx = .ok (.float .f64 r) wx)
    (e3 : FloatKind.f64.format.order r r = some .eq) (e4 : FloatKind.f64.format.order r 0 = some o) :
    Calls Try.prog 3 #[.float .f64 v, .float .f64 b] w fun e w' => e = .returned (.bool true) ∧ Grown w w' := by
  have h' : Fl.ord b v = some o.swap := by rw [Fl.ord_swap, h]; rfl
  cases o
  all_goals
    simp only [Ordering.swap] at h'
    go_enter Try.func3, Try.ntmps3
    go_wp2_with (go_at_call 7; refine (zzholds_any _ _ _ _).mono ?_; rintro e w' ⟨rfl, rfl⟩)
    go_ret
    exact ⟨rfl, Grown.refl _⟩

set_option maxRecDepth 100000 in
set_option maxHeartbeats 1000000 in
theorem walk_nan (v b : Nat) (w : World) (h : Fl.ord v b = some .eq) (e1 : FloatKind.f64.format.order v v = some .eq) (e2 : FloatKind.f64.format.order b b = some .eq)
    (hs : ∀ wx, (binOp .sub 22 (.float .f64 v) (.float .f64 b)).run Try.prog wx = .ok (.float .f64 (nanOf wx v b)) wx.drew)
    (e3 : ∀ wx, FloatKind.f64.format.order (nanOf wx v b) (nanOf wx v b) = none) :
    Calls Try.prog 3 #[.float .f64 v, .float .f64 b] w fun e w' => e = .returned (.bool true) ∧ Grown w w' := by
  have h' : Fl.ord b v = some .eq := by rw [Fl.ord_swap, h]; rfl
  go_enter Try.func3, Try.ntmps3
  go_wp2_with (go_at_call 7; refine (zzholds_any _ _ _ _).mono ?_; rintro e w' ⟨rfl, rfl⟩)
  go_ret
  exact ⟨rfl, by repeat (first | exact Grown.refl _ | apply Grown.drew | apply Grown.alloc)⟩

theorem walk (v b : Nat) (w : World) :
    Calls Try.prog 3 #[.float .f64 v, .float .f64 b] w fun e w' => e = .returned (.bool true) ∧ Grown w w' := by
  cases h : Fl.ord v b with
  | none => exact walk_none v b w h
  | some o =>
    have e1 : Fl.ord v v = some .eq := by
      rcases Fl.ord_self v with e | e
      · have := (Fl.ord_none v b).2 (Or.inl e); rw [h] at this; cases this
      · exact e
    have e2 : Fl.ord b b = some .eq := by
      rcases Fl.ord_self b with e | e
      · have := (Fl.ord_none v b).2 (Or.inr e); rw [h] at this; cases this
      · exact e
    rcases Fl.sub_law v b o h with ⟨r, hr, e4, e3⟩ | ⟨hr, rfl⟩
    · exact walk_some v b r o w h e1 e2 (fun wx => run_sub_some Try.prog wx 22 v b r hr) e3 e4
    · exact walk_nan v b w h e1 e2 (fun wx => run_sub_nan Try.prog wx 22 v b hr) (fun wx => nanOf_nan wx v b)

/-! ### The row's step -/
set_option maxRecDepth 100000 in
theorem lifted (os : Os) (started : os.Started) (H : Type) (enc : TypeId × Value → H) :
    ReturnsInHanded {} Try.checked os 3 .any (Rows.fnHoldsOrdersByTheDifferenceSpec.pre6 enc Try.prog Try.f3 Rows.fnHoldsOrdersByTheDifferenceRow.domain false) (Rows.fnHoldsOrdersByTheDifferenceSpec.post enc Try.prog Try.f3 false true false false) := by
  refine returnsInHanded_of_change (C := Try.checked) own started (by kernel_rfl) Try.func3
    (ChangeSpec.witness6 (enc := enc) (C := Try.checked) false ⟨#[], #[.float .f64 0, .float .f64 0], []⟩ 8 (by kernel_rfl) (by kernel_rfl) (by kernel_rfl) (by kernel_rfl)) ?_
  intro W base args ds gs before hval0 hW hcnd _
  have hval : ∀ (j : Nat) t v, Try.f3.params[j]? = some t → args[j]? = some v → Value.okWide Try.prog W .any base t v := hval0
  have hW' := hW
  obtain ⟨p, q, hA0, hV, rfl, hfz, hnd⟩ := hW
  have hA : DataW.TrodAll enc Try.prog W 0 (fun _ => true) true Try.f3.params.toList args.toList ds p := hA0
  rw [Try.params3] at hA hval
  obtain ⟨v0, vs0, d0, ds0, p0, q0, hargs, rfl, rfl, h0, r0⟩ := trodAll_cons hA
  obtain ⟨v1, vs1, d1, ds1, p1, q1, rfl, rfl, rfl, h1, r1⟩ := trodAll_cons r0
  obtain ⟨rfl, rfl, rfl⟩ := trodAll_nil r1
  obtain rfl : args = #[v0, v1] := by cases args; simp_all
  obtain ⟨rfl, rfl⟩ := trodVars_none hV
  obtain ⟨a0, rfl, rfl, rfl, w0⟩ := open_float Try.underlying22 (hval 0 22 v0 rfl rfl) h0
  obtain ⟨a1, rfl, rfl, rfl, w1⟩ := open_float Try.underlying22 (hval 1 22 v1 rfl rfl) h1
  clear hA0 hval0
  simp only [List.append_nil] at hW'
  refine (walk a0 a1 W).mono fun e W' ⟨he, hg⟩ => ?_
  subst he
  exact ⟨_, rfl, post_of_same (pa := []) (pv := []) hW' (fun _ _ _ => (trodAll_cons_mk (shut_bool Try.underlying4 _) trodAll_mk0)) (fun sp _ => (trodAll_cons_mk (shut_float Try.underlying22 w0) (trodAll_cons_mk (shut_float Try.underlying22 w1) trodAll_mk0))) (fun _ _ => rfl) rfl
    (hg.frame _) hg.2.1 (ok_one (by kernel_rfl) rfl (okWide_bool_mk Try.underlying4 _))⟩

theorem over : Rows.fnHoldsOrdersByTheDifferenceRow.holds Try.pinned (OpenSpec.ofChange Rows.fnHoldsOrdersByTheDifferenceSpec) :=
  OpenClaim.holds_of_wide 3 Try.f3 rfl rfl rfl rfl rfl rfl rfl ⟨rfl, rfl, rfl, rfl, rfl⟩ rfl rfl rfl rfl rfl (by kernel_rfl) Try.func3 (by kernel_rfl)
    (of_decide_eq_true (by kernel_rfl)) (by unfold Func.isWrapper; first | (rw [if_pos (by decide +kernel)]; kernel_rfl) | (rw [if_neg (by decide +kernel)]; exact ⟨rfl, rfl⟩))
    (fun os started H enc _ => lifted os started H enc)

end Go.Proofs.Qxb6619695a.fnHoldsOrdersByTheDifference
namespace Go.Proofs.Qxb6619695a
/-- The statement. -/
theorem fnHoldsOrdersByTheDifference_holds : Rows.FnHoldsOrdersByTheDifferenceSaid :=
  fnHoldsOrdersByTheDifference.over
end Go.Proofs.Qxb6619695a
