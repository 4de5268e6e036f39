/-
  FnOptionalOneNamePutInAnywhere: her walk where a number lies outside its range; the row.
-/
import Derived.Test.Qxb6616934aOneWalk
namespace Go.Proofs.Qxb6616934a.fnOptionalOneNamePutInAnywhere
open Go.ChangeShapes Go.WideShapes Go.ChangeAt Go.RowKit
open Go.ChangeMaps (open_string shut_string)
open Go.Proofs.Qxb6616934a.Bs

set_option maxRecDepth 100000 in
set_option maxHeartbeats 4000000 in
theorem walk_out (a0 : Option Addr) (cap0 : Nat) (hs : List ByteArray) (need : Int) (a2 : Option Addr) (cap2 : Nat) (names : List ByteArray) (p : Int) (extra : ByteArray) (w : World)
    (w0 : IsStrs w.heap.size w a0 hs) (m0 : hs.length ≤ maxLen) (w2 : IsStrs w.heap.size w a2 names) (m2 : names.length ≤ maxLen) (w4 : extra.size ≤ maxLen)
    (bad : 4096 < (hs.length : Int) ∨ 4096 < (names.length : Int) ∨ need < 0 ∨ (hs.length : Int) < need ∨ p < 0 ∨ (names.length : Int) < p) :
    Calls Try.prog 4 #[.slice a0 hs.length cap0, .int .i64 need, .slice a2 names.length cap2, .int .i64 p, .string extra] w fun e w' => e = .returned (.bool true) ∧ Below w.heap.size w w' := by
  go_enter Try.func4, Try.ntmps4
  go_wp2_with fail
  refine (bytes14 _ _ hs _ _ _ names _ extra _ _ w0 m0 _ w2 m2 w4).mono ?_
  rintro e w' ⟨⟨b, rfl⟩, hw⟩
  have hw2 := hw.symm; subst hw2; clear hw
  cases b
  · go_wp2
    go_ret
    exact ⟨rfl, Below.refl _ _⟩
  go_wp2_with fail
  refine (addStrings_any _ _ _ _ hs _ w0 m0 (by omega) (by omega)).mono ?_
  rintro e w' ⟨r1, rfl, hr1, hr1', hw⟩
  have hw2 := hw.symm; subst hw2; clear hw
  by_cases hm1 : 1048576 < r1
  · go_wp2
    go_ret
    exact ⟨rfl, Below.refl _ _⟩
  go_wp2_with fail
  refine (addStrings_any _ _ _ _ names _ w2 m2 (by omega) (by omega)).mono ?_
  rintro e w' ⟨r2, rfl, hr2, hr2', hw⟩
  have hw2 := hw.symm; subst hw2; clear hw
  by_cases hm2 : 1048576 < r2
  · go_wp2
    go_ret
    exact ⟨rfl, Below.refl _ _⟩
  go_wp2_with fail
  refine (addString_any _ extra _ w4 (by omega) (by omega)).mono ?_
  rintro e w' ⟨r3, rfl, hr3, hr3', hw⟩
  have hw2 := hw.symm; subst hw2; clear hw
  by_cases hm3 : 1048576 < r3
  · go_wp2
    go_ret
    exact ⟨rfl, Below.refl _ _⟩
  by_cases c0 : 4096 < (hs.length : Int)
  · clear bad
    go_wp2
    go_ret
    exact ⟨rfl, Below.refl _ _⟩
  by_cases c1 : 4096 < (names.length : Int)
  · clear bad
    go_wp2
    go_ret
    exact ⟨rfl, Below.refl _ _⟩
  by_cases c2 : need < 0
  · clear bad
    go_wp2
    go_ret
    exact ⟨rfl, Below.refl _ _⟩
  by_cases c3 : (hs.length : Int) < need
  · clear bad
    go_wp2
    go_ret
    exact ⟨rfl, Below.refl _ _⟩
  by_cases c4 : p < 0
  · clear bad
    go_wp2
    go_ret
    exact ⟨rfl, Below.refl _ _⟩
  by_cases c5 : (names.length : Int) < p
  · clear bad
    go_wp2
    go_ret
    exact ⟨rfl, Below.refl _ _⟩
  omega

theorem walk (a0 : Option Addr) (cap0 : Nat) (z0 : List ByteArray) (a1 : Int) (a2 : Option Addr) (cap2 : Nat) (z2 : List ByteArray) (a3 : Int) (a4 : ByteArray) (w : World) (w0 : IsStrs w.heap.size w a0 z0) (m0 : z0.length ≤ maxLen) (c0 : z0.length ≤ cap0) (w1 : (Lit.int .i64 a1).wf = true) (w2 : IsStrs w.heap.size w a2 z2) (m2 : z2.length ≤ maxLen) (c2 : z2.length ≤ cap2) (w3 : (Lit.int .i64 a3).wf = true) (w4 : a4.size ≤ maxLen) :
    Calls Try.prog 4 #[.slice a0 z0.length cap0, .int .i64 a1, .slice a2 z2.length cap2, .int .i64 a3, .string a4] w fun e w' => e = .returned (.bool true) ∧ Below w.heap.size w w' := by
  have _u1 := w1
  have _u3 := w3
  have _c0 := c0
  by_cases bad : 4096 < (z0.length : Int) ∨ 4096 < (z2.length : Int) ∨ a1 < 0 ∨ (z0.length : Int) < a1 ∨ a3 < 0 ∨ (z2.length : Int) < a3
  · exact walk_out a0 cap0 z0 a1 a2 cap2 z2 a3 a4 w w0 m0 w2 m2 w4 bad
  · obtain ⟨n1, rfl⟩ : ∃ n : Nat, a1 = n := ⟨a1.toNat, by omega⟩
    obtain ⟨n3, rfl⟩ : ∃ n : Nat, a3 = n := ⟨a3.toNat, by omega⟩
    exact walk_in a0 cap0 z0 n1 a2 cap2 z2 n3 a4 w w0 w2 c2 w4 (by omega) (by omega) (by omega) (by omega)

/-! ### The row's step -/
set_option maxRecDepth 100000 in
theorem lifted (os : Os) (started : os.Started) (H : Type) (enc : TypeId × Value → H) :
    ReturnsInHanded {} Try.checked os 4 .any (Rows.fnOptionalOneNamePutInAnywhereSpec.pre6 enc Try.prog Try.f4 Rows.fnOptionalOneNamePutInAnywhereRow.domain false) (Rows.fnOptionalOneNamePutInAnywhereSpec.post enc Try.prog Try.f4 false true false false) := by
  refine returnsInHanded_of_change (C := Try.checked) own started (by kernel_rfl) Try.func4
    (ChangeSpec.witness6 (enc := enc) (C := Try.checked) false ⟨#[], #[.slice none 0 0, .int .i64 0, .slice none 0 0, .int .i64 0, .string ByteArray.empty], []⟩ 8 (by kernel_rfl) (by kernel_rfl) (by kernel_rfl) (by kernel_rfl)) ?_
  intro W base args ds gs before hval0 hW hcnd _
  have hval : ∀ (j : Nat) t v, Try.f4.params[j]? = some t → args[j]? = some v → Value.okWide Try.prog W .any base t v := hval0
  have hW' := hW
  obtain ⟨p, q, hA0, hV, rfl, hfz, hnd⟩ := hW
  have hA : DataW.TrodAll enc Try.prog W 0 (fun _ => true) true Try.f4.params.toList args.toList ds p := hA0
  rw [Try.params4] at hA hval
  obtain ⟨v0, vs0, d0, ds0, p0, q0, hargs, rfl, rfl, h0, r0⟩ := trodAll_cons hA
  obtain ⟨v1, vs1, d1, ds1, p1, q1, rfl, rfl, rfl, h1, r1⟩ := trodAll_cons r0
  obtain ⟨v2, vs2, d2, ds2, p2, q2, rfl, rfl, rfl, h2, r2⟩ := trodAll_cons r1
  obtain ⟨v3, vs3, d3, ds3, p3, q3, rfl, rfl, rfl, h3, r3⟩ := trodAll_cons r2
  obtain ⟨v4, vs4, d4, ds4, p4, q4, rfl, rfl, rfl, h4, r4⟩ := trodAll_cons r3
  obtain ⟨rfl, rfl, rfl⟩ := trodAll_nil r4
  obtain rfl : args = #[v0, v1, v2, v3, v4] := by cases args; simp_all
  obtain ⟨rfl, rfl⟩ := trodVars_none hV
  obtain ⟨a0, len0, cap0, rfl⟩ := okWide_slice Try.underlying22 (hval 0 22 v0 rfl rfl)
  have lt0 : ∀ x ∈ p0, x.block < W.heap.size := by obtain ⟨m, hm⟩ := h0; exact DataW.trod_lt m _ _ _ hm
  have c0 := (open_cap22 h0).1
  obtain ⟨z0, e0, m0, w0⟩ := open_strs22 h0
  subst e0
  obtain ⟨a1, rfl, rfl, rfl, w1⟩ := open_int Try.underlying3 (hval 1 3 v1 rfl rfl) h1
  obtain ⟨a2, len2, cap2, rfl⟩ := okWide_slice Try.underlying22 (hval 2 22 v2 rfl rfl)
  have lt2 : ∀ x ∈ p2, x.block < W.heap.size := by obtain ⟨m, hm⟩ := h2; exact DataW.trod_lt m _ _ _ hm
  have c2 := (open_cap22 h2).1
  obtain ⟨z2, e2, m2, w2⟩ := open_strs22 h2
  subst e2
  obtain ⟨a3, rfl, rfl, rfl, w3⟩ := open_int Try.underlying3 (hval 3 3 v3 rfl rfl) h3
  obtain ⟨a4, rfl, rfl, rfl, w4⟩ := open_string Try.underlying9 (hval 4 9 v4 rfl rfl) h4
  clear hA0 hval0
  refine (walk a0 cap0 z0 a1 a2 cap2 z2 a3 a4 W w0 m0 c0 w1 w2 m2 c2 w3 w4).mono fun e W' ⟨he, bel⟩ => ?_
  subst he
  exact ⟨_, rfl, _, _, _, [], _, [], hW', trodAll_mk1 (shut_bool Try.underlying4 _), (trodAll_cons_mk (Below.trod laidOut (by kernel_rfl) (of_decide_eq_true (by kernel_rfl)) h0 bel lt0) (trodAll_cons_mk (shut_int Try.underlying3 w1) (trodAll_cons_mk (Below.trod laidOut (by kernel_rfl) (of_decide_eq_true (by kernel_rfl)) h2 bel lt2) (trodAll_cons_mk (shut_int Try.underlying3 w3) (trodAll_cons_mk (shut_string Try.underlying9 w4) trodAll_mk0))))), rfl, bel.frame _, fun h => by cases h⟩

theorem over : Rows.fnOptionalOneNamePutInAnywhereRow.holds Try.pinned (OpenSpec.ofChange Rows.fnOptionalOneNamePutInAnywhereSpec) :=
  OpenClaim.holds_of_wide 4 Try.f4 rfl rfl rfl rfl rfl rfl rfl ⟨rfl, rfl, rfl, rfl, rfl⟩ rfl rfl rfl rfl rfl (by kernel_rfl) Try.func4 (by kernel_rfl)
    (of_decide_eq_true (by kernel_rfl)) (by unfold Func.isWrapper; first | (rw [if_pos (by decide +kernel)]; kernel_rfl) | (rw [if_neg (by decide +kernel)]; exact ⟨rfl, rfl⟩))
    (fun os started H enc _ => lifted os started H enc)
end Go.Proofs.Qxb6616934a.fnOptionalOneNamePutInAnywhere
namespace Go.Proofs.Qxb6616934a
/-- The statement. -/
theorem fnOptionalOneNamePutInAnywhere_holds : Rows.FnOptionalOneNamePutInAnywhereSaid :=
  fnOptionalOneNamePutInAnywhere.over
end Go.Proofs.Qxb6616934a
