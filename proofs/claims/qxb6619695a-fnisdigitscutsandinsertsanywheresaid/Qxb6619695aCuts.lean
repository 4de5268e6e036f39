/-
  FnIsDigitsCutsAndInsertsAnywhere: the plain law, the walk, and the row.
-/
import Derived.Test.Qxb6619695aCutsB
import Derived.Test.Qxb6619695aCutsC
import Derived.ProofKit
import Derived.OpenShut
import Derived.ShutString
namespace Go.Proofs.Qxb6619695a.fnIsDigitsCutsAndInsertsAnywhere
open Go.ChangeShapes Go.WideShapes Go.ChangeAt Go.RowKit
open Go.ChangeMaps (open_string shut_string)
open Go.Proofs.Qxb6619695a.Dg

/-! ### The plain law -/
theorem data_left (s : ByteArray) (k : Nat) : (s.extract 0 k).data.toList = s.data.toList.take k := by
  simp [ByteArray.data_extract]

theorem data_right (s : ByteArray) (k : Nat) : (s.extract k s.size).data.toList = s.data.toList.drop k := by
  have : s.data.toList.length = s.size := by simp
  simp [ByteArray.data_extract, List.take_of_length_le]

theorem cut_law (l : List UInt8) (k : Nat) : digB l = (!l.isEmpty && (((l.take k).isEmpty || digB (l.take k)) && ((l.drop k).isEmpty || digB (l.drop k)))) := by
  have e : l.all digC = ((l.take k).all digC && (l.drop k).all digC) := by
    rw [← List.all_append, List.take_append_drop]
  have h : ∀ m : List UInt8, (m.isEmpty || digB m) = m.all digC := by
    intro m; cases m <;> simp [digB]
  rw [h, h, ← e]
  rfl

theorem put_law (l m : List UInt8) (k : Nat) (hm : m ≠ []) : digB (l.take k ++ m ++ l.drop k) = (digB m && (l.isEmpty || digB l)) := by
  have e : l.all digC = ((l.take k).all digC && (l.drop k).all digC) := by
    rw [← List.all_append, List.take_append_drop]
  have h : (l.isEmpty || digB l) = l.all digC := by cases l <;> simp [digB]
  have hm' : m.isEmpty = false := by simpa using hm
  have hne : (l.take k ++ m ++ l.drop k).isEmpty = false := by
    cases hx : (l.take k ++ m ++ l.drop k).isEmpty
    · rfl
    · rw [List.isEmpty_iff] at hx; simp at hx; exact absurd hx.2.1 hm
  rw [h, e]
  simp only [digB, List.all_append, hne, hm', Bool.not_false, Bool.true_and]
  cases (l.take k).all digC <;> cases m.all digC <;> cases (l.drop k).all digC <;> rfl

theorem digA_cut (s : ByteArray) (k : Nat) : digA s = (!s.toList.isEmpty && (((s.extract 0 k).toList.isEmpty || digA (s.extract 0 k)) && ((s.extract k s.size).toList.isEmpty || digA (s.extract k s.size)))) := by
  rw [ByteArray.toList_eq, ByteArray.toList_eq, ByteArray.toList_eq]
  unfold digA
  rw [data_left, data_right]
  exact cut_law _ _

theorem digA_put (s t : ByteArray) (k : Nat) (ht : t.data.toList ≠ []) : digA (s.extract 0 k ++ t ++ s.extract k s.size) = (digA t && (s.toList.isEmpty || digA s)) := by
  have e : (s.extract 0 k ++ t ++ s.extract k s.size).data.toList = s.data.toList.take k ++ t.data.toList ++ s.data.toList.drop k := by
    rw [ByteArray.data_append, ByteArray.data_append, Array.toList_append, Array.toList_append, data_left, data_right]
  rw [ByteArray.toList_eq]
  unfold digA
  rw [e]
  exact put_law _ _ _ ht

theorem digA_one (b : UInt8) : digA { data := #[b] } = digC b := by simp [digA, digB]

/-! ### The walk -/
set_option maxRecDepth 100000 in
set_option maxHeartbeats 1000000 in
theorem walk_long (s : ByteArray) (i c n : Int) (hs : s.size ≤ maxLen) (w : World) (h : ¬ s.size ≤ 65536) :
    Calls Try.prog 6 #[.string s, .int .i64 i, .int .u8 c, .int .u64 n] w fun e w' => e = .returned (.bool true) ∧ Grown w w' := by
  have hs0 := hs
  unfold maxLen at hs
  by_cases h1 : s.size ≤ 1048576
  · have d1 : decide (s.size ≤ 1048576) = true := by simpa using h1
    go_enter Try.func6, Try.ntmps6
    go_wp2_with (go_at_call 11; refine (bytes11 _ _ _ _ _ hs0).mono ?_; rintro e w' ⟨rfl, rfl⟩)
    go_ret
    exact ⟨rfl, Grown.refl _⟩
  · have d1 : decide (s.size ≤ 1048576) = false := by simpa using h1
    go_enter Try.func6, Try.ntmps6
    go_wp2_with (go_at_call 11; refine (bytes11 _ _ _ _ _ hs0).mono ?_; rintro e w' ⟨rfl, rfl⟩)
    go_ret
    exact ⟨rfl, Grown.refl _⟩

set_option maxRecDepth 100000 in
set_option maxHeartbeats 1000000 in
theorem walk_out (s : ByteArray) (i c n : Int) (hs : s.size ≤ 65536) (w : World) (h : i < 0 ∨ (s.size : Int) < i) :
    Calls Try.prog 6 #[.string s, .int .i64 i, .int .u8 c, .int .u64 n] w fun e w' => e = .returned (.bool true) ∧ Grown w w' := by
  have hs0 : s.size ≤ maxLen := by unfold maxLen; omega
  have d1 : decide (s.size ≤ 1048576) = true := by simp; omega
  rcases h with h | h
  · go_enter Try.func6, Try.ntmps6
    go_wp2_with (go_at_call 11; refine (bytes11 _ _ _ _ _ hs0).mono ?_; rintro e w' ⟨rfl, rfl⟩)
    go_ret
    exact ⟨rfl, Grown.refl _⟩
  · have h' : ¬ i < 0 := by omega
    go_enter Try.func6, Try.ntmps6
    go_wp2_with (go_at_call 11; refine (bytes11 _ _ _ _ _ hs0).mono ?_; rintro e w' ⟨rfl, rfl⟩)
    go_ret
    exact ⟨rfl, Grown.refl _⟩

theorem walk (s : ByteArray) (i c n : Int) (hs : s.size ≤ maxLen) (w1 : (Lit.int .i64 i).wf = true) (w2 : (Lit.int .u8 c).wf = true) (w3 : (Lit.int .u64 n).wf = true) (w : World) :
    Calls Try.prog 6 #[.string s, .int .i64 i, .int .u8 c, .int .u64 n] w fun e w' => e = .returned (.bool true) ∧ Grown w w' := by
  have _h1 := w1
  by_cases h : s.size ≤ 65536
  · by_cases hi : i < 0 ∨ (s.size : Int) < i
    · exact walk_out s i c n h w hi
    · have hcb := bounds_u8 w2
      have hnb := bounds_u64 w3
      obtain ⟨k, rfl⟩ : ∃ k : Nat, i = k := ⟨i.toNat, by omega⟩
      obtain ⟨b, rfl⟩ : ∃ b : UInt8, c = (b.toNat : Int) := ⟨UInt8.ofNat c.toNat, by rw [UInt8.toNat_ofNat']; omega⟩
      have hk : k ≤ s.size := by omega
      have hT : ∀ t : ByteArray, digA t = true → t.size ≤ 20 → digA (s.extract 0 k ++ t ++ s.extract k s.size) = (s.toList.isEmpty || digA s) := by
        intro t ht _
        rw [digA_put s t k (by intro e; simp [digA, digB, e] at ht), ht, Bool.true_and]
      have hC := digA_put s { data := #[b] } k (by simp)
      rw [digA_one] at hC
      have hp := digA_cut s k
      by_cases hb1 : b.toNat < 48
      · rw [dig_not b (Or.inl hb1), Bool.false_and] at hC
        exact walk_below s k b n h hk hnb.1 hnb.2 w _ _ _ _ _ _ rfl rfl rfl rfl rfl rfl hp hb1 hC hT
      · by_cases hb2 : 57 < b.toNat
        · rw [dig_not b (Or.inr hb2), Bool.false_and] at hC
          exact walk_above s k b n h hk hnb.1 hnb.2 w _ _ _ _ _ _ rfl rfl rfl rfl rfl rfl hp hb2 hC hT
        · rw [dig_of b (by omega) (by omega), Bool.true_and] at hC
          exact walk_in s k b n h hk hnb.1 hnb.2 w _ _ _ _ _ _ rfl rfl rfl rfl rfl rfl hp ⟨by omega, by omega⟩ hC hT
  · exact walk_long s i c n hs w h

/-! ### The row's step -/
theorem own : ownKnob Try.prog.godebug = none := by kernel_rfl

set_option maxRecDepth 100000 in
theorem lifted (os : Os) (started : os.Started) (H : Type) (enc : TypeId × Value → H) :
    ReturnsInHanded {} Try.checked os 6 .any (Rows.fnIsDigitsCutsAndInsertsAnywhereSpec.pre6 enc Try.prog Try.f6 Rows.fnIsDigitsCutsAndInsertsAnywhereRow.domain false) (Rows.fnIsDigitsCutsAndInsertsAnywhereSpec.post enc Try.prog Try.f6 false true false false) := by
  refine returnsInHanded_of_change (C := Try.checked) own started (by kernel_rfl) Try.func6
    (ChangeSpec.witness6 (enc := enc) (C := Try.checked) false ⟨#[], #[.string ByteArray.empty, .int .i64 0, .int .u8 0, .int .u64 0], []⟩ 8 (by kernel_rfl) (by kernel_rfl) (by kernel_rfl) (by kernel_rfl)) ?_
  intro W base args ds gs before hval0 hW hcnd _
  have hval : ∀ (j : Nat) t v, Try.f6.params[j]? = some t → args[j]? = some v → Value.okWide Try.prog W .any base t v := hval0
  have hW' := hW
  obtain ⟨p, q, hA0, hV, rfl, hfz, hnd⟩ := hW
  have hA : DataW.TrodAll enc Try.prog W 0 (fun _ => true) true Try.f6.params.toList args.toList ds p := hA0
  rw [Try.params6] at hA hval
  obtain ⟨v0, vs0, d0, ds0, p0, q0, hargs, rfl, rfl, h0, r0⟩ := trodAll_cons hA
  obtain ⟨v1, vs1, d1, ds1, p1, q1, rfl, rfl, rfl, h1, r1⟩ := trodAll_cons r0
  obtain ⟨v2, vs2, d2, ds2, p2, q2, rfl, rfl, rfl, h2, r2⟩ := trodAll_cons r1
  obtain ⟨v3, vs3, d3, ds3, p3, q3, rfl, rfl, rfl, h3, r3⟩ := trodAll_cons r2
  obtain ⟨rfl, rfl, rfl⟩ := trodAll_nil r3
  obtain rfl : args = #[v0, v1, v2, v3] := by cases args; simp_all
  obtain ⟨rfl, rfl⟩ := trodVars_none hV
  obtain ⟨a0, rfl, rfl, rfl, w0⟩ := open_string Try.underlying9 (hval 0 9 v0 rfl rfl) h0
  obtain ⟨a1, rfl, rfl, rfl, w1⟩ := open_int Try.underlying3 (hval 1 3 v1 rfl rfl) h1
  obtain ⟨a2, rfl, rfl, rfl, w2⟩ := open_int Try.underlying5 (hval 2 5 v2 rfl rfl) h2
  obtain ⟨a3, rfl, rfl, rfl, w3⟩ := open_int Try.underlying26 (hval 3 26 v3 rfl rfl) h3
  clear hA0 hval0
  simp only [List.append_nil] at hW'
  refine (walk a0 a1 a2 a3 w0 w1 w2 w3 W).mono fun e W' ⟨he, hg⟩ => ?_
  subst he
  exact ⟨_, rfl, post_of_same (pa := []) (pv := []) hW' (fun _ _ _ => (trodAll_cons_mk (shut_bool Try.underlying4 _) trodAll_mk0)) (fun sp _ => (trodAll_cons_mk (shut_string Try.underlying9 w0) (trodAll_cons_mk (shut_int Try.underlying3 w1) (trodAll_cons_mk (shut_int Try.underlying5 w2) (trodAll_cons_mk (shut_int Try.underlying26 w3) trodAll_mk0))))) (fun _ _ => rfl) rfl
    (hg.frame _) hg.2.1 (ok_one (by kernel_rfl) rfl (okWide_bool_mk Try.underlying4 _))⟩

theorem over : Rows.fnIsDigitsCutsAndInsertsAnywhereRow.holds Try.pinned (OpenSpec.ofChange Rows.fnIsDigitsCutsAndInsertsAnywhereSpec) :=
  OpenClaim.holds_of_wide 6 Try.f6 rfl rfl rfl rfl rfl rfl rfl ⟨rfl, rfl, rfl, rfl, rfl⟩ rfl rfl rfl rfl rfl (by kernel_rfl) Try.func6 (by kernel_rfl)
    (of_decide_eq_true (by kernel_rfl)) (by unfold Func.isWrapper; first | (rw [if_pos (by decide +kernel)]; kernel_rfl) | (rw [if_neg (by decide +kernel)]; exact ⟨rfl, rfl⟩))
    (fun os started H enc _ => lifted os started H enc)
end Go.Proofs.Qxb6619695a.fnIsDigitsCutsAndInsertsAnywhere
namespace Go.Proofs.Qxb6619695a
/-- The statement. -/
theorem fnIsDigitsCutsAndInsertsAnywhere_holds : Rows.FnIsDigitsCutsAndInsertsAnywhereSaid :=
  fnIsDigitsCutsAndInsertsAnywhere.over
end Go.Proofs.Qxb6619695a
