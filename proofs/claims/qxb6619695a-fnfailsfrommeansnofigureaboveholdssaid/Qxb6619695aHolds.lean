/-
  The contracts of 'holds', 'failsFrom', 'ZZHolds', 'ZZFailsFrom' and of the two bounds on lengths.
-/
import Derived.Test.Qxb6619695aRows
import Derived.Test.Qxb6619695aFloats
import Derived.WalkKit
import Derived.WalkLawsBesides
import Derived.Laws.FloatArith
namespace Go.Proofs.Qxb6619695a.Hd
open Go.RowKit

/-- What 'holds' answers, of the operator's bytes and of how the two figures stand. -/
def holdsB (o : List UInt8) (c : Option Ordering) : Bool :=
  if o == [60] then c == some .lt
  else if o == [60, 61] then c == some .lt || c == some .eq
  else if o == [62] then c == some .gt
  else if o == [62, 61] then c == some .gt || c == some .eq
  else if o == [61, 61] then c == some .eq
  else c != some .eq

/-- What 'failsFrom' answers. -/
def failsB (o : List UInt8) (c : Option Ordering) : Bool :=
  if o == [60] || o == [60, 61] then !holdsB o c
  else if o == [61, 61] then c == some .gt
  else false

theorem ret_bool {a b : Bool} (h : a = b) : Ending.returned (.bool a) = .returned (.bool b) := by rw [h]

set_option maxHeartbeats 400000 in
theorem holds_any (o : ByteArray) (v b : Nat) (w : World) :
    Calls Try.prog 14 #[.string o, .float .f64 v, .float .f64 b] w fun e w' => e = .returned (.bool (holdsB o.toList (Fl.ord v b))) ∧ w' = w := by
  go_enter Try.func14, Try.ntmps14
  go_wp2
  all_goals
    go_ret
    refine ⟨ret_bool ?_, rfl⟩
    show _ = holdsB o.toList (FloatKind.f64.format.order v b)
    simp [holdsB, *]

set_option maxHeartbeats 400000 in
theorem fails_any (o : ByteArray) (v b : Nat) (w : World) :
    Calls Try.prog 15 #[.string o, .float .f64 v, .float .f64 b] w fun e w' => e = .returned (.bool (failsB o.toList (Fl.ord v b))) ∧ w' = w := by
  go_enter Try.func15, Try.ntmps15
  go_wp2_with (go_at_call 14; refine (holds_any _ _ _ _).mono ?_; rintro e w' ⟨rfl, rfl⟩)
  all_goals
    go_ret
    refine ⟨ret_bool ?_, rfl⟩
    show _ = failsB o.toList (FloatKind.f64.format.order v b)
    first
      | (exfalso; simp_all; done)
      | (simp [failsB, *]; done)
      | (simp [failsB, *]; rfl)

set_option maxHeartbeats 400000 in
theorem zzholds_any (o : ByteArray) (v b : Nat) (w : World) :
    Calls Try.prog 7 #[.string o, .float .f64 v, .float .f64 b] w fun e w' => e = .returned (.bool (holdsB o.toList (Fl.ord v b))) ∧ w' = w := by
  go_enter Try.func7, Try.ntmps7
  go_wp2_with (go_at_call 14; refine (holds_any _ _ _ _).mono ?_; rintro e w' ⟨rfl, rfl⟩)
  go_ret
  exact ⟨rfl, rfl⟩

set_option maxHeartbeats 400000 in
theorem zzfails_any (o : ByteArray) (v b : Nat) (w : World) :
    Calls Try.prog 10 #[.string o, .float .f64 v, .float .f64 b] w fun e w' => e = .returned (.bool (failsB o.toList (Fl.ord v b))) ∧ w' = w := by
  go_enter Try.func10, Try.ntmps10
  go_wp2_with (go_at_call 15; refine (fails_any _ _ _ _).mono ?_; rintro e w' ⟨rfl, rfl⟩)
  go_ret
  exact ⟨rfl, rfl⟩

set_option maxHeartbeats 400000 in
theorem bytes8 (o : ByteArray) (v b : Nat) (w : World) (ho : o.size ≤ maxLen) :
    Calls Try.prog 8 #[.string o, .float .f64 v, .float .f64 b] w fun e w' => e = .returned (.bool (decide (o.size ≤ 1048576))) ∧ w' = w := by
  unfold maxLen at ho
  by_cases h : o.size ≤ 1048576
  all_goals
    go_enter Try.func8, Try.ntmps8
    go_wp2
    go_ret
    exact ⟨ret_bool (by simp [h]), rfl⟩

set_option maxHeartbeats 400000 in
theorem bytes9 (o : ByteArray) (v b c : Nat) (w : World) (ho : o.size ≤ maxLen) :
    Calls Try.prog 9 #[.string o, .float .f64 v, .float .f64 b, .float .f64 c] w fun e w' => e = .returned (.bool (decide (o.size ≤ 1048576))) ∧ w' = w := by
  unfold maxLen at ho
  by_cases h : o.size ≤ 1048576
  all_goals
    go_enter Try.func9, Try.ntmps9
    go_wp2
    go_ret
    exact ⟨ret_bool (by simp [h]), rfl⟩

end Go.Proofs.Qxb6619695a.Hd
