/-
  The difference of two doubles as the walk takes it: the answer of an operation that has no answer is a NaN, whichever the tape names.
-/
import Derived.Test.Qxb6619695aHolds
namespace Go.Proofs.Qxb6619695a.Hd
open Go.RowKit

/-- The bits that the tape names for an operation without an answer. -/
def nanOf (w : World) (x y : Nat) : Nat := Question.cut (.nanBits .f64 x y) (w.tape w.drawn (.nanBits .f64 x y))

theorem nanOf_nan (w : World) (x y : Nat) : FloatKind.f64.format.order (nanOf w x y) (nanOf w x y) = none := by
  unfold nanOf
  generalize w.tape w.drawn (.nanBits .f64 x y) = t
  show Ieee.double.order (t % 2 * 2 ^ 63 + 0x7ff0000000000000 + 1 + t / 2 % (2 ^ 52 - 1)) _ = none
  have hread : ∃ s m, Ieee.double.read (t % 2 * 2 ^ 63 + 0x7ff0000000000000 + 1 + t / 2 % (2 ^ 52 - 1)) = .nan s m := by
    have hr : t / 2 % (2 ^ 52 - 1) < 2 ^ 52 - 1 := Nat.mod_lt _ (by decide)
    have h2 : t % 2 < 2 := Nat.mod_lt _ (by decide)
    generalize t / 2 % (2 ^ 52 - 1) = r at hr
    generalize t % 2 = b at h2
    have e : (b * 2 ^ 63 + 0x7ff0000000000000 + 1 + r) % Ieee.double.signWeight = 0x7ff0000000000000 + 1 + r := by
      show (b * 2 ^ 63 + 0x7ff0000000000000 + 1 + r) % 2 ^ 63 = _
      omega
    have ei : Ieee.double.infRung = 0x7ff0000000000000 := by decide
    have eb : Ieee.double.binade = 2 ^ 52 := by decide
    refine ⟨(b * 2 ^ 63 + 0x7ff0000000000000 + 1 + r) / Ieee.double.signWeight % 2 == 1, r + 1, ?_⟩
    unfold Ieee.Format.read
    dsimp only
    rw [e, ei, eb, if_neg (by omega), if_neg (by omega), if_neg (by omega)]
    rw [show 0x7ff0000000000000 + 1 + r - 0x7ff0000000000000 = r + 1 from by omega]
  obtain ⟨s, m, hm⟩ := hread
  unfold Ieee.Format.order
  rw [hm]; rfl

theorem run_sub_nan (P : Program) (w : World) (t : TypeId) (x y : Nat) (h : Ieee.double.sub x y = none) :
    (binOp .sub t (.float .f64 x) (.float .f64 y)).run P w = .ok (.float .f64 (nanOf w x y)) w.drew := by
  have h' : FloatKind.f64.format.sub x y = none := h
  simp [binOp, Op.floatArith, h', nanOf, Question.forced]

theorem run_sub_some (P : Program) (w : World) (t : TypeId) (x y r : Nat) (h : Ieee.double.sub x y = some r) :
    (binOp .sub t (.float .f64 x) (.float .f64 y)).run P w = .ok (.float .f64 r) w :=
  run_float_arith w .sub t .f64 x y r h

end Go.Proofs.Qxb6619695a.Hd
