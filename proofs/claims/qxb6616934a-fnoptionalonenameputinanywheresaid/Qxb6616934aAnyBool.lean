/-
  'It returns some bool.'
-/
import Derived.Test.Qxb6616934aBase
namespace Go.Proofs.Qxb6616934a.Bs

/-- It returns some bool. -/
def AnyBool (e : Ending) : Prop := ∃ b : Bool, e = .returned (.bool b)

end Go.Proofs.Qxb6616934a.Bs
