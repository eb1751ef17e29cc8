import Derived.Test.YteonakpgenkhkaaDoorL20
namespace Go.Proofs.YteonakpgenkhkaaDoor
open Go.RowKit
set_option linter.unusedVariables false
set_option linter.unusedSimpArgs false
theorem Hd.p5 {A B C D E : Type} {a a' : A} {b b' : B} {c c' : C} {d d' : D} {e e' : E} (h : Hd (some (a, b, c, d, e) = some (a', b', c', d', e'))) : a = a' ∧ b = b' ∧ c = c' ∧ d = d' ∧ e = e' := by
  have h := Option.some.inj h.out; exact ⟨congrArg (·.1) h, congrArg (·.2.1) h, congrArg (·.2.2.1) h, congrArg (·.2.2.2.1) h, congrArg (·.2.2.2.2) h⟩
/-- What Next returns as the bytes. -/
def nxv (b : Nat) (r lo hi : Int) : Value := if (r == 0) = true then .slice none 0 0 else slv b lo hi

def nextLits : List Int := [32, 9, 10, 13, 12, 58, 59, 44, 40, 41, 91, 93, 123, 125, 35, 34, 39, 46, 43, 45, 64, 36, 42, 94, 126, 47, 60, 92, 117, 85, 124, 0]
end Go.Proofs.YteonakpgenkhkaaDoor
