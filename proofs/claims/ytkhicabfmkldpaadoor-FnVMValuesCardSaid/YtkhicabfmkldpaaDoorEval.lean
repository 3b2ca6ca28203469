/-
  evalInner does what lev says, whatever the fuel.
-/
import Derived.Test.YtkhicabfmkldpaaDoorLoop1
import Derived.Test.YtkhicabfmkldpaaDoorFunc
set_option linter.unusedSimpArgs false
set_option linter.unusedVariables false
namespace Go.Proofs.YtkhicabfmkldpaaDoor
open Go Go.RowKit

theorem loop_all (E : Env) (hE : E.ok) (hO : OpsOk E) (mx : Nat) : ∀ f, LoopOk E mx f
  | 0 => loop_zero E mx
  | f + 1 => loop_step E hE hO mx f (loop_all E hE hO mx f) (call_of_loop E hE mx f (loop_all E hE hO mx f))

theorem call_all (E : Env) (hE : E.ok) (hO : OpsOk E) (mx f : Nat) : CallOk E mx f := call_of_loop E hE mx f (loop_all E hE hO mx f)
end Go.Proofs.YtkhicabfmkldpaaDoor
