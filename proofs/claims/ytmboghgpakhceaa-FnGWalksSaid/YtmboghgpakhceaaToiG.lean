/- Contracts of functions of the program, proved by walking through their code. Conditions: those that each theorem names. -/
import Derived.Test.YtmboghgpakhceaaToiC
import Derived.Test.YtmboghgpakhceaaTogV
import Derived.Test.YtmboghgpakhceaaToHi
import Derived.Test.YtmboghgpakhceaaToKs
namespace Go.Bt.FG
open Go Go.Proofs Go.Proofs.Try
set_option maxRecDepth 20000
set_option maxHeartbeats 4000000
set_option linter.unusedVariables false
set_option linter.unusedSectionVars false

section
variable [Inhabited Cx]
variable {B : World} {g : FuncId} {us cs : List Value} {go : List (Int × Int) → Bool} {M : Nat}
end
section
variable [Inhabited Cx]
end
end Go.Bt.FG
