/- Contracts of functions of the program, proved by walking through their code. Conditions: those that each theorem names. -/
import Derived.Test.YtknkmaigdgfhlaaTozI
import Derived.Test.YtknkmaigdgfhlaaToKb
namespace Go.Bt.FZ
open Go Go.Proofs
set_option maxRecDepth 20000
set_option maxHeartbeats 4000000
set_option linter.unusedVariables false

end Go.Bt.FZ
