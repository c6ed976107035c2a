/- Contracts of functions of the program, proved by walking through their code. Conditions: those that each theorem names. -/
import Derived.Test.YtmboghgpakhceaaToiY
import Derived.Test.YtmboghgpakhceaaTogP1
namespace Go.Bt.FG
open Go Go.Proofs
set_option maxRecDepth 20000
set_option maxHeartbeats 4000000
set_option linter.unusedVariables false
set_option linter.unusedSectionVars false

theorem st79 : StT Try.prog 79 [(0, 1), (1, 2)] [.int .i64 0, .int .i64 0, .int .i64 0] := ⟨⟨_, Try.underlying79, fun w => by simp [Array.mapM_eq_mapM_toList, Try.sizeOf3, Try.sizeOf27]⟩, Try.zeroValue79⟩
end Go.Bt.FG
