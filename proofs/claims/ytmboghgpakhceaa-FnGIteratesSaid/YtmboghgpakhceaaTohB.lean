/- Contracts of functions of the program, proved by walking through their code. Conditions: those that each theorem names. -/
import Derived.Test.YtmboghgpakhceaaProg
import Derived.Test.YtmboghgpakhceaaToIt
import Derived.Test.YtmboghgpakhceaaToSo
namespace Go.Bt
open Go Go.Proofs
set_option maxRecDepth 20000
set_option maxHeartbeats 4000000
set_option linter.unusedVariables false

theorem st27 : StT Try.prog 27 [(0, 1), (1, 1)] [.int .i64 0, .int .i64 0] := ⟨⟨_, Try.underlying27, fun w => by simp [Array.mapM_eq_mapM_toList, Try.sizeOf3]⟩, Try.zeroValue27⟩
theorem st68 : StT Try.prog 68 [(0, 2), (2, 1)] [.int .i64 0, .int .i64 0, .bool false] := ⟨⟨_, Try.underlying68, fun w => by simp [Array.mapM_eq_mapM_toList, Try.sizeOf4, Try.sizeOf27]⟩, Try.zeroValue68⟩

end Go.Bt
namespace Go.Bt
open Go Go.Proofs
set_option maxRecDepth 20000
set_option maxHeartbeats 4000000
set_option linter.unusedVariables false

end Go.Bt
