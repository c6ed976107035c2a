/-
  No cell of these rows narrows 'for every input' (looked for: loops, veiled, ifaces, maps, wideKeys, modest, calm, conditions, laid).
  DERIVED. THE GIVEN ROWS OF THIS SEAT. 8 by the template 'for every input the law returns true; each argument reads behind the call as it read before'; 0 by the template 'total and deterministic' (their statements: YtnlempnbagoipaaTotals.lean).
  GIVEN WITH THE SEED: the statements are not yours to turn. If you find one false, say at which input.
  Laid BY PROGRAM, IN A SANDBOX (cutbox-rows.mjs): the forced cells as the released guide's own fill.sh prints them over the translation 77cc685c14d6b6fc… (all of the seat's roots in one cut). By AI agents, Wed Nov 11 2026. No macro, syntax, notation, axiom, sorry.
-/
import Derived.Test.YtnlempnbagoipaaChecked
import GoSem.Claim
import GoSem.ClaimJoined
import GoSem.ClaimMapViews
import Derived.JoinedTies
import Derived.KernelRfl
namespace Go.Proofs.Ytnlempnbagoipaa
/- THE CELL 'sum', in the pinned program and in every row, IS THE sha256 OF THE DUMP (.gsa) THAT YtnlempnbagoipaaProg.lean LOADS. Nothing in Lean hashes anything: it is a label: what it is worth is what the hold of that sum in a sandbox is worth. -/
noncomputable def Try.pinned : Pinned := { name := "ytnlempnbagoipaa", sum := "77cc685c14d6b6fc1696676ed2572563a693b2337725aad3dc4a8de28db10c83", checked := Try.checked }
namespace Rows
def none {H : Type} : Left H := { results := [], args := [] }

/-- 'laws.FnExactBMinMut': WHATEVER THE INPUT: true; the input reads as it did. -/
def fnExactBMinMutSpec : ChangeSpec := { name := "fnExactBMinMut", fn := fun _ => fun
  | [d1, d2] => { results := [.lit (.bool true)], args := [d1, d2] }
  | _ => none }
def fnExactBMinMutRow : OpenClaim := { program := "ytnlempnbagoipaa", sum := "77cc685c14d6b6fc1696676ed2572563a693b2337725aad3dc4a8de28db10c83", func := "pub-greenwood/laws.FnExactBMinMut", spec := "fnExactBMinMut", unfollowed := true, recurses := true, apart := false }
def FnExactBMinMutSaid : Prop := fnExactBMinMutRow.holds Try.pinned (OpenSpec.ofChange fnExactBMinMutSpec)

/-- ITS FALSE NEIGHBOUR: 'it returns false'. Refute it at one input. -/
def fnExactBMinMutWrong : ChangeSpec := { name := "fnExactBMinMut", fn := fun _ => fun
  | [d1, d2] => { results := [.lit (.bool false)], args := [d1, d2] }
  | _ => none }
def FnExactBMinMutWrongFalsely : Prop := fnExactBMinMutRow.holds Try.pinned (OpenSpec.ofChange fnExactBMinMutWrong)

/-- 'laws.FnExactBGetAtMut': WHATEVER THE INPUT: true; the input reads as it did. -/
def fnExactBGetAtMutSpec : ChangeSpec := { name := "fnExactBGetAtMut", fn := fun _ => fun
  | [d1, d2, d3] => { results := [.lit (.bool true)], args := [d1, d2, d3] }
  | _ => none }
def fnExactBGetAtMutRow : OpenClaim := { program := "ytnlempnbagoipaa", sum := "77cc685c14d6b6fc1696676ed2572563a693b2337725aad3dc4a8de28db10c83", func := "pub-greenwood/laws.FnExactBGetAtMut", spec := "fnExactBGetAtMut", unfollowed := true, recurses := true, apart := false }
def FnExactBGetAtMutSaid : Prop := fnExactBGetAtMutRow.holds Try.pinned (OpenSpec.ofChange fnExactBGetAtMutSpec)

/-- ITS FALSE NEIGHBOUR: 'it returns false'. Refute it at one input. -/
def fnExactBGetAtMutWrong : ChangeSpec := { name := "fnExactBGetAtMut", fn := fun _ => fun
  | [d1, d2, d3] => { results := [.lit (.bool false)], args := [d1, d2, d3] }
  | _ => none }
def FnExactBGetAtMutWrongFalsely : Prop := fnExactBGetAtMutRow.holds Try.pinned (OpenSpec.ofChange fnExactBGetAtMutWrong)

/-- 'laws.FnExactBGetHintMut': WHATEVER THE INPUT: true; the input reads as it did. -/
def fnExactBGetHintMutSpec : ChangeSpec := { name := "fnExactBGetHintMut", fn := fun _ => fun
  | [d1, d2, d3] => { results := [.lit (.bool true)], args := [d1, d2, d3] }
  | _ => none }
def fnExactBGetHintMutRow : OpenClaim := { program := "ytnlempnbagoipaa", sum := "77cc685c14d6b6fc1696676ed2572563a693b2337725aad3dc4a8de28db10c83", func := "pub-greenwood/laws.FnExactBGetHintMut", spec := "fnExactBGetHintMut", unfollowed := true, recurses := true, apart := false }
def FnExactBGetHintMutSaid : Prop := fnExactBGetHintMutRow.holds Try.pinned (OpenSpec.ofChange fnExactBGetHintMutSpec)

/-- ITS FALSE NEIGHBOUR: 'it returns false'. Refute it at one input. -/
def fnExactBGetHintMutWrong : ChangeSpec := { name := "fnExactBGetHintMut", fn := fun _ => fun
  | [d1, d2, d3] => { results := [.lit (.bool false)], args := [d1, d2, d3] }
  | _ => none }
def FnExactBGetHintMutWrongFalsely : Prop := fnExactBGetHintMutRow.holds Try.pinned (OpenSpec.ofChange fnExactBGetHintMutWrong)

/-- 'laws.FnExactBAscendMut': WHATEVER THE INPUT: true; the input reads as it did. -/
def fnExactBAscendMutSpec : ChangeSpec := { name := "fnExactBAscendMut", fn := fun _ => fun
  | [d1, d2, d3, d4, d5] => { results := [.lit (.bool true)], args := [d1, d2, d3, d4, d5] }
  | _ => none }
def fnExactBAscendMutRow : OpenClaim := { program := "ytnlempnbagoipaa", sum := "77cc685c14d6b6fc1696676ed2572563a693b2337725aad3dc4a8de28db10c83", func := "pub-greenwood/laws.FnExactBAscendMut", spec := "fnExactBAscendMut", unfollowed := true, recurses := true, apart := false }
def FnExactBAscendMutSaid : Prop := fnExactBAscendMutRow.holds Try.pinned (OpenSpec.ofChange fnExactBAscendMutSpec)

/-- ITS FALSE NEIGHBOUR: 'it returns false'. Refute it at one input. -/
def fnExactBAscendMutWrong : ChangeSpec := { name := "fnExactBAscendMut", fn := fun _ => fun
  | [d1, d2, d3, d4, d5] => { results := [.lit (.bool false)], args := [d1, d2, d3, d4, d5] }
  | _ => none }
def FnExactBAscendMutWrongFalsely : Prop := fnExactBAscendMutRow.holds Try.pinned (OpenSpec.ofChange fnExactBAscendMutWrong)

/-- 'laws.FnExactBAscendHintMut': WHATEVER THE INPUT: true; the input reads as it did. -/
def fnExactBAscendHintMutSpec : ChangeSpec := { name := "fnExactBAscendHintMut", fn := fun _ => fun
  | [d1, d2, d3, d4, d5] => { results := [.lit (.bool true)], args := [d1, d2, d3, d4, d5] }
  | _ => none }
def fnExactBAscendHintMutRow : OpenClaim := { program := "ytnlempnbagoipaa", sum := "77cc685c14d6b6fc1696676ed2572563a693b2337725aad3dc4a8de28db10c83", func := "pub-greenwood/laws.FnExactBAscendHintMut", spec := "fnExactBAscendHintMut", unfollowed := true, recurses := true, apart := false }
def FnExactBAscendHintMutSaid : Prop := fnExactBAscendHintMutRow.holds Try.pinned (OpenSpec.ofChange fnExactBAscendHintMutSpec)

/-- ITS FALSE NEIGHBOUR: 'it returns false'. Refute it at one input. -/
def fnExactBAscendHintMutWrong : ChangeSpec := { name := "fnExactBAscendHintMut", fn := fun _ => fun
  | [d1, d2, d3, d4, d5] => { results := [.lit (.bool false)], args := [d1, d2, d3, d4, d5] }
  | _ => none }
def FnExactBAscendHintMutWrongFalsely : Prop := fnExactBAscendHintMutRow.holds Try.pinned (OpenSpec.ofChange fnExactBAscendHintMutWrong)

/-- 'laws.FnExactBLoad': WHATEVER THE INPUT: true; the input reads as it did. -/
def fnExactBLoadSpec : ChangeSpec := { name := "fnExactBLoad", fn := fun _ => fun
  | [d1, d2] => { results := [.lit (.bool true)], args := [d1, d2] }
  | _ => none }
def fnExactBLoadRow : OpenClaim := { program := "ytnlempnbagoipaa", sum := "77cc685c14d6b6fc1696676ed2572563a693b2337725aad3dc4a8de28db10c83", func := "pub-greenwood/laws.FnExactBLoad", spec := "fnExactBLoad", unfollowed := true, recurses := true, apart := false }
def FnExactBLoadSaid : Prop := fnExactBLoadRow.holds Try.pinned (OpenSpec.ofChange fnExactBLoadSpec)

/-- ITS FALSE NEIGHBOUR: 'it returns false'. Refute it at one input. -/
def fnExactBLoadWrong : ChangeSpec := { name := "fnExactBLoad", fn := fun _ => fun
  | [d1, d2] => { results := [.lit (.bool false)], args := [d1, d2] }
  | _ => none }
def FnExactBLoadWrongFalsely : Prop := fnExactBLoadRow.holds Try.pinned (OpenSpec.ofChange fnExactBLoadWrong)

/-- 'laws.FnExactBIter': WHATEVER THE INPUT: true; the input reads as it did. -/
def fnExactBIterSpec : ChangeSpec := { name := "fnExactBIter", fn := fun _ => fun
  | [d1, d2, d3] => { results := [.lit (.bool true)], args := [d1, d2, d3] }
  | _ => none }
def fnExactBIterRow : OpenClaim := { program := "ytnlempnbagoipaa", sum := "77cc685c14d6b6fc1696676ed2572563a693b2337725aad3dc4a8de28db10c83", func := "pub-greenwood/laws.FnExactBIter", spec := "fnExactBIter", unfollowed := true, recurses := true, apart := false }
def FnExactBIterSaid : Prop := fnExactBIterRow.holds Try.pinned (OpenSpec.ofChange fnExactBIterSpec)

/-- ITS FALSE NEIGHBOUR: 'it returns false'. Refute it at one input. -/
def fnExactBIterWrong : ChangeSpec := { name := "fnExactBIter", fn := fun _ => fun
  | [d1, d2, d3] => { results := [.lit (.bool false)], args := [d1, d2, d3] }
  | _ => none }
def FnExactBIterWrongFalsely : Prop := fnExactBIterRow.holds Try.pinned (OpenSpec.ofChange fnExactBIterWrong)

/-- 'laws.FnBSeeks': WHATEVER THE INPUT: true; the input reads as it did. -/
def fnBSeeksSpec : ChangeSpec := { name := "fnBSeeks", fn := fun _ => fun
  | [d1, d2, d3] => { results := [.lit (.bool true)], args := [d1, d2, d3] }
  | _ => none }
def fnBSeeksRow : OpenClaim := { program := "ytnlempnbagoipaa", sum := "77cc685c14d6b6fc1696676ed2572563a693b2337725aad3dc4a8de28db10c83", func := "pub-greenwood/laws.FnBSeeks", spec := "fnBSeeks", unfollowed := true, recurses := true, apart := false }
def FnBSeeksSaid : Prop := fnBSeeksRow.holds Try.pinned (OpenSpec.ofChange fnBSeeksSpec)

/-- ITS FALSE NEIGHBOUR: 'it returns false'. Refute it at one input. -/
def fnBSeeksWrong : ChangeSpec := { name := "fnBSeeks", fn := fun _ => fun
  | [d1, d2, d3] => { results := [.lit (.bool false)], args := [d1, d2, d3] }
  | _ => none }
def FnBSeeksWrongFalsely : Prop := fnBSeeksRow.holds Try.pinned (OpenSpec.ofChange fnBSeeksWrong)

/- THE SECOND FORM. 'bulk': how many values and letters a reading holds, each counted each time it is reached (what is shared counts as often as it is met; a slice's spare places count too). A statement '..UptoSaid' is the law's where the arguments, and the package variables that the reading takes, are together of bulk at most 1048576: NARROWER than '..Said'. Prove '..Said' where nothing that the law and all that it calls make is longer than what came in: it says more and counts as full. Else prove '..UptoSaid'. A law counts once. -/
mutual
def uptoBulk {H : Type} : DataW H → Nat
  | .lit (.string bytes) => bytes.length + 1
  | .lit _ => 1
  | .nil => 1
  | .ptr d => uptoBulk d + 1
  | .slice elems spare => uptoBulkAll elems + uptoBulkAll spare + 1
  | .agg parts => uptoBulkAll parts + 1
  | .iface _ d => uptoBulk d + 1
  | .map entries => uptoBulkEntries entries + 1
  | .held _ => 1
def uptoBulkAll {H : Type} : List (DataW H) → Nat
  | [] => 0
  | d :: r => uptoBulk d + uptoBulkAll r
def uptoBulkEntries {H : Type} : List (Lit × DataW H) → Nat
  | [] => 0
  | x :: r => uptoBulkEntry x + uptoBulkEntries r
def uptoBulkEntry {H : Type} : Lit × DataW H → Nat
  | (.string bytes, d) => bytes.length + uptoBulk d + 1
  | (_, d) => uptoBulk d + 1
 end
def uptoSmall : (H : Type) → List (DataW H) → Bool := fun _ ds => decide (uptoBulkAll ds ≤ 1048576)
def OpenSpec.upto (s : _root_.Go.ChangeSpec) : _root_.Go.OpenSpec := { _root_.Go.OpenSpec.ofChange s with cond := some uptoSmall }

/-- 'laws.FnExactBMinMut', WHERE WHAT IT READS IS OF BULK AT MOST 1048576: true; the input reads as it did. -/
def fnExactBMinMutUptoRow : OpenClaim := { program := "ytnlempnbagoipaa", sum := "77cc685c14d6b6fc1696676ed2572563a693b2337725aad3dc4a8de28db10c83", func := "pub-greenwood/laws.FnExactBMinMut", spec := "fnExactBMinMut", unfollowed := true, recurses := true, apart := false, narrowed := true }
def FnExactBMinMutUptoSaid : Prop := fnExactBMinMutUptoRow.holds Try.pinned (OpenSpec.upto fnExactBMinMutSpec)

/-- 'laws.FnExactBGetAtMut', WHERE WHAT IT READS IS OF BULK AT MOST 1048576: true; the input reads as it did. -/
def fnExactBGetAtMutUptoRow : OpenClaim := { program := "ytnlempnbagoipaa", sum := "77cc685c14d6b6fc1696676ed2572563a693b2337725aad3dc4a8de28db10c83", func := "pub-greenwood/laws.FnExactBGetAtMut", spec := "fnExactBGetAtMut", unfollowed := true, recurses := true, apart := false, narrowed := true }
def FnExactBGetAtMutUptoSaid : Prop := fnExactBGetAtMutUptoRow.holds Try.pinned (OpenSpec.upto fnExactBGetAtMutSpec)

/-- 'laws.FnExactBGetHintMut', WHERE WHAT IT READS IS OF BULK AT MOST 1048576: true; the input reads as it did. -/
def fnExactBGetHintMutUptoRow : OpenClaim := { program := "ytnlempnbagoipaa", sum := "77cc685c14d6b6fc1696676ed2572563a693b2337725aad3dc4a8de28db10c83", func := "pub-greenwood/laws.FnExactBGetHintMut", spec := "fnExactBGetHintMut", unfollowed := true, recurses := true, apart := false, narrowed := true }
def FnExactBGetHintMutUptoSaid : Prop := fnExactBGetHintMutUptoRow.holds Try.pinned (OpenSpec.upto fnExactBGetHintMutSpec)

/-- 'laws.FnExactBAscendMut', WHERE WHAT IT READS IS OF BULK AT MOST 1048576: true; the input reads as it did. -/
def fnExactBAscendMutUptoRow : OpenClaim := { program := "ytnlempnbagoipaa", sum := "77cc685c14d6b6fc1696676ed2572563a693b2337725aad3dc4a8de28db10c83", func := "pub-greenwood/laws.FnExactBAscendMut", spec := "fnExactBAscendMut", unfollowed := true, recurses := true, apart := false, narrowed := true }
def FnExactBAscendMutUptoSaid : Prop := fnExactBAscendMutUptoRow.holds Try.pinned (OpenSpec.upto fnExactBAscendMutSpec)

/-- 'laws.FnExactBAscendHintMut', WHERE WHAT IT READS IS OF BULK AT MOST 1048576: true; the input reads as it did. -/
def fnExactBAscendHintMutUptoRow : OpenClaim := { program := "ytnlempnbagoipaa", sum := "77cc685c14d6b6fc1696676ed2572563a693b2337725aad3dc4a8de28db10c83", func := "pub-greenwood/laws.FnExactBAscendHintMut", spec := "fnExactBAscendHintMut", unfollowed := true, recurses := true, apart := false, narrowed := true }
def FnExactBAscendHintMutUptoSaid : Prop := fnExactBAscendHintMutUptoRow.holds Try.pinned (OpenSpec.upto fnExactBAscendHintMutSpec)

/-- 'laws.FnExactBLoad', WHERE WHAT IT READS IS OF BULK AT MOST 1048576: true; the input reads as it did. -/
def fnExactBLoadUptoRow : OpenClaim := { program := "ytnlempnbagoipaa", sum := "77cc685c14d6b6fc1696676ed2572563a693b2337725aad3dc4a8de28db10c83", func := "pub-greenwood/laws.FnExactBLoad", spec := "fnExactBLoad", unfollowed := true, recurses := true, apart := false, narrowed := true }
def FnExactBLoadUptoSaid : Prop := fnExactBLoadUptoRow.holds Try.pinned (OpenSpec.upto fnExactBLoadSpec)

/-- 'laws.FnExactBIter', WHERE WHAT IT READS IS OF BULK AT MOST 1048576: true; the input reads as it did. -/
def fnExactBIterUptoRow : OpenClaim := { program := "ytnlempnbagoipaa", sum := "77cc685c14d6b6fc1696676ed2572563a693b2337725aad3dc4a8de28db10c83", func := "pub-greenwood/laws.FnExactBIter", spec := "fnExactBIter", unfollowed := true, recurses := true, apart := false, narrowed := true }
def FnExactBIterUptoSaid : Prop := fnExactBIterUptoRow.holds Try.pinned (OpenSpec.upto fnExactBIterSpec)

/-- 'laws.FnBSeeks', WHERE WHAT IT READS IS OF BULK AT MOST 1048576: true; the input reads as it did. -/
def fnBSeeksUptoRow : OpenClaim := { program := "ytnlempnbagoipaa", sum := "77cc685c14d6b6fc1696676ed2572563a693b2337725aad3dc4a8de28db10c83", func := "pub-greenwood/laws.FnBSeeks", spec := "fnBSeeks", unfollowed := true, recurses := true, apart := false, narrowed := true }
def FnBSeeksUptoSaid : Prop := fnBSeeksUptoRow.holds Try.pinned (OpenSpec.upto fnBSeeksSpec)

end Rows
end Go.Proofs.Ytnlempnbagoipaa
