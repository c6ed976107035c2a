/-
  No cell of these rows narrows 'for every input' (looked for: loops, veiled, ifaces, maps, wideKeys, modest, calm, conditions, laid).
  DERIVED. THE GIVEN ROWS OF THIS SEAT. 11 by the template 'for every input the law returns true; each argument reads behind the call as it read before'; 0 by the template 'total and deterministic' (their statements: YtgmmhpmchibakaaTotals.lean).
  GIVEN WITH THE SEED: the statements are not yours to turn. If you find one false, say at which input.
  Laid BY PROGRAM, IN A SANDBOX (cutbox-rows.mjs): the forced cells as the released guide's own fill.sh prints them over the translation 0cde9569b2b9d29e… (all of the seat's roots in one cut). By AI agents, Wed Nov 11 2026. No macro, syntax, notation, axiom, sorry.
-/
import Derived.Test.YtgmmhpmchibakaaChecked
import GoSem.Claim
import GoSem.ClaimJoined
import GoSem.ClaimMapViews
import Derived.JoinedTies
import Derived.KernelRfl
namespace Go.Proofs.Ytgmmhpmchibakaa
/- THE CELL 'sum', in the pinned program and in every row, IS THE sha256 OF THE DUMP (.gsa) THAT YtgmmhpmchibakaaProg.lean LOADS. Nothing in Lean hashes anything: it is a label: what it is worth is what the hold of that sum in a sandbox is worth. -/
noncomputable def Try.pinned : Pinned := { name := "ytgmmhpmchibakaa", sum := "0cde9569b2b9d29e9e9659ee096038a047eeb2e4560d2b9f2ed88f0c223a244e", checked := Try.checked }
namespace Rows
def none {H : Type} : Left H := { results := [], args := [] }

/-- 'laws.FnExactMMin': WHATEVER THE INPUT: true; the input reads as it did. -/
def fnExactMMinSpec : ChangeSpec := { name := "fnExactMMin", fn := fun _ => fun
  | [d1, d2] => { results := [.lit (.bool true)], args := [d1, d2] }
  | _ => none }
def fnExactMMinRow : OpenClaim := { program := "ytgmmhpmchibakaa", sum := "0cde9569b2b9d29e9e9659ee096038a047eeb2e4560d2b9f2ed88f0c223a244e", func := "pub-greenwood/laws.FnExactMMin", spec := "fnExactMMin", unfollowed := true, recurses := true, apart := false }
def FnExactMMinSaid : Prop := fnExactMMinRow.holds Try.pinned (OpenSpec.ofChange fnExactMMinSpec)

/-- ITS FALSE NEIGHBOUR: 'it returns false'. Refute it at one input. -/
def fnExactMMinWrong : ChangeSpec := { name := "fnExactMMin", fn := fun _ => fun
  | [d1, d2] => { results := [.lit (.bool false)], args := [d1, d2] }
  | _ => none }
def FnExactMMinWrongFalsely : Prop := fnExactMMinRow.holds Try.pinned (OpenSpec.ofChange fnExactMMinWrong)

/-- 'laws.FnExactMValuesMut': WHATEVER THE INPUT: true; the input reads as it did. -/
def fnExactMValuesMutSpec : ChangeSpec := { name := "fnExactMValuesMut", fn := fun _ => fun
  | [d1, d2] => { results := [.lit (.bool true)], args := [d1, d2] }
  | _ => none }
def fnExactMValuesMutRow : OpenClaim := { program := "ytgmmhpmchibakaa", sum := "0cde9569b2b9d29e9e9659ee096038a047eeb2e4560d2b9f2ed88f0c223a244e", func := "pub-greenwood/laws.FnExactMValuesMut", spec := "fnExactMValuesMut", unfollowed := true, recurses := true, apart := false }
def FnExactMValuesMutSaid : Prop := fnExactMValuesMutRow.holds Try.pinned (OpenSpec.ofChange fnExactMValuesMutSpec)

/-- ITS FALSE NEIGHBOUR: 'it returns false'. Refute it at one input. -/
def fnExactMValuesMutWrong : ChangeSpec := { name := "fnExactMValuesMut", fn := fun _ => fun
  | [d1, d2] => { results := [.lit (.bool false)], args := [d1, d2] }
  | _ => none }
def FnExactMValuesMutWrongFalsely : Prop := fnExactMValuesMutRow.holds Try.pinned (OpenSpec.ofChange fnExactMValuesMutWrong)

/-- 'laws.FnExactMReverse': WHATEVER THE INPUT: true; the input reads as it did. -/
def fnExactMReverseSpec : ChangeSpec := { name := "fnExactMReverse", fn := fun _ => fun
  | [d1, d2, d3] => { results := [.lit (.bool true)], args := [d1, d2, d3] }
  | _ => none }
def fnExactMReverseRow : OpenClaim := { program := "ytgmmhpmchibakaa", sum := "0cde9569b2b9d29e9e9659ee096038a047eeb2e4560d2b9f2ed88f0c223a244e", func := "pub-greenwood/laws.FnExactMReverse", spec := "fnExactMReverse", unfollowed := true, recurses := true, apart := false }
def FnExactMReverseSaid : Prop := fnExactMReverseRow.holds Try.pinned (OpenSpec.ofChange fnExactMReverseSpec)

/-- ITS FALSE NEIGHBOUR: 'it returns false'. Refute it at one input. -/
def fnExactMReverseWrong : ChangeSpec := { name := "fnExactMReverse", fn := fun _ => fun
  | [d1, d2, d3] => { results := [.lit (.bool false)], args := [d1, d2, d3] }
  | _ => none }
def FnExactMReverseWrongFalsely : Prop := fnExactMReverseRow.holds Try.pinned (OpenSpec.ofChange fnExactMReverseWrong)

/-- 'laws.FnExactMSet': WHATEVER THE INPUT: true; the input reads as it did. -/
def fnExactMSetSpec : ChangeSpec := { name := "fnExactMSet", fn := fun _ => fun
  | [d1, d2] => { results := [.lit (.bool true)], args := [d1, d2] }
  | _ => none }
def fnExactMSetRow : OpenClaim := { program := "ytgmmhpmchibakaa", sum := "0cde9569b2b9d29e9e9659ee096038a047eeb2e4560d2b9f2ed88f0c223a244e", func := "pub-greenwood/laws.FnExactMSet", spec := "fnExactMSet", unfollowed := true, recurses := true, apart := false }
def FnExactMSetSaid : Prop := fnExactMSetRow.holds Try.pinned (OpenSpec.ofChange fnExactMSetSpec)

/-- ITS FALSE NEIGHBOUR: 'it returns false'. Refute it at one input. -/
def fnExactMSetWrong : ChangeSpec := { name := "fnExactMSet", fn := fun _ => fun
  | [d1, d2] => { results := [.lit (.bool false)], args := [d1, d2] }
  | _ => none }
def FnExactMSetWrongFalsely : Prop := fnExactMSetRow.holds Try.pinned (OpenSpec.ofChange fnExactMSetWrong)

/-- 'laws.FnExactMDescend': WHATEVER THE INPUT: true; the input reads as it did. -/
def fnExactMDescendSpec : ChangeSpec := { name := "fnExactMDescend", fn := fun _ => fun
  | [d1, d2, d3, d4] => { results := [.lit (.bool true)], args := [d1, d2, d3, d4] }
  | _ => none }
def fnExactMDescendRow : OpenClaim := { program := "ytgmmhpmchibakaa", sum := "0cde9569b2b9d29e9e9659ee096038a047eeb2e4560d2b9f2ed88f0c223a244e", func := "pub-greenwood/laws.FnExactMDescend", spec := "fnExactMDescend", unfollowed := true, recurses := true, apart := false }
def FnExactMDescendSaid : Prop := fnExactMDescendRow.holds Try.pinned (OpenSpec.ofChange fnExactMDescendSpec)

/-- ITS FALSE NEIGHBOUR: 'it returns false'. Refute it at one input. -/
def fnExactMDescendWrong : ChangeSpec := { name := "fnExactMDescend", fn := fun _ => fun
  | [d1, d2, d3, d4] => { results := [.lit (.bool false)], args := [d1, d2, d3, d4] }
  | _ => none }
def FnExactMDescendWrongFalsely : Prop := fnExactMDescendRow.holds Try.pinned (OpenSpec.ofChange fnExactMDescendWrong)

/-- 'laws.FnMLoads': WHATEVER THE INPUT: true; the input reads as it did. -/
def fnMLoadsSpec : ChangeSpec := { name := "fnMLoads", fn := fun _ => fun
  | [d1, d2] => { results := [.lit (.bool true)], args := [d1, d2] }
  | _ => none }
def fnMLoadsRow : OpenClaim := { program := "ytgmmhpmchibakaa", sum := "0cde9569b2b9d29e9e9659ee096038a047eeb2e4560d2b9f2ed88f0c223a244e", func := "pub-greenwood/laws.FnMLoads", spec := "fnMLoads", unfollowed := true, recurses := true, apart := false }
def FnMLoadsSaid : Prop := fnMLoadsRow.holds Try.pinned (OpenSpec.ofChange fnMLoadsSpec)

/-- ITS FALSE NEIGHBOUR: 'it returns false'. Refute it at one input. -/
def fnMLoadsWrong : ChangeSpec := { name := "fnMLoads", fn := fun _ => fun
  | [d1, d2] => { results := [.lit (.bool false)], args := [d1, d2] }
  | _ => none }
def FnMLoadsWrongFalsely : Prop := fnMLoadsRow.holds Try.pinned (OpenSpec.ofChange fnMLoadsWrong)

/-- 'laws.FnMParts': WHATEVER THE INPUT: true; the input reads as it did. -/
def fnMPartsSpec : ChangeSpec := { name := "fnMParts", fn := fun _ => fun
  | [d1, d2] => { results := [.lit (.bool true)], args := [d1, d2] }
  | _ => none }
def fnMPartsRow : OpenClaim := { program := "ytgmmhpmchibakaa", sum := "0cde9569b2b9d29e9e9659ee096038a047eeb2e4560d2b9f2ed88f0c223a244e", func := "pub-greenwood/laws.FnMParts", spec := "fnMParts", unfollowed := true, recurses := true, apart := false }
def FnMPartsSaid : Prop := fnMPartsRow.holds Try.pinned (OpenSpec.ofChange fnMPartsSpec)

/-- ITS FALSE NEIGHBOUR: 'it returns false'. Refute it at one input. -/
def fnMPartsWrong : ChangeSpec := { name := "fnMParts", fn := fun _ => fun
  | [d1, d2] => { results := [.lit (.bool false)], args := [d1, d2] }
  | _ => none }
def FnMPartsWrongFalsely : Prop := fnMPartsRow.holds Try.pinned (OpenSpec.ofChange fnMPartsWrong)

/-- 'laws.FnExactMIterMut': WHATEVER THE INPUT: true; the input reads as it did. -/
def fnExactMIterMutSpec : ChangeSpec := { name := "fnExactMIterMut", fn := fun _ => fun
  | [d1, d2, d3] => { results := [.lit (.bool true)], args := [d1, d2, d3] }
  | _ => none }
def fnExactMIterMutRow : OpenClaim := { program := "ytgmmhpmchibakaa", sum := "0cde9569b2b9d29e9e9659ee096038a047eeb2e4560d2b9f2ed88f0c223a244e", func := "pub-greenwood/laws.FnExactMIterMut", spec := "fnExactMIterMut", unfollowed := true, recurses := true, apart := false }
def FnExactMIterMutSaid : Prop := fnExactMIterMutRow.holds Try.pinned (OpenSpec.ofChange fnExactMIterMutSpec)

/-- ITS FALSE NEIGHBOUR: 'it returns false'. Refute it at one input. -/
def fnExactMIterMutWrong : ChangeSpec := { name := "fnExactMIterMut", fn := fun _ => fun
  | [d1, d2, d3] => { results := [.lit (.bool false)], args := [d1, d2, d3] }
  | _ => none }
def FnExactMIterMutWrongFalsely : Prop := fnExactMIterMutRow.holds Try.pinned (OpenSpec.ofChange fnExactMIterMutWrong)

/-- 'laws.FnExactMDelete': WHATEVER THE INPUT: true; the input reads as it did. -/
def fnExactMDeleteSpec : ChangeSpec := { name := "fnExactMDelete", fn := fun _ => fun
  | [d1, d2, d3] => { results := [.lit (.bool true)], args := [d1, d2, d3] }
  | _ => none }
def fnExactMDeleteRow : OpenClaim := { program := "ytgmmhpmchibakaa", sum := "0cde9569b2b9d29e9e9659ee096038a047eeb2e4560d2b9f2ed88f0c223a244e", func := "pub-greenwood/laws.FnExactMDelete", spec := "fnExactMDelete", unfollowed := true, recurses := true, apart := false }
def FnExactMDeleteSaid : Prop := fnExactMDeleteRow.holds Try.pinned (OpenSpec.ofChange fnExactMDeleteSpec)

/-- ITS FALSE NEIGHBOUR: 'it returns false'. Refute it at one input. -/
def fnExactMDeleteWrong : ChangeSpec := { name := "fnExactMDelete", fn := fun _ => fun
  | [d1, d2, d3] => { results := [.lit (.bool false)], args := [d1, d2, d3] }
  | _ => none }
def FnExactMDeleteWrongFalsely : Prop := fnExactMDeleteRow.holds Try.pinned (OpenSpec.ofChange fnExactMDeleteWrong)

/-- 'laws.FnMSplits': WHATEVER THE INPUT: true; the input reads as it did. -/
def fnMSplitsSpec : ChangeSpec := { name := "fnMSplits", fn := fun _ => fun
  | [d1, d2, d3] => { results := [.lit (.bool true)], args := [d1, d2, d3] }
  | _ => none }
def fnMSplitsRow : OpenClaim := { program := "ytgmmhpmchibakaa", sum := "0cde9569b2b9d29e9e9659ee096038a047eeb2e4560d2b9f2ed88f0c223a244e", func := "pub-greenwood/laws.FnMSplits", spec := "fnMSplits", unfollowed := true, recurses := true, apart := false }
def FnMSplitsSaid : Prop := fnMSplitsRow.holds Try.pinned (OpenSpec.ofChange fnMSplitsSpec)

/-- ITS FALSE NEIGHBOUR: 'it returns false'. Refute it at one input. -/
def fnMSplitsWrong : ChangeSpec := { name := "fnMSplits", fn := fun _ => fun
  | [d1, d2, d3] => { results := [.lit (.bool false)], args := [d1, d2, d3] }
  | _ => none }
def FnMSplitsWrongFalsely : Prop := fnMSplitsRow.holds Try.pinned (OpenSpec.ofChange fnMSplitsWrong)

/-- 'laws.FnExactMPops': WHATEVER THE INPUT: true; the input reads as it did. -/
def fnExactMPopsSpec : ChangeSpec := { name := "fnExactMPops", fn := fun _ => fun
  | [d1, d2, d3] => { results := [.lit (.bool true)], args := [d1, d2, d3] }
  | _ => none }
def fnExactMPopsRow : OpenClaim := { program := "ytgmmhpmchibakaa", sum := "0cde9569b2b9d29e9e9659ee096038a047eeb2e4560d2b9f2ed88f0c223a244e", func := "pub-greenwood/laws.FnExactMPops", spec := "fnExactMPops", unfollowed := true, recurses := true, apart := false }
def FnExactMPopsSaid : Prop := fnExactMPopsRow.holds Try.pinned (OpenSpec.ofChange fnExactMPopsSpec)

/-- ITS FALSE NEIGHBOUR: 'it returns false'. Refute it at one input. -/
def fnExactMPopsWrong : ChangeSpec := { name := "fnExactMPops", fn := fun _ => fun
  | [d1, d2, d3] => { results := [.lit (.bool false)], args := [d1, d2, d3] }
  | _ => none }
def FnExactMPopsWrongFalsely : Prop := fnExactMPopsRow.holds Try.pinned (OpenSpec.ofChange fnExactMPopsWrong)

/- THE SECOND FORM. 'bulk': how many values and letters a reading holds, each counted each time it is reached (what is shared counts as often as it is met; a slice's spare places count too). A statement '..UptoSaid' is the law's where the arguments, and the package variables that the reading takes, are together of bulk at most 1048576: NARROWER than '..Said'. Prove '..Said' where nothing that the law and all that it calls make is longer than what came in: it says more and counts as full. Else prove '..UptoSaid'. A law counts once. -/
mutual
def uptoBulk {H : Type} : DataW H → Nat
  | .lit (.string bytes) => bytes.length + 1
  | .lit _ => 1
  | .nil => 1
  | .ptr d => uptoBulk d + 1
  | .slice elems spare => uptoBulkAll elems + uptoBulkAll spare + 1
  | .agg parts => uptoBulkAll parts + 1
  | .iface _ d => uptoBulk d + 1
  | .map entries => uptoBulkEntries entries + 1
  | .held _ => 1
def uptoBulkAll {H : Type} : List (DataW H) → Nat
  | [] => 0
  | d :: r => uptoBulk d + uptoBulkAll r
def uptoBulkEntries {H : Type} : List (Lit × DataW H) → Nat
  | [] => 0
  | x :: r => uptoBulkEntry x + uptoBulkEntries r
def uptoBulkEntry {H : Type} : Lit × DataW H → Nat
  | (.string bytes, d) => bytes.length + uptoBulk d + 1
  | (_, d) => uptoBulk d + 1
 end
def uptoSmall : (H : Type) → List (DataW H) → Bool := fun _ ds => decide (uptoBulkAll ds ≤ 1048576)
def OpenSpec.upto (s : _root_.Go.ChangeSpec) : _root_.Go.OpenSpec := { _root_.Go.OpenSpec.ofChange s with cond := some uptoSmall }

/-- 'laws.FnExactMMin', WHERE WHAT IT READS IS OF BULK AT MOST 1048576: true; the input reads as it did. -/
def fnExactMMinUptoRow : OpenClaim := { program := "ytgmmhpmchibakaa", sum := "0cde9569b2b9d29e9e9659ee096038a047eeb2e4560d2b9f2ed88f0c223a244e", func := "pub-greenwood/laws.FnExactMMin", spec := "fnExactMMin", unfollowed := true, recurses := true, apart := false, narrowed := true }
def FnExactMMinUptoSaid : Prop := fnExactMMinUptoRow.holds Try.pinned (OpenSpec.upto fnExactMMinSpec)

/-- 'laws.FnExactMValuesMut', WHERE WHAT IT READS IS OF BULK AT MOST 1048576: true; the input reads as it did. -/
def fnExactMValuesMutUptoRow : OpenClaim := { program := "ytgmmhpmchibakaa", sum := "0cde9569b2b9d29e9e9659ee096038a047eeb2e4560d2b9f2ed88f0c223a244e", func := "pub-greenwood/laws.FnExactMValuesMut", spec := "fnExactMValuesMut", unfollowed := true, recurses := true, apart := false, narrowed := true }
def FnExactMValuesMutUptoSaid : Prop := fnExactMValuesMutUptoRow.holds Try.pinned (OpenSpec.upto fnExactMValuesMutSpec)

/-- 'laws.FnExactMReverse', WHERE WHAT IT READS IS OF BULK AT MOST 1048576: true; the input reads as it did. -/
def fnExactMReverseUptoRow : OpenClaim := { program := "ytgmmhpmchibakaa", sum := "0cde9569b2b9d29e9e9659ee096038a047eeb2e4560d2b9f2ed88f0c223a244e", func := "pub-greenwood/laws.FnExactMReverse", spec := "fnExactMReverse", unfollowed := true, recurses := true, apart := false, narrowed := true }
def FnExactMReverseUptoSaid : Prop := fnExactMReverseUptoRow.holds Try.pinned (OpenSpec.upto fnExactMReverseSpec)

/-- 'laws.FnExactMSet', WHERE WHAT IT READS IS OF BULK AT MOST 1048576: true; the input reads as it did. -/
def fnExactMSetUptoRow : OpenClaim := { program := "ytgmmhpmchibakaa", sum := "0cde9569b2b9d29e9e9659ee096038a047eeb2e4560d2b9f2ed88f0c223a244e", func := "pub-greenwood/laws.FnExactMSet", spec := "fnExactMSet", unfollowed := true, recurses := true, apart := false, narrowed := true }
def FnExactMSetUptoSaid : Prop := fnExactMSetUptoRow.holds Try.pinned (OpenSpec.upto fnExactMSetSpec)

/-- 'laws.FnExactMDescend', WHERE WHAT IT READS IS OF BULK AT MOST 1048576: true; the input reads as it did. -/
def fnExactMDescendUptoRow : OpenClaim := { program := "ytgmmhpmchibakaa", sum := "0cde9569b2b9d29e9e9659ee096038a047eeb2e4560d2b9f2ed88f0c223a244e", func := "pub-greenwood/laws.FnExactMDescend", spec := "fnExactMDescend", unfollowed := true, recurses := true, apart := false, narrowed := true }
def FnExactMDescendUptoSaid : Prop := fnExactMDescendUptoRow.holds Try.pinned (OpenSpec.upto fnExactMDescendSpec)

/-- 'laws.FnMLoads', WHERE WHAT IT READS IS OF BULK AT MOST 1048576: true; the input reads as it did. -/
def fnMLoadsUptoRow : OpenClaim := { program := "ytgmmhpmchibakaa", sum := "0cde9569b2b9d29e9e9659ee096038a047eeb2e4560d2b9f2ed88f0c223a244e", func := "pub-greenwood/laws.FnMLoads", spec := "fnMLoads", unfollowed := true, recurses := true, apart := false, narrowed := true }
def FnMLoadsUptoSaid : Prop := fnMLoadsUptoRow.holds Try.pinned (OpenSpec.upto fnMLoadsSpec)

/-- 'laws.FnMParts', WHERE WHAT IT READS IS OF BULK AT MOST 1048576: true; the input reads as it did. -/
def fnMPartsUptoRow : OpenClaim := { program := "ytgmmhpmchibakaa", sum := "0cde9569b2b9d29e9e9659ee096038a047eeb2e4560d2b9f2ed88f0c223a244e", func := "pub-greenwood/laws.FnMParts", spec := "fnMParts", unfollowed := true, recurses := true, apart := false, narrowed := true }
def FnMPartsUptoSaid : Prop := fnMPartsUptoRow.holds Try.pinned (OpenSpec.upto fnMPartsSpec)

/-- 'laws.FnExactMIterMut', WHERE WHAT IT READS IS OF BULK AT MOST 1048576: true; the input reads as it did. -/
def fnExactMIterMutUptoRow : OpenClaim := { program := "ytgmmhpmchibakaa", sum := "0cde9569b2b9d29e9e9659ee096038a047eeb2e4560d2b9f2ed88f0c223a244e", func := "pub-greenwood/laws.FnExactMIterMut", spec := "fnExactMIterMut", unfollowed := true, recurses := true, apart := false, narrowed := true }
def FnExactMIterMutUptoSaid : Prop := fnExactMIterMutUptoRow.holds Try.pinned (OpenSpec.upto fnExactMIterMutSpec)

/-- 'laws.FnExactMDelete', WHERE WHAT IT READS IS OF BULK AT MOST 1048576: true; the input reads as it did. -/
def fnExactMDeleteUptoRow : OpenClaim := { program := "ytgmmhpmchibakaa", sum := "0cde9569b2b9d29e9e9659ee096038a047eeb2e4560d2b9f2ed88f0c223a244e", func := "pub-greenwood/laws.FnExactMDelete", spec := "fnExactMDelete", unfollowed := true, recurses := true, apart := false, narrowed := true }
def FnExactMDeleteUptoSaid : Prop := fnExactMDeleteUptoRow.holds Try.pinned (OpenSpec.upto fnExactMDeleteSpec)

/-- 'laws.FnMSplits', WHERE WHAT IT READS IS OF BULK AT MOST 1048576: true; the input reads as it did. -/
def fnMSplitsUptoRow : OpenClaim := { program := "ytgmmhpmchibakaa", sum := "0cde9569b2b9d29e9e9659ee096038a047eeb2e4560d2b9f2ed88f0c223a244e", func := "pub-greenwood/laws.FnMSplits", spec := "fnMSplits", unfollowed := true, recurses := true, apart := false, narrowed := true }
def FnMSplitsUptoSaid : Prop := fnMSplitsUptoRow.holds Try.pinned (OpenSpec.upto fnMSplitsSpec)

/-- 'laws.FnExactMPops', WHERE WHAT IT READS IS OF BULK AT MOST 1048576: true; the input reads as it did. -/
def fnExactMPopsUptoRow : OpenClaim := { program := "ytgmmhpmchibakaa", sum := "0cde9569b2b9d29e9e9659ee096038a047eeb2e4560d2b9f2ed88f0c223a244e", func := "pub-greenwood/laws.FnExactMPops", spec := "fnExactMPops", unfollowed := true, recurses := true, apart := false, narrowed := true }
def FnExactMPopsUptoSaid : Prop := fnExactMPopsUptoRow.holds Try.pinned (OpenSpec.upto fnExactMPopsSpec)

end Rows
end Go.Proofs.Ytgmmhpmchibakaa
