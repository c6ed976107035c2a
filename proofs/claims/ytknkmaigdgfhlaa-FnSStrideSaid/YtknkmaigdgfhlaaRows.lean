/-
  No cell of these rows narrows 'for every input' (looked for: loops, veiled, ifaces, maps, wideKeys, modest, calm, conditions, laid).
  DERIVED. THE GIVEN ROWS OF THIS SEAT. 11 by the template 'for every input the law returns true; each argument reads behind the call as it read before'; 0 by the template 'total and deterministic' (their statements: YtknkmaigdgfhlaaTotals.lean).
  GIVEN WITH THE SEED: the statements are not yours to turn. If you find one false, say at which input.
  Laid BY PROGRAM, IN A SANDBOX (cutbox-rows.mjs): the forced cells as the released guide's own fill.sh prints them over the translation 09fe5c4b8f7ca6e3… (all of the seat's roots in one cut). By AI agents, Wed Nov 11 2026. No macro, syntax, notation, axiom, sorry.
-/
import Derived.Test.YtknkmaigdgfhlaaChecked
import GoSem.Claim
import GoSem.ClaimJoined
import GoSem.ClaimMapViews
import Derived.JoinedTies
import Derived.KernelRfl
namespace Go.Proofs.Ytknkmaigdgfhlaa
/- THE CELL 'sum', in the pinned program and in every row, IS THE sha256 OF THE DUMP (.gsa) THAT YtknkmaigdgfhlaaProg.lean LOADS. Nothing in Lean hashes anything: it is a label: what it is worth is what the hold of that sum in a sandbox is worth. -/
noncomputable def Try.pinned : Pinned := { name := "ytknkmaigdgfhlaa", sum := "09fe5c4b8f7ca6e3053062688bb5def08b60353d8eef7a492894a9e50981d2e1", checked := Try.checked }
namespace Rows
def none {H : Type} : Left H := { results := [], args := [] }

/-- 'laws.FnExactSMin': WHATEVER THE INPUT: true; the input reads as it did. -/
def fnExactSMinSpec : ChangeSpec := { name := "fnExactSMin", fn := fun _ => fun
  | [d] => { results := [.lit (.bool true)], args := [d] }
  | _ => none }
def fnExactSMinRow : OpenClaim := { program := "ytknkmaigdgfhlaa", sum := "09fe5c4b8f7ca6e3053062688bb5def08b60353d8eef7a492894a9e50981d2e1", func := "pub-greenwood/laws.FnExactSMin", spec := "fnExactSMin", unfollowed := true, recurses := true, apart := false }
def FnExactSMinSaid : Prop := fnExactSMinRow.holds Try.pinned (OpenSpec.ofChange fnExactSMinSpec)

/-- ITS FALSE NEIGHBOUR: 'it returns false'. Refute it at one input. -/
def fnExactSMinWrong : ChangeSpec := { name := "fnExactSMin", fn := fun _ => fun
  | [d] => { results := [.lit (.bool false)], args := [d] }
  | _ => none }
def FnExactSMinWrongFalsely : Prop := fnExactSMinRow.holds Try.pinned (OpenSpec.ofChange fnExactSMinWrong)

/-- 'laws.FnExactSContains': WHATEVER THE INPUT: true; the input reads as it did. -/
def fnExactSContainsSpec : ChangeSpec := { name := "fnExactSContains", fn := fun _ => fun
  | [d1, d2] => { results := [.lit (.bool true)], args := [d1, d2] }
  | _ => none }
def fnExactSContainsRow : OpenClaim := { program := "ytknkmaigdgfhlaa", sum := "09fe5c4b8f7ca6e3053062688bb5def08b60353d8eef7a492894a9e50981d2e1", func := "pub-greenwood/laws.FnExactSContains", spec := "fnExactSContains", unfollowed := true, recurses := true, apart := false }
def FnExactSContainsSaid : Prop := fnExactSContainsRow.holds Try.pinned (OpenSpec.ofChange fnExactSContainsSpec)

/-- ITS FALSE NEIGHBOUR: 'it returns false'. Refute it at one input. -/
def fnExactSContainsWrong : ChangeSpec := { name := "fnExactSContains", fn := fun _ => fun
  | [d1, d2] => { results := [.lit (.bool false)], args := [d1, d2] }
  | _ => none }
def FnExactSContainsWrongFalsely : Prop := fnExactSContainsRow.holds Try.pinned (OpenSpec.ofChange fnExactSContainsWrong)

/-- 'laws.FnExactSScan': WHATEVER THE INPUT: true; the input reads as it did. -/
def fnExactSScanSpec : ChangeSpec := { name := "fnExactSScan", fn := fun _ => fun
  | [d1, d2] => { results := [.lit (.bool true)], args := [d1, d2] }
  | _ => none }
def fnExactSScanRow : OpenClaim := { program := "ytknkmaigdgfhlaa", sum := "09fe5c4b8f7ca6e3053062688bb5def08b60353d8eef7a492894a9e50981d2e1", func := "pub-greenwood/laws.FnExactSScan", spec := "fnExactSScan", unfollowed := true, recurses := true, apart := false }
def FnExactSScanSaid : Prop := fnExactSScanRow.holds Try.pinned (OpenSpec.ofChange fnExactSScanSpec)

/-- ITS FALSE NEIGHBOUR: 'it returns false'. Refute it at one input. -/
def fnExactSScanWrong : ChangeSpec := { name := "fnExactSScan", fn := fun _ => fun
  | [d1, d2] => { results := [.lit (.bool false)], args := [d1, d2] }
  | _ => none }
def FnExactSScanWrongFalsely : Prop := fnExactSScanRow.holds Try.pinned (OpenSpec.ofChange fnExactSScanWrong)

/-- 'laws.FnExactWSet': WHATEVER THE INPUT: true; the input reads as it did. -/
def fnExactWSetSpec : ChangeSpec := { name := "fnExactWSet", fn := fun _ => fun
  | [d1, d2] => { results := [.lit (.bool true)], args := [d1, d2] }
  | _ => none }
def fnExactWSetRow : OpenClaim := { program := "ytknkmaigdgfhlaa", sum := "09fe5c4b8f7ca6e3053062688bb5def08b60353d8eef7a492894a9e50981d2e1", func := "pub-greenwood/laws.FnExactWSet", spec := "fnExactWSet", unfollowed := true, recurses := true, apart := false }
def FnExactWSetSaid : Prop := fnExactWSetRow.holds Try.pinned (OpenSpec.ofChange fnExactWSetSpec)

/-- ITS FALSE NEIGHBOUR: 'it returns false'. Refute it at one input. -/
def fnExactWSetWrong : ChangeSpec := { name := "fnExactWSet", fn := fun _ => fun
  | [d1, d2] => { results := [.lit (.bool false)], args := [d1, d2] }
  | _ => none }
def FnExactWSetWrongFalsely : Prop := fnExactWSetRow.holds Try.pinned (OpenSpec.ofChange fnExactWSetWrong)

/-- 'laws.FnSOrders': WHATEVER THE INPUT: true; the input reads as it did. -/
def fnSOrdersSpec : ChangeSpec := { name := "fnSOrders", fn := fun _ => fun
  | [d1, d2] => { results := [.lit (.bool true)], args := [d1, d2] }
  | _ => none }
def fnSOrdersRow : OpenClaim := { program := "ytknkmaigdgfhlaa", sum := "09fe5c4b8f7ca6e3053062688bb5def08b60353d8eef7a492894a9e50981d2e1", func := "pub-greenwood/laws.FnSOrders", spec := "fnSOrders", unfollowed := true, recurses := true, apart := false }
def FnSOrdersSaid : Prop := fnSOrdersRow.holds Try.pinned (OpenSpec.ofChange fnSOrdersSpec)

/-- ITS FALSE NEIGHBOUR: 'it returns false'. Refute it at one input. -/
def fnSOrdersWrong : ChangeSpec := { name := "fnSOrders", fn := fun _ => fun
  | [d1, d2] => { results := [.lit (.bool false)], args := [d1, d2] }
  | _ => none }
def FnSOrdersWrongFalsely : Prop := fnSOrdersRow.holds Try.pinned (OpenSpec.ofChange fnSOrdersWrong)

/-- 'laws.FnExactWDescend': WHATEVER THE INPUT: true; the input reads as it did. -/
def fnExactWDescendSpec : ChangeSpec := { name := "fnExactWDescend", fn := fun _ => fun
  | [d1, d2, d3, d4] => { results := [.lit (.bool true)], args := [d1, d2, d3, d4] }
  | _ => none }
def fnExactWDescendRow : OpenClaim := { program := "ytknkmaigdgfhlaa", sum := "09fe5c4b8f7ca6e3053062688bb5def08b60353d8eef7a492894a9e50981d2e1", func := "pub-greenwood/laws.FnExactWDescend", spec := "fnExactWDescend", unfollowed := true, recurses := true, apart := false }
def FnExactWDescendSaid : Prop := fnExactWDescendRow.holds Try.pinned (OpenSpec.ofChange fnExactWDescendSpec)

/-- ITS FALSE NEIGHBOUR: 'it returns false'. Refute it at one input. -/
def fnExactWDescendWrong : ChangeSpec := { name := "fnExactWDescend", fn := fun _ => fun
  | [d1, d2, d3, d4] => { results := [.lit (.bool false)], args := [d1, d2, d3, d4] }
  | _ => none }
def FnExactWDescendWrongFalsely : Prop := fnExactWDescendRow.holds Try.pinned (OpenSpec.ofChange fnExactWDescendWrong)

/-- 'laws.FnExactWIter': WHATEVER THE INPUT: true; the input reads as it did. -/
def fnExactWIterSpec : ChangeSpec := { name := "fnExactWIter", fn := fun _ => fun
  | [d1, d2, d3] => { results := [.lit (.bool true)], args := [d1, d2, d3] }
  | _ => none }
def fnExactWIterRow : OpenClaim := { program := "ytknkmaigdgfhlaa", sum := "09fe5c4b8f7ca6e3053062688bb5def08b60353d8eef7a492894a9e50981d2e1", func := "pub-greenwood/laws.FnExactWIter", spec := "fnExactWIter", unfollowed := true, recurses := true, apart := false }
def FnExactWIterSaid : Prop := fnExactWIterRow.holds Try.pinned (OpenSpec.ofChange fnExactWIterSpec)

/-- ITS FALSE NEIGHBOUR: 'it returns false'. Refute it at one input. -/
def fnExactWIterWrong : ChangeSpec := { name := "fnExactWIter", fn := fun _ => fun
  | [d1, d2, d3] => { results := [.lit (.bool false)], args := [d1, d2, d3] }
  | _ => none }
def FnExactWIterWrongFalsely : Prop := fnExactWIterRow.holds Try.pinned (OpenSpec.ofChange fnExactWIterWrong)

/-- 'laws.FnSCopies': WHATEVER THE INPUT: true; the input reads as it did. -/
def fnSCopiesSpec : ChangeSpec := { name := "fnSCopies", fn := fun _ => fun
  | [d1, d2, d3, d4] => { results := [.lit (.bool true)], args := [d1, d2, d3, d4] }
  | _ => none }
def fnSCopiesRow : OpenClaim := { program := "ytknkmaigdgfhlaa", sum := "09fe5c4b8f7ca6e3053062688bb5def08b60353d8eef7a492894a9e50981d2e1", func := "pub-greenwood/laws.FnSCopies", spec := "fnSCopies", unfollowed := true, recurses := true, apart := false }
def FnSCopiesSaid : Prop := fnSCopiesRow.holds Try.pinned (OpenSpec.ofChange fnSCopiesSpec)

/-- ITS FALSE NEIGHBOUR: 'it returns false'. Refute it at one input. -/
def fnSCopiesWrong : ChangeSpec := { name := "fnSCopies", fn := fun _ => fun
  | [d1, d2, d3, d4] => { results := [.lit (.bool false)], args := [d1, d2, d3, d4] }
  | _ => none }
def FnSCopiesWrongFalsely : Prop := fnSCopiesRow.holds Try.pinned (OpenSpec.ofChange fnSCopiesWrong)

/-- 'laws.FnExactSIter': WHATEVER THE INPUT: true; the input reads as it did. -/
def fnExactSIterSpec : ChangeSpec := { name := "fnExactSIter", fn := fun _ => fun
  | [d1, d2] => { results := [.lit (.bool true)], args := [d1, d2] }
  | _ => none }
def fnExactSIterRow : OpenClaim := { program := "ytknkmaigdgfhlaa", sum := "09fe5c4b8f7ca6e3053062688bb5def08b60353d8eef7a492894a9e50981d2e1", func := "pub-greenwood/laws.FnExactSIter", spec := "fnExactSIter", unfollowed := true, recurses := true, apart := false }
def FnExactSIterSaid : Prop := fnExactSIterRow.holds Try.pinned (OpenSpec.ofChange fnExactSIterSpec)

/-- ITS FALSE NEIGHBOUR: 'it returns false'. Refute it at one input. -/
def fnExactSIterWrong : ChangeSpec := { name := "fnExactSIter", fn := fun _ => fun
  | [d1, d2] => { results := [.lit (.bool false)], args := [d1, d2] }
  | _ => none }
def FnExactSIterWrongFalsely : Prop := fnExactSIterRow.holds Try.pinned (OpenSpec.ofChange fnExactSIterWrong)

/-- 'laws.FnWIterates': WHATEVER THE INPUT: true; the input reads as it did. -/
def fnWIteratesSpec : ChangeSpec := { name := "fnWIterates", fn := fun _ => fun
  | [d1, d2] => { results := [.lit (.bool true)], args := [d1, d2] }
  | _ => none }
def fnWIteratesRow : OpenClaim := { program := "ytknkmaigdgfhlaa", sum := "09fe5c4b8f7ca6e3053062688bb5def08b60353d8eef7a492894a9e50981d2e1", func := "pub-greenwood/laws.FnWIterates", spec := "fnWIterates", unfollowed := true, recurses := true, apart := false }
def FnWIteratesSaid : Prop := fnWIteratesRow.holds Try.pinned (OpenSpec.ofChange fnWIteratesSpec)

/-- ITS FALSE NEIGHBOUR: 'it returns false'. Refute it at one input. -/
def fnWIteratesWrong : ChangeSpec := { name := "fnWIterates", fn := fun _ => fun
  | [d1, d2] => { results := [.lit (.bool false)], args := [d1, d2] }
  | _ => none }
def FnWIteratesWrongFalsely : Prop := fnWIteratesRow.holds Try.pinned (OpenSpec.ofChange fnWIteratesWrong)

/-- 'laws.FnSStride': WHATEVER THE INPUT: true; the input reads as it did. -/
def fnSStrideSpec : ChangeSpec := { name := "fnSStride", fn := fun _ => fun
  | [d1, d2, d3] => { results := [.lit (.bool true)], args := [d1, d2, d3] }
  | _ => none }
def fnSStrideRow : OpenClaim := { program := "ytknkmaigdgfhlaa", sum := "09fe5c4b8f7ca6e3053062688bb5def08b60353d8eef7a492894a9e50981d2e1", func := "pub-greenwood/laws.FnSStride", spec := "fnSStride", unfollowed := true, recurses := true, apart := false }
def FnSStrideSaid : Prop := fnSStrideRow.holds Try.pinned (OpenSpec.ofChange fnSStrideSpec)

/-- ITS FALSE NEIGHBOUR: 'it returns false'. Refute it at one input. -/
def fnSStrideWrong : ChangeSpec := { name := "fnSStride", fn := fun _ => fun
  | [d1, d2, d3] => { results := [.lit (.bool false)], args := [d1, d2, d3] }
  | _ => none }
def FnSStrideWrongFalsely : Prop := fnSStrideRow.holds Try.pinned (OpenSpec.ofChange fnSStrideWrong)

/- THE SECOND FORM. 'bulk': how many values and letters a reading holds, each counted each time it is reached (what is shared counts as often as it is met; a slice's spare places count too). A statement '..UptoSaid' is the law's where the arguments, and the package variables that the reading takes, are together of bulk at most 1048576: NARROWER than '..Said'. Prove '..Said' where nothing that the law and all that it calls make is longer than what came in: it says more and counts as full. Else prove '..UptoSaid'. A law counts once. -/
mutual
def uptoBulk {H : Type} : DataW H → Nat
  | .lit (.string bytes) => bytes.length + 1
  | .lit _ => 1
  | .nil => 1
  | .ptr d => uptoBulk d + 1
  | .slice elems spare => uptoBulkAll elems + uptoBulkAll spare + 1
  | .agg parts => uptoBulkAll parts + 1
  | .iface _ d => uptoBulk d + 1
  | .map entries => uptoBulkEntries entries + 1
  | .held _ => 1
def uptoBulkAll {H : Type} : List (DataW H) → Nat
  | [] => 0
  | d :: r => uptoBulk d + uptoBulkAll r
def uptoBulkEntries {H : Type} : List (Lit × DataW H) → Nat
  | [] => 0
  | x :: r => uptoBulkEntry x + uptoBulkEntries r
def uptoBulkEntry {H : Type} : Lit × DataW H → Nat
  | (.string bytes, d) => bytes.length + uptoBulk d + 1
  | (_, d) => uptoBulk d + 1
 end
def uptoSmall : (H : Type) → List (DataW H) → Bool := fun _ ds => decide (uptoBulkAll ds ≤ 1048576)
def OpenSpec.upto (s : _root_.Go.ChangeSpec) : _root_.Go.OpenSpec := { _root_.Go.OpenSpec.ofChange s with cond := some uptoSmall }

/-- 'laws.FnExactSMin', WHERE WHAT IT READS IS OF BULK AT MOST 1048576: true; the input reads as it did. -/
def fnExactSMinUptoRow : OpenClaim := { program := "ytknkmaigdgfhlaa", sum := "09fe5c4b8f7ca6e3053062688bb5def08b60353d8eef7a492894a9e50981d2e1", func := "pub-greenwood/laws.FnExactSMin", spec := "fnExactSMin", unfollowed := true, recurses := true, apart := false, narrowed := true }
def FnExactSMinUptoSaid : Prop := fnExactSMinUptoRow.holds Try.pinned (OpenSpec.upto fnExactSMinSpec)

/-- 'laws.FnExactSContains', WHERE WHAT IT READS IS OF BULK AT MOST 1048576: true; the input reads as it did. -/
def fnExactSContainsUptoRow : OpenClaim := { program := "ytknkmaigdgfhlaa", sum := "09fe5c4b8f7ca6e3053062688bb5def08b60353d8eef7a492894a9e50981d2e1", func := "pub-greenwood/laws.FnExactSContains", spec := "fnExactSContains", unfollowed := true, recurses := true, apart := false, narrowed := true }
def FnExactSContainsUptoSaid : Prop := fnExactSContainsUptoRow.holds Try.pinned (OpenSpec.upto fnExactSContainsSpec)

/-- 'laws.FnExactSScan', WHERE WHAT IT READS IS OF BULK AT MOST 1048576: true; the input reads as it did. -/
def fnExactSScanUptoRow : OpenClaim := { program := "ytknkmaigdgfhlaa", sum := "09fe5c4b8f7ca6e3053062688bb5def08b60353d8eef7a492894a9e50981d2e1", func := "pub-greenwood/laws.FnExactSScan", spec := "fnExactSScan", unfollowed := true, recurses := true, apart := false, narrowed := true }
def FnExactSScanUptoSaid : Prop := fnExactSScanUptoRow.holds Try.pinned (OpenSpec.upto fnExactSScanSpec)

/-- 'laws.FnExactWSet', WHERE WHAT IT READS IS OF BULK AT MOST 1048576: true; the input reads as it did. -/
def fnExactWSetUptoRow : OpenClaim := { program := "ytknkmaigdgfhlaa", sum := "09fe5c4b8f7ca6e3053062688bb5def08b60353d8eef7a492894a9e50981d2e1", func := "pub-greenwood/laws.FnExactWSet", spec := "fnExactWSet", unfollowed := true, recurses := true, apart := false, narrowed := true }
def FnExactWSetUptoSaid : Prop := fnExactWSetUptoRow.holds Try.pinned (OpenSpec.upto fnExactWSetSpec)

/-- 'laws.FnSOrders', WHERE WHAT IT READS IS OF BULK AT MOST 1048576: true; the input reads as it did. -/
def fnSOrdersUptoRow : OpenClaim := { program := "ytknkmaigdgfhlaa", sum := "09fe5c4b8f7ca6e3053062688bb5def08b60353d8eef7a492894a9e50981d2e1", func := "pub-greenwood/laws.FnSOrders", spec := "fnSOrders", unfollowed := true, recurses := true, apart := false, narrowed := true }
def FnSOrdersUptoSaid : Prop := fnSOrdersUptoRow.holds Try.pinned (OpenSpec.upto fnSOrdersSpec)

/-- 'laws.FnExactWDescend', WHERE WHAT IT READS IS OF BULK AT MOST 1048576: true; the input reads as it did. -/
def fnExactWDescendUptoRow : OpenClaim := { program := "ytknkmaigdgfhlaa", sum := "09fe5c4b8f7ca6e3053062688bb5def08b60353d8eef7a492894a9e50981d2e1", func := "pub-greenwood/laws.FnExactWDescend", spec := "fnExactWDescend", unfollowed := true, recurses := true, apart := false, narrowed := true }
def FnExactWDescendUptoSaid : Prop := fnExactWDescendUptoRow.holds Try.pinned (OpenSpec.upto fnExactWDescendSpec)

/-- 'laws.FnExactWIter', WHERE WHAT IT READS IS OF BULK AT MOST 1048576: true; the input reads as it did. -/
def fnExactWIterUptoRow : OpenClaim := { program := "ytknkmaigdgfhlaa", sum := "09fe5c4b8f7ca6e3053062688bb5def08b60353d8eef7a492894a9e50981d2e1", func := "pub-greenwood/laws.FnExactWIter", spec := "fnExactWIter", unfollowed := true, recurses := true, apart := false, narrowed := true }
def FnExactWIterUptoSaid : Prop := fnExactWIterUptoRow.holds Try.pinned (OpenSpec.upto fnExactWIterSpec)

/-- 'laws.FnSCopies', WHERE WHAT IT READS IS OF BULK AT MOST 1048576: true; the input reads as it did. -/
def fnSCopiesUptoRow : OpenClaim := { program := "ytknkmaigdgfhlaa", sum := "09fe5c4b8f7ca6e3053062688bb5def08b60353d8eef7a492894a9e50981d2e1", func := "pub-greenwood/laws.FnSCopies", spec := "fnSCopies", unfollowed := true, recurses := true, apart := false, narrowed := true }
def FnSCopiesUptoSaid : Prop := fnSCopiesUptoRow.holds Try.pinned (OpenSpec.upto fnSCopiesSpec)

/-- 'laws.FnExactSIter', WHERE WHAT IT READS IS OF BULK AT MOST 1048576: true; the input reads as it did. -/
def fnExactSIterUptoRow : OpenClaim := { program := "ytknkmaigdgfhlaa", sum := "09fe5c4b8f7ca6e3053062688bb5def08b60353d8eef7a492894a9e50981d2e1", func := "pub-greenwood/laws.FnExactSIter", spec := "fnExactSIter", unfollowed := true, recurses := true, apart := false, narrowed := true }
def FnExactSIterUptoSaid : Prop := fnExactSIterUptoRow.holds Try.pinned (OpenSpec.upto fnExactSIterSpec)

/-- 'laws.FnWIterates', WHERE WHAT IT READS IS OF BULK AT MOST 1048576: true; the input reads as it did. -/
def fnWIteratesUptoRow : OpenClaim := { program := "ytknkmaigdgfhlaa", sum := "09fe5c4b8f7ca6e3053062688bb5def08b60353d8eef7a492894a9e50981d2e1", func := "pub-greenwood/laws.FnWIterates", spec := "fnWIterates", unfollowed := true, recurses := true, apart := false, narrowed := true }
def FnWIteratesUptoSaid : Prop := fnWIteratesUptoRow.holds Try.pinned (OpenSpec.upto fnWIteratesSpec)

/-- 'laws.FnSStride', WHERE WHAT IT READS IS OF BULK AT MOST 1048576: true; the input reads as it did. -/
def fnSStrideUptoRow : OpenClaim := { program := "ytknkmaigdgfhlaa", sum := "09fe5c4b8f7ca6e3053062688bb5def08b60353d8eef7a492894a9e50981d2e1", func := "pub-greenwood/laws.FnSStride", spec := "fnSStride", unfollowed := true, recurses := true, apart := false, narrowed := true }
def FnSStrideUptoSaid : Prop := fnSStrideUptoRow.holds Try.pinned (OpenSpec.upto fnSStrideSpec)

end Rows
end Go.Proofs.Ytknkmaigdgfhlaa
