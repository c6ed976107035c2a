/-
  No cell of these rows narrows 'for every input' (looked for: loops, veiled, ifaces, maps, wideKeys, modest, calm, conditions, laid).
  DERIVED. THE GIVEN ROWS OF THIS SEAT. 20 by the template 'for every input the law returns true; each argument reads behind the call as it read before'; 0 by the template 'total and deterministic' (their statements: YtmboghgpakhceaaTotals.lean).
  GIVEN WITH THE SEED: the statements are not yours to turn. If you find one false, say at which input.
  Laid BY PROGRAM, IN A SANDBOX (cutbox-rows.mjs): the forced cells as the released guide's own fill.sh prints them over the translation 5375cd5a1f699ca2… (all of the seat's roots in one cut). By AI agents, Wed Nov 11 2026. No macro, syntax, notation, axiom, sorry.
-/
import Derived.Test.YtmboghgpakhceaaChecked
import GoSem.Claim
import GoSem.ClaimJoined
import GoSem.ClaimMapViews
import Derived.JoinedTies
import Derived.KernelRfl
namespace Go.Proofs.Ytmboghgpakhceaa
/- THE CELL 'sum', in the pinned program and in every row, IS THE sha256 OF THE DUMP (.gsa) THAT YtmboghgpakhceaaProg.lean LOADS. Nothing in Lean hashes anything: it is a label: what it is worth is what the hold of that sum in a sandbox is worth. -/
noncomputable def Try.pinned : Pinned := { name := "ytmboghgpakhceaa", sum := "5375cd5a1f699ca2e7f1f3040fe644e519e094aa5f647f6e85de95c0a5bac156", checked := Try.checked }
namespace Rows
def none {H : Type} : Left H := { results := [], args := [] }

/-- 'laws.FnGRangeAscends': WHATEVER THE INPUT: true; the input reads as it did. -/
def fnGRangeAscendsSpec : ChangeSpec := { name := "fnGRangeAscends", fn := fun _ => fun
  | [d1, d2, d3, d4] => { results := [.lit (.bool true)], args := [d1, d2, d3, d4] }
  | _ => none }
def fnGRangeAscendsRow : OpenClaim := { program := "ytmboghgpakhceaa", sum := "5375cd5a1f699ca2e7f1f3040fe644e519e094aa5f647f6e85de95c0a5bac156", func := "pub-greenwood/laws.FnGRangeAscends", spec := "fnGRangeAscends", unfollowed := true, recurses := true, apart := false }
def FnGRangeAscendsSaid : Prop := fnGRangeAscendsRow.holds Try.pinned (OpenSpec.ofChange fnGRangeAscendsSpec)

/-- ITS FALSE NEIGHBOUR: 'it returns false'. Refute it at one input. -/
def fnGRangeAscendsWrong : ChangeSpec := { name := "fnGRangeAscends", fn := fun _ => fun
  | [d1, d2, d3, d4] => { results := [.lit (.bool false)], args := [d1, d2, d3, d4] }
  | _ => none }
def FnGRangeAscendsWrongFalsely : Prop := fnGRangeAscendsRow.holds Try.pinned (OpenSpec.ofChange fnGRangeAscendsWrong)

/-- 'laws.FnGLessOrders': WHATEVER THE INPUT: true; the input reads as it did. -/
def fnGLessOrdersSpec : ChangeSpec := { name := "fnGLessOrders", fn := fun _ => fun
  | [d1, d2, d3, d4] => { results := [.lit (.bool true)], args := [d1, d2, d3, d4] }
  | _ => none }
def fnGLessOrdersRow : OpenClaim := { program := "ytmboghgpakhceaa", sum := "5375cd5a1f699ca2e7f1f3040fe644e519e094aa5f647f6e85de95c0a5bac156", func := "pub-greenwood/laws.FnGLessOrders", spec := "fnGLessOrders", unfollowed := true, recurses := true, apart := false }
def FnGLessOrdersSaid : Prop := fnGLessOrdersRow.holds Try.pinned (OpenSpec.ofChange fnGLessOrdersSpec)

/-- ITS FALSE NEIGHBOUR: 'it returns false'. Refute it at one input. -/
def fnGLessOrdersWrong : ChangeSpec := { name := "fnGLessOrders", fn := fun _ => fun
  | [d1, d2, d3, d4] => { results := [.lit (.bool false)], args := [d1, d2, d3, d4] }
  | _ => none }
def FnGLessOrdersWrongFalsely : Prop := fnGLessOrdersRow.holds Try.pinned (OpenSpec.ofChange fnGLessOrdersWrong)

/-- 'laws.FnExactGLen': WHATEVER THE INPUT: true; the input reads as it did. -/
def fnExactGLenSpec : ChangeSpec := { name := "fnExactGLen", fn := fun _ => fun
  | [d1, d2] => { results := [.lit (.bool true)], args := [d1, d2] }
  | _ => none }
def fnExactGLenRow : OpenClaim := { program := "ytmboghgpakhceaa", sum := "5375cd5a1f699ca2e7f1f3040fe644e519e094aa5f647f6e85de95c0a5bac156", func := "pub-greenwood/laws.FnExactGLen", spec := "fnExactGLen", unfollowed := true, recurses := true, apart := false }
def FnExactGLenSaid : Prop := fnExactGLenRow.holds Try.pinned (OpenSpec.ofChange fnExactGLenSpec)

/-- ITS FALSE NEIGHBOUR: 'it returns false'. Refute it at one input. -/
def fnExactGLenWrong : ChangeSpec := { name := "fnExactGLen", fn := fun _ => fun
  | [d1, d2] => { results := [.lit (.bool false)], args := [d1, d2] }
  | _ => none }
def FnExactGLenWrongFalsely : Prop := fnExactGLenRow.holds Try.pinned (OpenSpec.ofChange fnExactGLenWrong)

/-- 'laws.FnExactGMax': WHATEVER THE INPUT: true; the input reads as it did. -/
def fnExactGMaxSpec : ChangeSpec := { name := "fnExactGMax", fn := fun _ => fun
  | [d1, d2] => { results := [.lit (.bool true)], args := [d1, d2] }
  | _ => none }
def fnExactGMaxRow : OpenClaim := { program := "ytmboghgpakhceaa", sum := "5375cd5a1f699ca2e7f1f3040fe644e519e094aa5f647f6e85de95c0a5bac156", func := "pub-greenwood/laws.FnExactGMax", spec := "fnExactGMax", unfollowed := true, recurses := true, apart := false }
def FnExactGMaxSaid : Prop := fnExactGMaxRow.holds Try.pinned (OpenSpec.ofChange fnExactGMaxSpec)

/-- ITS FALSE NEIGHBOUR: 'it returns false'. Refute it at one input. -/
def fnExactGMaxWrong : ChangeSpec := { name := "fnExactGMax", fn := fun _ => fun
  | [d1, d2] => { results := [.lit (.bool false)], args := [d1, d2] }
  | _ => none }
def FnExactGMaxWrongFalsely : Prop := fnExactGMaxRow.holds Try.pinned (OpenSpec.ofChange fnExactGMaxWrong)

/-- 'laws.FnExactGGetAt': WHATEVER THE INPUT: true; the input reads as it did. -/
def fnExactGGetAtSpec : ChangeSpec := { name := "fnExactGGetAt", fn := fun _ => fun
  | [d1, d2, d3] => { results := [.lit (.bool true)], args := [d1, d2, d3] }
  | _ => none }
def fnExactGGetAtRow : OpenClaim := { program := "ytmboghgpakhceaa", sum := "5375cd5a1f699ca2e7f1f3040fe644e519e094aa5f647f6e85de95c0a5bac156", func := "pub-greenwood/laws.FnExactGGetAt", spec := "fnExactGGetAt", unfollowed := true, recurses := true, apart := false }
def FnExactGGetAtSaid : Prop := fnExactGGetAtRow.holds Try.pinned (OpenSpec.ofChange fnExactGGetAtSpec)

/-- ITS FALSE NEIGHBOUR: 'it returns false'. Refute it at one input. -/
def fnExactGGetAtWrong : ChangeSpec := { name := "fnExactGGetAt", fn := fun _ => fun
  | [d1, d2, d3] => { results := [.lit (.bool false)], args := [d1, d2, d3] }
  | _ => none }
def FnExactGGetAtWrongFalsely : Prop := fnExactGGetAtRow.holds Try.pinned (OpenSpec.ofChange fnExactGGetAtWrong)

/-- 'laws.FnExactGSetHint': WHATEVER THE INPUT: true; the input reads as it did. -/
def fnExactGSetHintSpec : ChangeSpec := { name := "fnExactGSetHint", fn := fun _ => fun
  | [d1, d2] => { results := [.lit (.bool true)], args := [d1, d2] }
  | _ => none }
def fnExactGSetHintRow : OpenClaim := { program := "ytmboghgpakhceaa", sum := "5375cd5a1f699ca2e7f1f3040fe644e519e094aa5f647f6e85de95c0a5bac156", func := "pub-greenwood/laws.FnExactGSetHint", spec := "fnExactGSetHint", unfollowed := true, recurses := true, apart := false }
def FnExactGSetHintSaid : Prop := fnExactGSetHintRow.holds Try.pinned (OpenSpec.ofChange fnExactGSetHintSpec)

/-- ITS FALSE NEIGHBOUR: 'it returns false'. Refute it at one input. -/
def fnExactGSetHintWrong : ChangeSpec := { name := "fnExactGSetHint", fn := fun _ => fun
  | [d1, d2] => { results := [.lit (.bool false)], args := [d1, d2] }
  | _ => none }
def FnExactGSetHintWrongFalsely : Prop := fnExactGSetHintRow.holds Try.pinned (OpenSpec.ofChange fnExactGSetHintWrong)

/-- 'laws.FnExactGNew': WHATEVER THE INPUT: true; the input reads as it did. -/
def fnExactGNewSpec : ChangeSpec := { name := "fnExactGNew", fn := fun _ => fun
  | [d1, d2, d3] => { results := [.lit (.bool true)], args := [d1, d2, d3] }
  | _ => none }
def fnExactGNewRow : OpenClaim := { program := "ytmboghgpakhceaa", sum := "5375cd5a1f699ca2e7f1f3040fe644e519e094aa5f647f6e85de95c0a5bac156", func := "pub-greenwood/laws.FnExactGNew", spec := "fnExactGNew", unfollowed := true, recurses := true, apart := false }
def FnExactGNewSaid : Prop := fnExactGNewRow.holds Try.pinned (OpenSpec.ofChange fnExactGNewSpec)

/-- ITS FALSE NEIGHBOUR: 'it returns false'. Refute it at one input. -/
def fnExactGNewWrong : ChangeSpec := { name := "fnExactGNew", fn := fun _ => fun
  | [d1, d2, d3] => { results := [.lit (.bool false)], args := [d1, d2, d3] }
  | _ => none }
def FnExactGNewWrongFalsely : Prop := fnExactGNewRow.holds Try.pinned (OpenSpec.ofChange fnExactGNewWrong)

/-- 'laws.FnExactGGetHint': WHATEVER THE INPUT: true; the input reads as it did. -/
def fnExactGGetHintSpec : ChangeSpec := { name := "fnExactGGetHint", fn := fun _ => fun
  | [d1, d2, d3] => { results := [.lit (.bool true)], args := [d1, d2, d3] }
  | _ => none }
def fnExactGGetHintRow : OpenClaim := { program := "ytmboghgpakhceaa", sum := "5375cd5a1f699ca2e7f1f3040fe644e519e094aa5f647f6e85de95c0a5bac156", func := "pub-greenwood/laws.FnExactGGetHint", spec := "fnExactGGetHint", unfollowed := true, recurses := true, apart := false }
def FnExactGGetHintSaid : Prop := fnExactGGetHintRow.holds Try.pinned (OpenSpec.ofChange fnExactGGetHintSpec)

/-- ITS FALSE NEIGHBOUR: 'it returns false'. Refute it at one input. -/
def fnExactGGetHintWrong : ChangeSpec := { name := "fnExactGGetHint", fn := fun _ => fun
  | [d1, d2, d3] => { results := [.lit (.bool false)], args := [d1, d2, d3] }
  | _ => none }
def FnExactGGetHintWrongFalsely : Prop := fnExactGGetHintRow.holds Try.pinned (OpenSpec.ofChange fnExactGGetHintWrong)

/-- 'laws.FnExactGReverse': WHATEVER THE INPUT: true; the input reads as it did. -/
def fnExactGReverseSpec : ChangeSpec := { name := "fnExactGReverse", fn := fun _ => fun
  | [d1, d2, d3] => { results := [.lit (.bool true)], args := [d1, d2, d3] }
  | _ => none }
def fnExactGReverseRow : OpenClaim := { program := "ytmboghgpakhceaa", sum := "5375cd5a1f699ca2e7f1f3040fe644e519e094aa5f647f6e85de95c0a5bac156", func := "pub-greenwood/laws.FnExactGReverse", spec := "fnExactGReverse", unfollowed := true, recurses := true, apart := false }
def FnExactGReverseSaid : Prop := fnExactGReverseRow.holds Try.pinned (OpenSpec.ofChange fnExactGReverseSpec)

/-- ITS FALSE NEIGHBOUR: 'it returns false'. Refute it at one input. -/
def fnExactGReverseWrong : ChangeSpec := { name := "fnExactGReverse", fn := fun _ => fun
  | [d1, d2, d3] => { results := [.lit (.bool false)], args := [d1, d2, d3] }
  | _ => none }
def FnExactGReverseWrongFalsely : Prop := fnExactGReverseRow.holds Try.pinned (OpenSpec.ofChange fnExactGReverseWrong)

/-- 'laws.FnGOrders': WHATEVER THE INPUT: true; the input reads as it did. -/
def fnGOrdersSpec : ChangeSpec := { name := "fnGOrders", fn := fun _ => fun
  | [d1, d2, d3] => { results := [.lit (.bool true)], args := [d1, d2, d3] }
  | _ => none }
def fnGOrdersRow : OpenClaim := { program := "ytmboghgpakhceaa", sum := "5375cd5a1f699ca2e7f1f3040fe644e519e094aa5f647f6e85de95c0a5bac156", func := "pub-greenwood/laws.FnGOrders", spec := "fnGOrders", unfollowed := true, recurses := true, apart := false }
def FnGOrdersSaid : Prop := fnGOrdersRow.holds Try.pinned (OpenSpec.ofChange fnGOrdersSpec)

/-- ITS FALSE NEIGHBOUR: 'it returns false'. Refute it at one input. -/
def fnGOrdersWrong : ChangeSpec := { name := "fnGOrders", fn := fun _ => fun
  | [d1, d2, d3] => { results := [.lit (.bool false)], args := [d1, d2, d3] }
  | _ => none }
def FnGOrdersWrongFalsely : Prop := fnGOrdersRow.holds Try.pinned (OpenSpec.ofChange fnGOrdersWrong)

/-- 'laws.FnExactGDescend': WHATEVER THE INPUT: true; the input reads as it did. -/
def fnExactGDescendSpec : ChangeSpec := { name := "fnExactGDescend", fn := fun _ => fun
  | [d1, d2, d3, d4] => { results := [.lit (.bool true)], args := [d1, d2, d3, d4] }
  | _ => none }
def fnExactGDescendRow : OpenClaim := { program := "ytmboghgpakhceaa", sum := "5375cd5a1f699ca2e7f1f3040fe644e519e094aa5f647f6e85de95c0a5bac156", func := "pub-greenwood/laws.FnExactGDescend", spec := "fnExactGDescend", unfollowed := true, recurses := true, apart := false }
def FnExactGDescendSaid : Prop := fnExactGDescendRow.holds Try.pinned (OpenSpec.ofChange fnExactGDescendSpec)

/-- ITS FALSE NEIGHBOUR: 'it returns false'. Refute it at one input. -/
def fnExactGDescendWrong : ChangeSpec := { name := "fnExactGDescend", fn := fun _ => fun
  | [d1, d2, d3, d4] => { results := [.lit (.bool false)], args := [d1, d2, d3, d4] }
  | _ => none }
def FnExactGDescendWrongFalsely : Prop := fnExactGDescendRow.holds Try.pinned (OpenSpec.ofChange fnExactGDescendWrong)

/-- 'laws.FnExactGDescendHint': WHATEVER THE INPUT: true; the input reads as it did. -/
def fnExactGDescendHintSpec : ChangeSpec := { name := "fnExactGDescendHint", fn := fun _ => fun
  | [d1, d2, d3, d4] => { results := [.lit (.bool true)], args := [d1, d2, d3, d4] }
  | _ => none }
def fnExactGDescendHintRow : OpenClaim := { program := "ytmboghgpakhceaa", sum := "5375cd5a1f699ca2e7f1f3040fe644e519e094aa5f647f6e85de95c0a5bac156", func := "pub-greenwood/laws.FnExactGDescendHint", spec := "fnExactGDescendHint", unfollowed := true, recurses := true, apart := false }
def FnExactGDescendHintSaid : Prop := fnExactGDescendHintRow.holds Try.pinned (OpenSpec.ofChange fnExactGDescendHintSpec)

/-- ITS FALSE NEIGHBOUR: 'it returns false'. Refute it at one input. -/
def fnExactGDescendHintWrong : ChangeSpec := { name := "fnExactGDescendHint", fn := fun _ => fun
  | [d1, d2, d3, d4] => { results := [.lit (.bool false)], args := [d1, d2, d3, d4] }
  | _ => none }
def FnExactGDescendHintWrongFalsely : Prop := fnExactGDescendHintRow.holds Try.pinned (OpenSpec.ofChange fnExactGDescendHintWrong)

/-- 'laws.FnGWalks': WHATEVER THE INPUT: true; the input reads as it did. -/
def fnGWalksSpec : ChangeSpec := { name := "fnGWalks", fn := fun _ => fun
  | [d1, d2, d3] => { results := [.lit (.bool true)], args := [d1, d2, d3] }
  | _ => none }
def fnGWalksRow : OpenClaim := { program := "ytmboghgpakhceaa", sum := "5375cd5a1f699ca2e7f1f3040fe644e519e094aa5f647f6e85de95c0a5bac156", func := "pub-greenwood/laws.FnGWalks", spec := "fnGWalks", unfollowed := true, recurses := true, apart := false }
def FnGWalksSaid : Prop := fnGWalksRow.holds Try.pinned (OpenSpec.ofChange fnGWalksSpec)

/-- ITS FALSE NEIGHBOUR: 'it returns false'. Refute it at one input. -/
def fnGWalksWrong : ChangeSpec := { name := "fnGWalks", fn := fun _ => fun
  | [d1, d2, d3] => { results := [.lit (.bool false)], args := [d1, d2, d3] }
  | _ => none }
def FnGWalksWrongFalsely : Prop := fnGWalksRow.holds Try.pinned (OpenSpec.ofChange fnGWalksWrong)

/-- 'laws.FnGSieve': WHATEVER THE INPUT: true; the input reads as it did. -/
def fnGSieveSpec : ChangeSpec := { name := "fnGSieve", fn := fun _ => fun
  | [d1, d2, d3, d4] => { results := [.lit (.bool true)], args := [d1, d2, d3, d4] }
  | _ => none }
def fnGSieveRow : OpenClaim := { program := "ytmboghgpakhceaa", sum := "5375cd5a1f699ca2e7f1f3040fe644e519e094aa5f647f6e85de95c0a5bac156", func := "pub-greenwood/laws.FnGSieve", spec := "fnGSieve", unfollowed := true, recurses := true, apart := false }
def FnGSieveSaid : Prop := fnGSieveRow.holds Try.pinned (OpenSpec.ofChange fnGSieveSpec)

/-- ITS FALSE NEIGHBOUR: 'it returns false'. Refute it at one input. -/
def fnGSieveWrong : ChangeSpec := { name := "fnGSieve", fn := fun _ => fun
  | [d1, d2, d3, d4] => { results := [.lit (.bool false)], args := [d1, d2, d3, d4] }
  | _ => none }
def FnGSieveWrongFalsely : Prop := fnGSieveRow.holds Try.pinned (OpenSpec.ofChange fnGSieveWrong)

/-- 'laws.FnGScans': WHATEVER THE INPUT: true; the input reads as it did. -/
def fnGScansSpec : ChangeSpec := { name := "fnGScans", fn := fun _ => fun
  | [d1, d2] => { results := [.lit (.bool true)], args := [d1, d2] }
  | _ => none }
def fnGScansRow : OpenClaim := { program := "ytmboghgpakhceaa", sum := "5375cd5a1f699ca2e7f1f3040fe644e519e094aa5f647f6e85de95c0a5bac156", func := "pub-greenwood/laws.FnGScans", spec := "fnGScans", unfollowed := true, recurses := true, apart := false }
def FnGScansSaid : Prop := fnGScansRow.holds Try.pinned (OpenSpec.ofChange fnGScansSpec)

/-- ITS FALSE NEIGHBOUR: 'it returns false'. Refute it at one input. -/
def fnGScansWrong : ChangeSpec := { name := "fnGScans", fn := fun _ => fun
  | [d1, d2] => { results := [.lit (.bool false)], args := [d1, d2] }
  | _ => none }
def FnGScansWrongFalsely : Prop := fnGScansRow.holds Try.pinned (OpenSpec.ofChange fnGScansWrong)

/-- 'laws.FnExactGIterMut': WHATEVER THE INPUT: true; the input reads as it did. -/
def fnExactGIterMutSpec : ChangeSpec := { name := "fnExactGIterMut", fn := fun _ => fun
  | [d1, d2, d3] => { results := [.lit (.bool true)], args := [d1, d2, d3] }
  | _ => none }
def fnExactGIterMutRow : OpenClaim := { program := "ytmboghgpakhceaa", sum := "5375cd5a1f699ca2e7f1f3040fe644e519e094aa5f647f6e85de95c0a5bac156", func := "pub-greenwood/laws.FnExactGIterMut", spec := "fnExactGIterMut", unfollowed := true, recurses := true, apart := false }
def FnExactGIterMutSaid : Prop := fnExactGIterMutRow.holds Try.pinned (OpenSpec.ofChange fnExactGIterMutSpec)

/-- ITS FALSE NEIGHBOUR: 'it returns false'. Refute it at one input. -/
def fnExactGIterMutWrong : ChangeSpec := { name := "fnExactGIterMut", fn := fun _ => fun
  | [d1, d2, d3] => { results := [.lit (.bool false)], args := [d1, d2, d3] }
  | _ => none }
def FnExactGIterMutWrongFalsely : Prop := fnExactGIterMutRow.holds Try.pinned (OpenSpec.ofChange fnExactGIterMutWrong)

/-- 'laws.FnGPopAll': WHATEVER THE INPUT: true; the input reads as it did. -/
def fnGPopAllSpec : ChangeSpec := { name := "fnGPopAll", fn := fun _ => fun
  | [d1, d2, d3] => { results := [.lit (.bool true)], args := [d1, d2, d3] }
  | _ => none }
def fnGPopAllRow : OpenClaim := { program := "ytmboghgpakhceaa", sum := "5375cd5a1f699ca2e7f1f3040fe644e519e094aa5f647f6e85de95c0a5bac156", func := "pub-greenwood/laws.FnGPopAll", spec := "fnGPopAll", unfollowed := true, recurses := true, apart := false }
def FnGPopAllSaid : Prop := fnGPopAllRow.holds Try.pinned (OpenSpec.ofChange fnGPopAllSpec)

/-- ITS FALSE NEIGHBOUR: 'it returns false'. Refute it at one input. -/
def fnGPopAllWrong : ChangeSpec := { name := "fnGPopAll", fn := fun _ => fun
  | [d1, d2, d3] => { results := [.lit (.bool false)], args := [d1, d2, d3] }
  | _ => none }
def FnGPopAllWrongFalsely : Prop := fnGPopAllRow.holds Try.pinned (OpenSpec.ofChange fnGPopAllWrong)

/-- 'laws.FnGIterates': WHATEVER THE INPUT: true; the input reads as it did. -/
def fnGIteratesSpec : ChangeSpec := { name := "fnGIterates", fn := fun _ => fun
  | [d1, d2, d3] => { results := [.lit (.bool true)], args := [d1, d2, d3] }
  | _ => none }
def fnGIteratesRow : OpenClaim := { program := "ytmboghgpakhceaa", sum := "5375cd5a1f699ca2e7f1f3040fe644e519e094aa5f647f6e85de95c0a5bac156", func := "pub-greenwood/laws.FnGIterates", spec := "fnGIterates", unfollowed := true, recurses := true, apart := false }
def FnGIteratesSaid : Prop := fnGIteratesRow.holds Try.pinned (OpenSpec.ofChange fnGIteratesSpec)

/-- ITS FALSE NEIGHBOUR: 'it returns false'. Refute it at one input. -/
def fnGIteratesWrong : ChangeSpec := { name := "fnGIterates", fn := fun _ => fun
  | [d1, d2, d3] => { results := [.lit (.bool false)], args := [d1, d2, d3] }
  | _ => none }
def FnGIteratesWrongFalsely : Prop := fnGIteratesRow.holds Try.pinned (OpenSpec.ofChange fnGIteratesWrong)

/-- 'laws.FnExactGDeleteRange': WHATEVER THE INPUT: true; the input reads as it did. -/
def fnExactGDeleteRangeSpec : ChangeSpec := { name := "fnExactGDeleteRange", fn := fun _ => fun
  | [d1, d2, d3, d4, d5] => { results := [.lit (.bool true)], args := [d1, d2, d3, d4, d5] }
  | _ => none }
def fnExactGDeleteRangeRow : OpenClaim := { program := "ytmboghgpakhceaa", sum := "5375cd5a1f699ca2e7f1f3040fe644e519e094aa5f647f6e85de95c0a5bac156", func := "pub-greenwood/laws.FnExactGDeleteRange", spec := "fnExactGDeleteRange", unfollowed := true, recurses := true, apart := false }
def FnExactGDeleteRangeSaid : Prop := fnExactGDeleteRangeRow.holds Try.pinned (OpenSpec.ofChange fnExactGDeleteRangeSpec)

/-- ITS FALSE NEIGHBOUR: 'it returns false'. Refute it at one input. -/
def fnExactGDeleteRangeWrong : ChangeSpec := { name := "fnExactGDeleteRange", fn := fun _ => fun
  | [d1, d2, d3, d4, d5] => { results := [.lit (.bool false)], args := [d1, d2, d3, d4, d5] }
  | _ => none }
def FnExactGDeleteRangeWrongFalsely : Prop := fnExactGDeleteRangeRow.holds Try.pinned (OpenSpec.ofChange fnExactGDeleteRangeWrong)

/-- 'laws.FnGRangeRestores': WHATEVER THE INPUT: true; the input reads as it did. -/
def fnGRangeRestoresSpec : ChangeSpec := { name := "fnGRangeRestores", fn := fun _ => fun
  | [d1, d2, d3, d4, d5] => { results := [.lit (.bool true)], args := [d1, d2, d3, d4, d5] }
  | _ => none }
def fnGRangeRestoresRow : OpenClaim := { program := "ytmboghgpakhceaa", sum := "5375cd5a1f699ca2e7f1f3040fe644e519e094aa5f647f6e85de95c0a5bac156", func := "pub-greenwood/laws.FnGRangeRestores", spec := "fnGRangeRestores", unfollowed := true, recurses := true, apart := false }
def FnGRangeRestoresSaid : Prop := fnGRangeRestoresRow.holds Try.pinned (OpenSpec.ofChange fnGRangeRestoresSpec)

/-- ITS FALSE NEIGHBOUR: 'it returns false'. Refute it at one input. -/
def fnGRangeRestoresWrong : ChangeSpec := { name := "fnGRangeRestores", fn := fun _ => fun
  | [d1, d2, d3, d4, d5] => { results := [.lit (.bool false)], args := [d1, d2, d3, d4, d5] }
  | _ => none }
def FnGRangeRestoresWrongFalsely : Prop := fnGRangeRestoresRow.holds Try.pinned (OpenSpec.ofChange fnGRangeRestoresWrong)

/- THE SECOND FORM. 'bulk': how many values and letters a reading holds, each counted each time it is reached (what is shared counts as often as it is met; a slice's spare places count too). A statement '..UptoSaid' is the law's where the arguments, and the package variables that the reading takes, are together of bulk at most 1048576: NARROWER than '..Said'. Prove '..Said' where nothing that the law and all that it calls make is longer than what came in: it says more and counts as full. Else prove '..UptoSaid'. A law counts once. -/
mutual
def uptoBulk {H : Type} : DataW H → Nat
  | .lit (.string bytes) => bytes.length + 1
  | .lit _ => 1
  | .nil => 1
  | .ptr d => uptoBulk d + 1
  | .slice elems spare => uptoBulkAll elems + uptoBulkAll spare + 1
  | .agg parts => uptoBulkAll parts + 1
  | .iface _ d => uptoBulk d + 1
  | .map entries => uptoBulkEntries entries + 1
  | .held _ => 1
def uptoBulkAll {H : Type} : List (DataW H) → Nat
  | [] => 0
  | d :: r => uptoBulk d + uptoBulkAll r
def uptoBulkEntries {H : Type} : List (Lit × DataW H) → Nat
  | [] => 0
  | x :: r => uptoBulkEntry x + uptoBulkEntries r
def uptoBulkEntry {H : Type} : Lit × DataW H → Nat
  | (.string bytes, d) => bytes.length + uptoBulk d + 1
  | (_, d) => uptoBulk d + 1
 end
def uptoSmall : (H : Type) → List (DataW H) → Bool := fun _ ds => decide (uptoBulkAll ds ≤ 1048576)
def OpenSpec.upto (s : _root_.Go.ChangeSpec) : _root_.Go.OpenSpec := { _root_.Go.OpenSpec.ofChange s with cond := some uptoSmall }

/-- 'laws.FnGRangeAscends', WHERE WHAT IT READS IS OF BULK AT MOST 1048576: true; the input reads as it did. -/
def fnGRangeAscendsUptoRow : OpenClaim := { program := "ytmboghgpakhceaa", sum := "5375cd5a1f699ca2e7f1f3040fe644e519e094aa5f647f6e85de95c0a5bac156", func := "pub-greenwood/laws.FnGRangeAscends", spec := "fnGRangeAscends", unfollowed := true, recurses := true, apart := false, narrowed := true }
def FnGRangeAscendsUptoSaid : Prop := fnGRangeAscendsUptoRow.holds Try.pinned (OpenSpec.upto fnGRangeAscendsSpec)

/-- 'laws.FnGLessOrders', WHERE WHAT IT READS IS OF BULK AT MOST 1048576: true; the input reads as it did. -/
def fnGLessOrdersUptoRow : OpenClaim := { program := "ytmboghgpakhceaa", sum := "5375cd5a1f699ca2e7f1f3040fe644e519e094aa5f647f6e85de95c0a5bac156", func := "pub-greenwood/laws.FnGLessOrders", spec := "fnGLessOrders", unfollowed := true, recurses := true, apart := false, narrowed := true }
def FnGLessOrdersUptoSaid : Prop := fnGLessOrdersUptoRow.holds Try.pinned (OpenSpec.upto fnGLessOrdersSpec)

/-- 'laws.FnExactGLen', WHERE WHAT IT READS IS OF BULK AT MOST 1048576: true; the input reads as it did. -/
def fnExactGLenUptoRow : OpenClaim := { program := "ytmboghgpakhceaa", sum := "5375cd5a1f699ca2e7f1f3040fe644e519e094aa5f647f6e85de95c0a5bac156", func := "pub-greenwood/laws.FnExactGLen", spec := "fnExactGLen", unfollowed := true, recurses := true, apart := false, narrowed := true }
def FnExactGLenUptoSaid : Prop := fnExactGLenUptoRow.holds Try.pinned (OpenSpec.upto fnExactGLenSpec)

/-- 'laws.FnExactGMax', WHERE WHAT IT READS IS OF BULK AT MOST 1048576: true; the input reads as it did. -/
def fnExactGMaxUptoRow : OpenClaim := { program := "ytmboghgpakhceaa", sum := "5375cd5a1f699ca2e7f1f3040fe644e519e094aa5f647f6e85de95c0a5bac156", func := "pub-greenwood/laws.FnExactGMax", spec := "fnExactGMax", unfollowed := true, recurses := true, apart := false, narrowed := true }
def FnExactGMaxUptoSaid : Prop := fnExactGMaxUptoRow.holds Try.pinned (OpenSpec.upto fnExactGMaxSpec)

/-- 'laws.FnExactGGetAt', WHERE WHAT IT READS IS OF BULK AT MOST 1048576: true; the input reads as it did. -/
def fnExactGGetAtUptoRow : OpenClaim := { program := "ytmboghgpakhceaa", sum := "5375cd5a1f699ca2e7f1f3040fe644e519e094aa5f647f6e85de95c0a5bac156", func := "pub-greenwood/laws.FnExactGGetAt", spec := "fnExactGGetAt", unfollowed := true, recurses := true, apart := false, narrowed := true }
def FnExactGGetAtUptoSaid : Prop := fnExactGGetAtUptoRow.holds Try.pinned (OpenSpec.upto fnExactGGetAtSpec)

/-- 'laws.FnExactGSetHint', WHERE WHAT IT READS IS OF BULK AT MOST 1048576: true; the input reads as it did. -/
def fnExactGSetHintUptoRow : OpenClaim := { program := "ytmboghgpakhceaa", sum := "5375cd5a1f699ca2e7f1f3040fe644e519e094aa5f647f6e85de95c0a5bac156", func := "pub-greenwood/laws.FnExactGSetHint", spec := "fnExactGSetHint", unfollowed := true, recurses := true, apart := false, narrowed := true }
def FnExactGSetHintUptoSaid : Prop := fnExactGSetHintUptoRow.holds Try.pinned (OpenSpec.upto fnExactGSetHintSpec)

/-- 'laws.FnExactGNew', WHERE WHAT IT READS IS OF BULK AT MOST 1048576: true; the input reads as it did. -/
def fnExactGNewUptoRow : OpenClaim := { program := "ytmboghgpakhceaa", sum := "5375cd5a1f699ca2e7f1f3040fe644e519e094aa5f647f6e85de95c0a5bac156", func := "pub-greenwood/laws.FnExactGNew", spec := "fnExactGNew", unfollowed := true, recurses := true, apart := false, narrowed := true }
def FnExactGNewUptoSaid : Prop := fnExactGNewUptoRow.holds Try.pinned (OpenSpec.upto fnExactGNewSpec)

/-- 'laws.FnExactGGetHint', WHERE WHAT IT READS IS OF BULK AT MOST 1048576: true; the input reads as it did. -/
def fnExactGGetHintUptoRow : OpenClaim := { program := "ytmboghgpakhceaa", sum := "5375cd5a1f699ca2e7f1f3040fe644e519e094aa5f647f6e85de95c0a5bac156", func := "pub-greenwood/laws.FnExactGGetHint", spec := "fnExactGGetHint", unfollowed := true, recurses := true, apart := false, narrowed := true }
def FnExactGGetHintUptoSaid : Prop := fnExactGGetHintUptoRow.holds Try.pinned (OpenSpec.upto fnExactGGetHintSpec)

/-- 'laws.FnExactGReverse', WHERE WHAT IT READS IS OF BULK AT MOST 1048576: true; the input reads as it did. -/
def fnExactGReverseUptoRow : OpenClaim := { program := "ytmboghgpakhceaa", sum := "5375cd5a1f699ca2e7f1f3040fe644e519e094aa5f647f6e85de95c0a5bac156", func := "pub-greenwood/laws.FnExactGReverse", spec := "fnExactGReverse", unfollowed := true, recurses := true, apart := false, narrowed := true }
def FnExactGReverseUptoSaid : Prop := fnExactGReverseUptoRow.holds Try.pinned (OpenSpec.upto fnExactGReverseSpec)

/-- 'laws.FnGOrders', WHERE WHAT IT READS IS OF BULK AT MOST 1048576: true; the input reads as it did. -/
def fnGOrdersUptoRow : OpenClaim := { program := "ytmboghgpakhceaa", sum := "5375cd5a1f699ca2e7f1f3040fe644e519e094aa5f647f6e85de95c0a5bac156", func := "pub-greenwood/laws.FnGOrders", spec := "fnGOrders", unfollowed := true, recurses := true, apart := false, narrowed := true }
def FnGOrdersUptoSaid : Prop := fnGOrdersUptoRow.holds Try.pinned (OpenSpec.upto fnGOrdersSpec)

/-- 'laws.FnExactGDescend', WHERE WHAT IT READS IS OF BULK AT MOST 1048576: true; the input reads as it did. -/
def fnExactGDescendUptoRow : OpenClaim := { program := "ytmboghgpakhceaa", sum := "5375cd5a1f699ca2e7f1f3040fe644e519e094aa5f647f6e85de95c0a5bac156", func := "pub-greenwood/laws.FnExactGDescend", spec := "fnExactGDescend", unfollowed := true, recurses := true, apart := false, narrowed := true }
def FnExactGDescendUptoSaid : Prop := fnExactGDescendUptoRow.holds Try.pinned (OpenSpec.upto fnExactGDescendSpec)

/-- 'laws.FnExactGDescendHint', WHERE WHAT IT READS IS OF BULK AT MOST 1048576: true; the input reads as it did. -/
def fnExactGDescendHintUptoRow : OpenClaim := { program := "ytmboghgpakhceaa", sum := "5375cd5a1f699ca2e7f1f3040fe644e519e094aa5f647f6e85de95c0a5bac156", func := "pub-greenwood/laws.FnExactGDescendHint", spec := "fnExactGDescendHint", unfollowed := true, recurses := true, apart := false, narrowed := true }
def FnExactGDescendHintUptoSaid : Prop := fnExactGDescendHintUptoRow.holds Try.pinned (OpenSpec.upto fnExactGDescendHintSpec)

/-- 'laws.FnGWalks', WHERE WHAT IT READS IS OF BULK AT MOST 1048576: true; the input reads as it did. -/
def fnGWalksUptoRow : OpenClaim := { program := "ytmboghgpakhceaa", sum := "5375cd5a1f699ca2e7f1f3040fe644e519e094aa5f647f6e85de95c0a5bac156", func := "pub-greenwood/laws.FnGWalks", spec := "fnGWalks", unfollowed := true, recurses := true, apart := false, narrowed := true }
def FnGWalksUptoSaid : Prop := fnGWalksUptoRow.holds Try.pinned (OpenSpec.upto fnGWalksSpec)

/-- 'laws.FnGSieve', WHERE WHAT IT READS IS OF BULK AT MOST 1048576: true; the input reads as it did. -/
def fnGSieveUptoRow : OpenClaim := { program := "ytmboghgpakhceaa", sum := "5375cd5a1f699ca2e7f1f3040fe644e519e094aa5f647f6e85de95c0a5bac156", func := "pub-greenwood/laws.FnGSieve", spec := "fnGSieve", unfollowed := true, recurses := true, apart := false, narrowed := true }
def FnGSieveUptoSaid : Prop := fnGSieveUptoRow.holds Try.pinned (OpenSpec.upto fnGSieveSpec)

/-- 'laws.FnGScans', WHERE WHAT IT READS IS OF BULK AT MOST 1048576: true; the input reads as it did. -/
def fnGScansUptoRow : OpenClaim := { program := "ytmboghgpakhceaa", sum := "5375cd5a1f699ca2e7f1f3040fe644e519e094aa5f647f6e85de95c0a5bac156", func := "pub-greenwood/laws.FnGScans", spec := "fnGScans", unfollowed := true, recurses := true, apart := false, narrowed := true }
def FnGScansUptoSaid : Prop := fnGScansUptoRow.holds Try.pinned (OpenSpec.upto fnGScansSpec)

/-- 'laws.FnExactGIterMut', WHERE WHAT IT READS IS OF BULK AT MOST 1048576: true; the input reads as it did. -/
def fnExactGIterMutUptoRow : OpenClaim := { program := "ytmboghgpakhceaa", sum := "5375cd5a1f699ca2e7f1f3040fe644e519e094aa5f647f6e85de95c0a5bac156", func := "pub-greenwood/laws.FnExactGIterMut", spec := "fnExactGIterMut", unfollowed := true, recurses := true, apart := false, narrowed := true }
def FnExactGIterMutUptoSaid : Prop := fnExactGIterMutUptoRow.holds Try.pinned (OpenSpec.upto fnExactGIterMutSpec)

/-- 'laws.FnGPopAll', WHERE WHAT IT READS IS OF BULK AT MOST 1048576: true; the input reads as it did. -/
def fnGPopAllUptoRow : OpenClaim := { program := "ytmboghgpakhceaa", sum := "5375cd5a1f699ca2e7f1f3040fe644e519e094aa5f647f6e85de95c0a5bac156", func := "pub-greenwood/laws.FnGPopAll", spec := "fnGPopAll", unfollowed := true, recurses := true, apart := false, narrowed := true }
def FnGPopAllUptoSaid : Prop := fnGPopAllUptoRow.holds Try.pinned (OpenSpec.upto fnGPopAllSpec)

/-- 'laws.FnGIterates', WHERE WHAT IT READS IS OF BULK AT MOST 1048576: true; the input reads as it did. -/
def fnGIteratesUptoRow : OpenClaim := { program := "ytmboghgpakhceaa", sum := "5375cd5a1f699ca2e7f1f3040fe644e519e094aa5f647f6e85de95c0a5bac156", func := "pub-greenwood/laws.FnGIterates", spec := "fnGIterates", unfollowed := true, recurses := true, apart := false, narrowed := true }
def FnGIteratesUptoSaid : Prop := fnGIteratesUptoRow.holds Try.pinned (OpenSpec.upto fnGIteratesSpec)

/-- 'laws.FnExactGDeleteRange', WHERE WHAT IT READS IS OF BULK AT MOST 1048576: true; the input reads as it did. -/
def fnExactGDeleteRangeUptoRow : OpenClaim := { program := "ytmboghgpakhceaa", sum := "5375cd5a1f699ca2e7f1f3040fe644e519e094aa5f647f6e85de95c0a5bac156", func := "pub-greenwood/laws.FnExactGDeleteRange", spec := "fnExactGDeleteRange", unfollowed := true, recurses := true, apart := false, narrowed := true }
def FnExactGDeleteRangeUptoSaid : Prop := fnExactGDeleteRangeUptoRow.holds Try.pinned (OpenSpec.upto fnExactGDeleteRangeSpec)

/-- 'laws.FnGRangeRestores', WHERE WHAT IT READS IS OF BULK AT MOST 1048576: true; the input reads as it did. -/
def fnGRangeRestoresUptoRow : OpenClaim := { program := "ytmboghgpakhceaa", sum := "5375cd5a1f699ca2e7f1f3040fe644e519e094aa5f647f6e85de95c0a5bac156", func := "pub-greenwood/laws.FnGRangeRestores", spec := "fnGRangeRestores", unfollowed := true, recurses := true, apart := false, narrowed := true }
def FnGRangeRestoresUptoSaid : Prop := fnGRangeRestoresUptoRow.holds Try.pinned (OpenSpec.upto fnGRangeRestoresSpec)

end Rows
end Go.Proofs.Ytmboghgpakhceaa
