/-
  No cell of these rows narrows 'for every input' (looked for: loops, veiled, ifaces, maps, wideKeys, modest, calm, conditions, laid).
  DERIVED. THE GIVEN ROWS OF THIS SEAT. 4 by the template 'for every input the law returns true; each argument reads behind the call as it read before'; 0 by the template 'total and deterministic' (their statements: YtmcnochofpgfbaaTotals.lean).
  GIVEN WITH THE SEED: the statements are not yours to turn. If you find one false, say at which input.
  Laid BY PROGRAM, IN A SANDBOX (cutbox-rows.mjs): the forced cells as the released guide's own fill.sh prints them over the translation 2faef0bcf30cfe54… (all of the seat's roots in one cut). By AI agents, Wed Nov 11 2026. No macro, syntax, notation, axiom, sorry.
-/
import Derived.Test.YtmcnochofpgfbaaChecked
import GoSem.Claim
import GoSem.ClaimJoined
import GoSem.ClaimMapViews
import Derived.JoinedTies
import Derived.KernelRfl
namespace Go.Proofs.Ytmcnochofpgfbaa
/- THE CELL 'sum', in the pinned program and in every row, IS THE sha256 OF THE DUMP (.gsa) THAT YtmcnochofpgfbaaProg.lean LOADS. Nothing in Lean hashes anything: it is a label: what it is worth is what the hold of that sum in a sandbox is worth. -/
noncomputable def Try.pinned : Pinned := { name := "ytmcnochofpgfbaa", sum := "2faef0bcf30cfe54016a39e0fa71f546e645df225d74e6ab35dae2594e982cb0", checked := Try.checked }
namespace Rows
def none {H : Type} : Left H := { results := [], args := [] }

/-- 'laws.FnGRangeAscends': WHATEVER THE INPUT: true; the input reads as it did. -/
def fnGRangeAscendsSpec : ChangeSpec := { name := "fnGRangeAscends", fn := fun _ => fun
  | [d1, d2, d3, d4] => { results := [.lit (.bool true)], args := [d1, d2, d3, d4] }
  | _ => none }
def fnGRangeAscendsRow : OpenClaim := { program := "ytmcnochofpgfbaa", sum := "2faef0bcf30cfe54016a39e0fa71f546e645df225d74e6ab35dae2594e982cb0", func := "pub-greenwood/laws.FnGRangeAscends", spec := "fnGRangeAscends", unfollowed := true, recurses := true, apart := false }
def FnGRangeAscendsSaid : Prop := fnGRangeAscendsRow.holds Try.pinned (OpenSpec.ofChange fnGRangeAscendsSpec)

/-- ITS FALSE NEIGHBOUR: 'it returns false'. Refute it at one input. -/
def fnGRangeAscendsWrong : ChangeSpec := { name := "fnGRangeAscends", fn := fun _ => fun
  | [d1, d2, d3, d4] => { results := [.lit (.bool false)], args := [d1, d2, d3, d4] }
  | _ => none }
def FnGRangeAscendsWrongFalsely : Prop := fnGRangeAscendsRow.holds Try.pinned (OpenSpec.ofChange fnGRangeAscendsWrong)

/-- 'laws.FnGWalks': WHATEVER THE INPUT: true; the input reads as it did. -/
def fnGWalksSpec : ChangeSpec := { name := "fnGWalks", fn := fun _ => fun
  | [d1, d2, d3] => { results := [.lit (.bool true)], args := [d1, d2, d3] }
  | _ => none }
def fnGWalksRow : OpenClaim := { program := "ytmcnochofpgfbaa", sum := "2faef0bcf30cfe54016a39e0fa71f546e645df225d74e6ab35dae2594e982cb0", func := "pub-greenwood/laws.FnGWalks", spec := "fnGWalks", unfollowed := true, recurses := true, apart := false }
def FnGWalksSaid : Prop := fnGWalksRow.holds Try.pinned (OpenSpec.ofChange fnGWalksSpec)

/-- ITS FALSE NEIGHBOUR: 'it returns false'. Refute it at one input. -/
def fnGWalksWrong : ChangeSpec := { name := "fnGWalks", fn := fun _ => fun
  | [d1, d2, d3] => { results := [.lit (.bool false)], args := [d1, d2, d3] }
  | _ => none }
def FnGWalksWrongFalsely : Prop := fnGWalksRow.holds Try.pinned (OpenSpec.ofChange fnGWalksWrong)

/-- 'laws.FnExactGDeleteRange': WHATEVER THE INPUT: true; the input reads as it did. -/
def fnExactGDeleteRangeSpec : ChangeSpec := { name := "fnExactGDeleteRange", fn := fun _ => fun
  | [d1, d2, d3, d4, d5] => { results := [.lit (.bool true)], args := [d1, d2, d3, d4, d5] }
  | _ => none }
def fnExactGDeleteRangeRow : OpenClaim := { program := "ytmcnochofpgfbaa", sum := "2faef0bcf30cfe54016a39e0fa71f546e645df225d74e6ab35dae2594e982cb0", func := "pub-greenwood/laws.FnExactGDeleteRange", spec := "fnExactGDeleteRange", unfollowed := true, recurses := true, apart := false }
def FnExactGDeleteRangeSaid : Prop := fnExactGDeleteRangeRow.holds Try.pinned (OpenSpec.ofChange fnExactGDeleteRangeSpec)

/-- ITS FALSE NEIGHBOUR: 'it returns false'. Refute it at one input. -/
def fnExactGDeleteRangeWrong : ChangeSpec := { name := "fnExactGDeleteRange", fn := fun _ => fun
  | [d1, d2, d3, d4, d5] => { results := [.lit (.bool false)], args := [d1, d2, d3, d4, d5] }
  | _ => none }
def FnExactGDeleteRangeWrongFalsely : Prop := fnExactGDeleteRangeRow.holds Try.pinned (OpenSpec.ofChange fnExactGDeleteRangeWrong)

/-- 'laws.FnGRangeRestores': WHATEVER THE INPUT: true; the input reads as it did. -/
def fnGRangeRestoresSpec : ChangeSpec := { name := "fnGRangeRestores", fn := fun _ => fun
  | [d1, d2, d3, d4, d5] => { results := [.lit (.bool true)], args := [d1, d2, d3, d4, d5] }
  | _ => none }
def fnGRangeRestoresRow : OpenClaim := { program := "ytmcnochofpgfbaa", sum := "2faef0bcf30cfe54016a39e0fa71f546e645df225d74e6ab35dae2594e982cb0", func := "pub-greenwood/laws.FnGRangeRestores", spec := "fnGRangeRestores", unfollowed := true, recurses := true, apart := false }
def FnGRangeRestoresSaid : Prop := fnGRangeRestoresRow.holds Try.pinned (OpenSpec.ofChange fnGRangeRestoresSpec)

/-- ITS FALSE NEIGHBOUR: 'it returns false'. Refute it at one input. -/
def fnGRangeRestoresWrong : ChangeSpec := { name := "fnGRangeRestores", fn := fun _ => fun
  | [d1, d2, d3, d4, d5] => { results := [.lit (.bool false)], args := [d1, d2, d3, d4, d5] }
  | _ => none }
def FnGRangeRestoresWrongFalsely : Prop := fnGRangeRestoresRow.holds Try.pinned (OpenSpec.ofChange fnGRangeRestoresWrong)

/- THE SECOND FORM. 'bulk': how many values and letters a reading holds, each counted each time it is reached (what is shared counts as often as it is met; a slice's spare places count too). A statement '..UptoSaid' is the law's where the arguments, and the package variables that the reading takes, are together of bulk at most 1048576: NARROWER than '..Said'. Prove '..Said' where nothing that the law and all that it calls make is longer than what came in: it says more and counts as full. Else prove '..UptoSaid'. A law counts once. -/
mutual
def uptoBulk {H : Type} : DataW H → Nat
  | .lit (.string bytes) => bytes.length + 1
  | .lit _ => 1
  | .nil => 1
  | .ptr d => uptoBulk d + 1
  | .slice elems spare => uptoBulkAll elems + uptoBulkAll spare + 1
  | .agg parts => uptoBulkAll parts + 1
  | .iface _ d => uptoBulk d + 1
  | .map entries => uptoBulkEntries entries + 1
  | .held _ => 1
def uptoBulkAll {H : Type} : List (DataW H) → Nat
  | [] => 0
  | d :: r => uptoBulk d + uptoBulkAll r
def uptoBulkEntries {H : Type} : List (Lit × DataW H) → Nat
  | [] => 0
  | x :: r => uptoBulkEntry x + uptoBulkEntries r
def uptoBulkEntry {H : Type} : Lit × DataW H → Nat
  | (.string bytes, d) => bytes.length + uptoBulk d + 1
  | (_, d) => uptoBulk d + 1
 end
def uptoSmall : (H : Type) → List (DataW H) → Bool := fun _ ds => decide (uptoBulkAll ds ≤ 1048576)
def OpenSpec.upto (s : _root_.Go.ChangeSpec) : _root_.Go.OpenSpec := { _root_.Go.OpenSpec.ofChange s with cond := some uptoSmall }

/-- 'laws.FnGRangeAscends', WHERE WHAT IT READS IS OF BULK AT MOST 1048576: true; the input reads as it did. -/
def fnGRangeAscendsUptoRow : OpenClaim := { program := "ytmcnochofpgfbaa", sum := "2faef0bcf30cfe54016a39e0fa71f546e645df225d74e6ab35dae2594e982cb0", func := "pub-greenwood/laws.FnGRangeAscends", spec := "fnGRangeAscends", unfollowed := true, recurses := true, apart := false, narrowed := true }
def FnGRangeAscendsUptoSaid : Prop := fnGRangeAscendsUptoRow.holds Try.pinned (OpenSpec.upto fnGRangeAscendsSpec)

/-- 'laws.FnGWalks', WHERE WHAT IT READS IS OF BULK AT MOST 1048576: true; the input reads as it did. -/
def fnGWalksUptoRow : OpenClaim := { program := "ytmcnochofpgfbaa", sum := "2faef0bcf30cfe54016a39e0fa71f546e645df225d74e6ab35dae2594e982cb0", func := "pub-greenwood/laws.FnGWalks", spec := "fnGWalks", unfollowed := true, recurses := true, apart := false, narrowed := true }
def FnGWalksUptoSaid : Prop := fnGWalksUptoRow.holds Try.pinned (OpenSpec.upto fnGWalksSpec)

/-- 'laws.FnExactGDeleteRange', WHERE WHAT IT READS IS OF BULK AT MOST 1048576: true; the input reads as it did. -/
def fnExactGDeleteRangeUptoRow : OpenClaim := { program := "ytmcnochofpgfbaa", sum := "2faef0bcf30cfe54016a39e0fa71f546e645df225d74e6ab35dae2594e982cb0", func := "pub-greenwood/laws.FnExactGDeleteRange", spec := "fnExactGDeleteRange", unfollowed := true, recurses := true, apart := false, narrowed := true }
def FnExactGDeleteRangeUptoSaid : Prop := fnExactGDeleteRangeUptoRow.holds Try.pinned (OpenSpec.upto fnExactGDeleteRangeSpec)

/-- 'laws.FnGRangeRestores', WHERE WHAT IT READS IS OF BULK AT MOST 1048576: true; the input reads as it did. -/
def fnGRangeRestoresUptoRow : OpenClaim := { program := "ytmcnochofpgfbaa", sum := "2faef0bcf30cfe54016a39e0fa71f546e645df225d74e6ab35dae2594e982cb0", func := "pub-greenwood/laws.FnGRangeRestores", spec := "fnGRangeRestores", unfollowed := true, recurses := true, apart := false, narrowed := true }
def FnGRangeRestoresUptoSaid : Prop := fnGRangeRestoresUptoRow.holds Try.pinned (OpenSpec.upto fnGRangeRestoresSpec)

end Rows
end Go.Proofs.Ytmcnochofpgfbaa
