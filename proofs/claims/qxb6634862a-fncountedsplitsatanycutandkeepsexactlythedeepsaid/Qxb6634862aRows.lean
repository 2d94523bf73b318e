/-
  No cell of these rows narrows 'for every input' (looked for: loops, veiled, ifaces, maps, wideKeys, modest, calm, conditions, laid).
  DERIVED. THE GIVEN ROWS OF THIS SEAT. 2 by the template 'for every input the law returns true; each argument reads behind the call as it read before'; 0 by the template 'total and deterministic' (their statements: Qxb6634862aTotals.lean).
  GIVEN WITH THE SEED: the statements are not yours to turn. If you find one false, say at which input.
  Laid BY PROGRAM, IN A SANDBOX (cutbox-rows.mjs): the forced cells as the released guide's own fill.sh prints them over the translation 1a62deda43e5636e… (all of the seat's roots in one cut). By AI agents, Wed Nov 11 2026. No macro, syntax, notation, axiom, sorry.
-/
import Derived.Test.Qxb6634862aChecked
import GoSem.Claim
import GoSem.ClaimJoined
import GoSem.ClaimMapViews
import Derived.JoinedTies
import Derived.KernelRfl
namespace Go.Proofs.Qxb6634862a
/- THE CELL 'sum', in the pinned program and in every row, IS THE sha256 OF THE DUMP (.gsa) THAT Qxb6634862aProg.lean LOADS. Nothing in Lean hashes anything: it is a label: what it is worth is what the hold of that sum in a sandbox is worth. -/
noncomputable def Try.pinned : Pinned := { name := "qxb6634862a", sum := "1a62deda43e5636ea26856f3deef4ed74ab85b63f1bacc66cc0654fcd07eb9cc", checked := Try.checked }
namespace Rows
def none {H : Type} : Left H := { results := [], args := [] }

/-- 'zzlaws_anchor_b1.FnCountedSplitsAtAnyCutAndKeepsExactlyTheDeep': WHATEVER THE INPUT: true; the input reads as it did. -/
def fnCountedSplitsAtAnyCutAndKeepsExactlyTheDeepSpec : ChangeSpec := { name := "fnCountedSplitsAtAnyCutAndKeepsExactlyTheDeep", fn := fun _ => fun
  | [d1, d2, d3, d4] => { results := [.lit (.bool true)], args := [d1, d2, d3, d4] }
  | _ => none }
def fnCountedSplitsAtAnyCutAndKeepsExactlyTheDeepRow : OpenClaim := { program := "qxb6634862a", sum := "1a62deda43e5636ea26856f3deef4ed74ab85b63f1bacc66cc0654fcd07eb9cc", func := "example.com/hawser/hawser/zzlaws_anchor_b1.FnCountedSplitsAtAnyCutAndKeepsExactlyTheDeep", spec := "fnCountedSplitsAtAnyCutAndKeepsExactlyTheDeep", apart := false }
def FnCountedSplitsAtAnyCutAndKeepsExactlyTheDeepSaid : Prop := fnCountedSplitsAtAnyCutAndKeepsExactlyTheDeepRow.holds Try.pinned (OpenSpec.ofChange fnCountedSplitsAtAnyCutAndKeepsExactlyTheDeepSpec)

/-- ITS FALSE NEIGHBOUR: 'it returns false'. Refute it at one input. -/
def fnCountedSplitsAtAnyCutAndKeepsExactlyTheDeepWrong : ChangeSpec := { name := "fnCountedSplitsAtAnyCutAndKeepsExactlyTheDeep", fn := fun _ => fun
  | [d1, d2, d3, d4] => { results := [.lit (.bool false)], args := [d1, d2, d3, d4] }
  | _ => none }
def FnCountedSplitsAtAnyCutAndKeepsExactlyTheDeepWrongFalsely : Prop := fnCountedSplitsAtAnyCutAndKeepsExactlyTheDeepRow.holds Try.pinned (OpenSpec.ofChange fnCountedSplitsAtAnyCutAndKeepsExactlyTheDeepWrong)

/-- 'zzlaws_anchor_b1.FnCountedTwiceIsCountedAtTheGreaterDepth': WHATEVER THE INPUT: true; the input reads as it did. -/
def fnCountedTwiceIsCountedAtTheGreaterDepthSpec : ChangeSpec := { name := "fnCountedTwiceIsCountedAtTheGreaterDepth", fn := fun _ => fun
  | [d1, d2, d3, d4] => { results := [.lit (.bool true)], args := [d1, d2, d3, d4] }
  | _ => none }
def fnCountedTwiceIsCountedAtTheGreaterDepthRow : OpenClaim := { program := "qxb6634862a", sum := "1a62deda43e5636ea26856f3deef4ed74ab85b63f1bacc66cc0654fcd07eb9cc", func := "example.com/hawser/hawser/zzlaws_anchor_b1.FnCountedTwiceIsCountedAtTheGreaterDepth", spec := "fnCountedTwiceIsCountedAtTheGreaterDepth", apart := false }
def FnCountedTwiceIsCountedAtTheGreaterDepthSaid : Prop := fnCountedTwiceIsCountedAtTheGreaterDepthRow.holds Try.pinned (OpenSpec.ofChange fnCountedTwiceIsCountedAtTheGreaterDepthSpec)

/-- ITS FALSE NEIGHBOUR: 'it returns false'. Refute it at one input. -/
def fnCountedTwiceIsCountedAtTheGreaterDepthWrong : ChangeSpec := { name := "fnCountedTwiceIsCountedAtTheGreaterDepth", fn := fun _ => fun
  | [d1, d2, d3, d4] => { results := [.lit (.bool false)], args := [d1, d2, d3, d4] }
  | _ => none }
def FnCountedTwiceIsCountedAtTheGreaterDepthWrongFalsely : Prop := fnCountedTwiceIsCountedAtTheGreaterDepthRow.holds Try.pinned (OpenSpec.ofChange fnCountedTwiceIsCountedAtTheGreaterDepthWrong)

end Rows
end Go.Proofs.Qxb6634862a
