/-
  No cell of these rows narrows 'for every input' (looked for: loops, veiled, ifaces, maps, wideKeys, modest, calm, conditions, laid).
  DERIVED. THE GIVEN ROWS OF THIS SEAT. 2 by the template 'for every input the law returns true; each argument reads behind the call as it read before'; 0 by the template 'total and deterministic' (their statements: Qxb6627969aTotals.lean).
  GIVEN WITH THE SEED: the statements are not yours to turn. If you find one false, say at which input.
  Laid BY PROGRAM, IN A SANDBOX (cutbox-rows.mjs): the forced cells as the released guide's own fill.sh prints them over the translation c3c3c9657f9864a2… (all of the seat's roots in one cut). By AI agents, Wed Nov 11 2026. No macro, syntax, notation, axiom, sorry.
-/
import Derived.Test.Qxb6627969aChecked
import GoSem.Claim
import GoSem.ClaimJoined
import GoSem.ClaimMapViews
import Derived.JoinedTies
import Derived.KernelRfl
namespace Go.Proofs.Qxb6627969a
/- THE CELL 'sum', in the pinned program and in every row, IS THE sha256 OF THE DUMP (.gsa) THAT Qxb6627969aProg.lean LOADS. Nothing in Lean hashes anything: it is a label: what it is worth is what the hold of that sum in a sandbox is worth. -/
noncomputable def Try.pinned : Pinned := { name := "qxb6627969a", sum := "c3c3c9657f9864a24a1d6c1fc92a2a2fe73c918887d641df144ddbac1cd15b40", checked := Try.checked }
namespace Rows
def none {H : Type} : Left H := { results := [], args := [] }

/-- 'zzlaws_root_b1.FnMustNotBeFoldedSplitAtPlainByte': WHATEVER THE INPUT: true; the input reads as it did. -/
def fnMustNotBeFoldedSplitAtPlainByteSpec : ChangeSpec := { name := "fnMustNotBeFoldedSplitAtPlainByte", fn := fun _ => fun
  | [d1, d2, d3] => { results := [.lit (.bool true)], args := [d1, d2, d3] }
  | _ => none }
def fnMustNotBeFoldedSplitAtPlainByteRow : OpenClaim := { program := "qxb6627969a", sum := "c3c3c9657f9864a24a1d6c1fc92a2a2fe73c918887d641df144ddbac1cd15b40", func := "example.com/victualer/victualer/zzlaws_root_b1.FnMustNotBeFoldedSplitAtPlainByte", spec := "fnMustNotBeFoldedSplitAtPlainByte", apart := false }
def FnMustNotBeFoldedSplitAtPlainByteSaid : Prop := fnMustNotBeFoldedSplitAtPlainByteRow.holds Try.pinned (OpenSpec.ofChange fnMustNotBeFoldedSplitAtPlainByteSpec)

/-- ITS FALSE NEIGHBOUR: 'it returns false'. Refute it at one input. -/
def fnMustNotBeFoldedSplitAtPlainByteWrong : ChangeSpec := { name := "fnMustNotBeFoldedSplitAtPlainByte", fn := fun _ => fun
  | [d1, d2, d3] => { results := [.lit (.bool false)], args := [d1, d2, d3] }
  | _ => none }
def FnMustNotBeFoldedSplitAtPlainByteWrongFalsely : Prop := fnMustNotBeFoldedSplitAtPlainByteRow.holds Try.pinned (OpenSpec.ofChange fnMustNotBeFoldedSplitAtPlainByteWrong)

/-- 'zzlaws_root_b1.FnMustNotBeFoldedAppendNewline': WHATEVER THE INPUT: true; the input reads as it did. -/
def fnMustNotBeFoldedAppendNewlineSpec : ChangeSpec := { name := "fnMustNotBeFoldedAppendNewline", fn := fun _ => fun
  | [d] => { results := [.lit (.bool true)], args := [d] }
  | _ => none }
def fnMustNotBeFoldedAppendNewlineRow : OpenClaim := { program := "qxb6627969a", sum := "c3c3c9657f9864a24a1d6c1fc92a2a2fe73c918887d641df144ddbac1cd15b40", func := "example.com/victualer/victualer/zzlaws_root_b1.FnMustNotBeFoldedAppendNewline", spec := "fnMustNotBeFoldedAppendNewline", apart := false }
def FnMustNotBeFoldedAppendNewlineSaid : Prop := fnMustNotBeFoldedAppendNewlineRow.holds Try.pinned (OpenSpec.ofChange fnMustNotBeFoldedAppendNewlineSpec)

/-- ITS FALSE NEIGHBOUR: 'it returns false'. Refute it at one input. -/
def fnMustNotBeFoldedAppendNewlineWrong : ChangeSpec := { name := "fnMustNotBeFoldedAppendNewline", fn := fun _ => fun
  | [d] => { results := [.lit (.bool false)], args := [d] }
  | _ => none }
def FnMustNotBeFoldedAppendNewlineWrongFalsely : Prop := fnMustNotBeFoldedAppendNewlineRow.holds Try.pinned (OpenSpec.ofChange fnMustNotBeFoldedAppendNewlineWrong)

end Rows
end Go.Proofs.Qxb6627969a
