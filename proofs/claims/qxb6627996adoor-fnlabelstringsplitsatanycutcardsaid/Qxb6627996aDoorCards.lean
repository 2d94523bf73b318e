/-
  DERIVED. GIVEN WITH THE SEED: THE CARDS: each row of Qxb6627996aDoorRows.lean that lists a variable, with what it lists TIED to the program's text (the seventh form; the later family's looks); each row that meets fmt, with fmt's text TOLD by the authors' own Lean function (tested against real Go, not proved from fmt's source: count such statements apart). THE CARD IS WHAT COUNTS. Prove the row's statement (the work); the ties are given (Qxb6627996aDoorTie.lean); close each card by the builder's one call (the guide's Derived/Test/ToyasCard.lean, 'card_holds'). Laid BY PROGRAM, IN A SANDBOX (cutbox-door.mjs). By AI agents, Wed Nov 11 2026. No macro, syntax, notation, axiom, sorry.
-/
import Derived.Test.Qxb6627996aDoorRows
import GoSem.ClaimSeven
namespace Go.Proofs.Qxb6627996aDoor
namespace Rows

/-- THE TIED CARD OF 'zzlaws_internal_labels_b1.FnLabelStringDecodesToParts'. -/
def fnLabelStringDecodesToPartsCard : Claim7 := { stood := { row := fnLabelStringDecodesToPartsRow, standIns := [], harness := (true, "4028d004b313ded1bb2bd42e33832f2ad50718b8284b6d9b10edc78b021536da"), looks := false }, kinds := [], alts := [], laidByText := true, laidKinds := [.data, .data, .data], laidTests := true, laidLooks := .later }
def FnLabelStringDecodesToPartsCardSaid : Prop := Claim7.holds Tryd.pinned (.plain (OpenSpec.ofChange fnLabelStringDecodesToPartsSpec)) fnLabelStringDecodesToPartsCard

/-- THE TIED CARD OF 'zzlaws_internal_labels_b1.FnLabelStringSplitsAtAnyCut'. -/
def fnLabelStringSplitsAtAnyCutCard : Claim7 := { stood := { row := fnLabelStringSplitsAtAnyCutRow, standIns := [], harness := (true, "4028d004b313ded1bb2bd42e33832f2ad50718b8284b6d9b10edc78b021536da"), looks := false }, kinds := [], alts := [], laidByText := true, laidKinds := [.data, .data, .data], laidTests := true, laidLooks := .later }
def FnLabelStringSplitsAtAnyCutCardSaid : Prop := Claim7.holds Tryd.pinned (.plain (OpenSpec.ofChange fnLabelStringSplitsAtAnyCutSpec)) fnLabelStringSplitsAtAnyCutCard
end Rows
end Go.Proofs.Qxb6627996aDoor
