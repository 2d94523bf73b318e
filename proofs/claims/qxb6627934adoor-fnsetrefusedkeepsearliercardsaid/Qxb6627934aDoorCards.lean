/-
  DERIVED. GIVEN WITH THE SEED: THE CARDS: each row of Qxb6627934aDoorRows.lean that lists a variable, with what it lists TIED to the program's text (the seventh form; the later family's looks); each row that meets fmt, with fmt's text TOLD by the authors' own Lean function (tested against real Go, not proved from fmt's source: count such statements apart). THE CARD IS WHAT COUNTS. Prove the row's statement (the work); the ties are given (Qxb6627934aDoorTie.lean); close each card by the builder's one call (the guide's Derived/Test/ToyasCard.lean, 'card_holds'). Laid BY PROGRAM, IN A SANDBOX (cutbox-door.mjs). By AI agents, Wed Nov 11 2026. No macro, syntax, notation, axiom, sorry.
-/
import Derived.Test.Qxb6627934aDoorRows
import GoSem.ClaimSeven
namespace Go.Proofs.Qxb6627934aDoor
namespace Rows

/-- THE TIED CARD OF 'zzlaws_internal_flagvalue_b1.FnSetSignPrefixes'. -/
def fnSetSignPrefixesCard : Claim7 := { stood := { row := fnSetSignPrefixesRow, standIns := [], harness := (true, "b74cc5938ef401f756e60f6815b8fbff4ebb50d4ba417642261e7208ae28d2b6"), looks := true }, kinds := [], alts := [], laidByText := true, laidKinds := [.data, .data, .data, .sentinel, .sentinel], laidTests := true, laidLooks := .later }
def FnSetSignPrefixesCardSaid : Prop := Claim7.holds Tryd.pinned (.plain (OpenSpec.ofChange fnSetSignPrefixesSpec)) fnSetSignPrefixesCard

/-- THE TIED CARD OF 'zzlaws_internal_flagvalue_b1.FnSetRefusedKeepsEarlier'. -/
def fnSetRefusedKeepsEarlierCard : Claim7 := { stood := { row := fnSetRefusedKeepsEarlierRow, standIns := [], harness := (true, "b74cc5938ef401f756e60f6815b8fbff4ebb50d4ba417642261e7208ae28d2b6"), looks := true }, kinds := [], alts := [], laidByText := true, laidKinds := [.data, .data, .data, .sentinel, .sentinel], laidTests := true, laidLooks := .later }
def FnSetRefusedKeepsEarlierCardSaid : Prop := Claim7.holds Tryd.pinned (.plain (OpenSpec.ofChange fnSetRefusedKeepsEarlierSpec)) fnSetRefusedKeepsEarlierCard
end Rows
end Go.Proofs.Qxb6627934aDoor
