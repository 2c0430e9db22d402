/-
  DERIVED. GIVEN WITH THE SEED: THE CARDS: each row of YtjincjepmkgalaaGreatDoorRows.lean that lists a variable, with what it lists TIED to the program's text (the seventh form; the later family's looks); each row that meets fmt, with fmt's text TOLD by the authors' own Lean function (tested against real Go, not proved from fmt's source: count such statements apart). THE CARD IS WHAT COUNTS. Prove the row's statement (the work); the ties are given (YtjincjepmkgalaaGreatDoorTie.lean); close each card by the builder's one call (the guide's Derived/Test/ToyasCard.lean, 'card_holds'). Laid BY PROGRAM, IN A SANDBOX (cutbox-door.mjs). By AI agents, Wed Nov 11 2026. No macro, syntax, notation, axiom, sorry.
-/
import Derived.Test.YtjincjepmkgalaaGreatDoorRows
import GoSem.ClaimSeven
namespace Go.Proofs.YtjincjepmkgalaaGreatDoor
namespace Rows

/-- THE TIED CARD OF 'laws.FnWriteTexts'. -/
def fnWriteTextsCard : Claim7 := { stood := { row := fnWriteTextsRow, standIns := [], harness := (true, "55c6a886a5e15cd8312ea356e23ddeacee204d34e9c30b5ad7675ff6c56225a4"), looks := true }, kinds := [], alts := [], laidByText := true, laidKinds := [.data, .data, .data, .data, .pinned, .pinned], laidTests := true, laidLooks := .later }
def FnWriteTextsCardSaid : Prop := Claim7.holds Tryz.pinned (.plain (OpenSpec.ofChange fnWriteTextsSpec)) fnWriteTextsCard

/-- THE SECOND FORM's CARD OF 'laws.FnWriteTexts'. -/
def fnWriteTextsUptoCard : Claim7 := { stood := { row := fnWriteTextsUptoRow, standIns := [], harness := (true, "55c6a886a5e15cd8312ea356e23ddeacee204d34e9c30b5ad7675ff6c56225a4"), looks := true }, kinds := [], alts := [], laidByText := true, laidKinds := [.data, .data, .data, .data, .pinned, .pinned], laidTests := true, laidLooks := .later }
def FnWriteTextsUptoCardSaid : Prop := Claim7.holds Tryz.pinned (.plain (OpenSpec.upto fnWriteTextsSpec)) fnWriteTextsUptoCard
end Rows
end Go.Proofs.YtjincjepmkgalaaGreatDoor
