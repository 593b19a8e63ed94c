/-
  DERIVED. GIVEN WITH THE SEED: THE CARDS: each row of Qxb6618505aDoorRows.lean that lists a variable, with what it lists TIED to the program's text (the seventh form; the later family's looks); each row that meets fmt, with fmt's text TOLD by the authors' own Lean function (tested against real Go, not proved from fmt's source: count such statements apart). THE CARD IS WHAT COUNTS. Prove the row's statement (the work); the ties are given (Qxb6618505aDoorTie.lean); close each card by the builder's one call (the guide's Derived/Test/ToyasCard.lean, 'card_holds'). Laid BY PROGRAM, IN A SANDBOX (cutbox-door.mjs). By AI agents, Wed Nov 11 2026. No macro, syntax, notation, axiom, sorry.
-/
import Derived.Test.Qxb6618505aDoorRows
import GoSem.ClaimSeven
namespace Go.Proofs.Qxb6618505aDoor
namespace Rows

/-- THE TIED CARD OF 'zzlaws_root_b1.FnIsLogHostSplitsAtCharacterBoundary'. -/
def fnIsLogHostSplitsAtCharacterBoundaryCard : Claim7 := { stood := { row := fnIsLogHostSplitsAtCharacterBoundaryRow, standIns := [], harness := (true, "6667a99a68d3a414bc272246cd0942d05b4c409c095ac06ab1b4375699280c07"), looks := false }, kinds := [], alts := [], laidByText := true, laidKinds := [.listed], laidTests := true, laidLooks := .later }
def FnIsLogHostSplitsAtCharacterBoundaryCardSaid : Prop := Claim7.holds Tryd.pinned (.plain (OpenSpec.ofChange fnIsLogHostSplitsAtCharacterBoundarySpec)) fnIsLogHostSplitsAtCharacterBoundaryCard

/-- THE TIED CARD OF 'zzlaws_root_b1.FnIsLogHostLetterOrSpaceInserted'. -/
def fnIsLogHostLetterOrSpaceInsertedCard : Claim7 := { stood := { row := fnIsLogHostLetterOrSpaceInsertedRow, standIns := [], harness := (true, "6667a99a68d3a414bc272246cd0942d05b4c409c095ac06ab1b4375699280c07"), looks := false }, kinds := [], alts := [], laidByText := true, laidKinds := [.listed], laidTests := true, laidLooks := .later }
def FnIsLogHostLetterOrSpaceInsertedCardSaid : Prop := Claim7.holds Tryd.pinned (.plain (OpenSpec.ofChange fnIsLogHostLetterOrSpaceInsertedSpec)) fnIsLogHostLetterOrSpaceInsertedCard
end Rows
end Go.Proofs.Qxb6618505aDoor
