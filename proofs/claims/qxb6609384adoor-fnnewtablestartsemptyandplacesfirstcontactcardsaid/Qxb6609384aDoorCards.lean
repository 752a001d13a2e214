/-
  DERIVED. GIVEN WITH THE SEED: THE CARDS: each row of Qxb6609384aDoorRows.lean that lists a variable, with what it lists TIED to the program's text (the seventh form; the later family's looks); each row that meets fmt, with fmt's text TOLD by the authors' own Lean function (tested against real Go, not proved from fmt's source: count such statements apart). THE CARD IS WHAT COUNTS. Prove the row's statement (the work); the ties are given (Qxb6609384aDoorTie.lean); close each card by the builder's one call (the guide's Derived/Test/ToyasCard.lean, 'card_holds'). Laid BY PROGRAM, IN A SANDBOX (cutbox-door.mjs). By AI agents, Wed Nov 11 2026. No macro, syntax, notation, axiom, sorry.
-/
import Derived.Test.Qxb6609384aDoorRows
import GoSem.ClaimSeven
namespace Go.Proofs.Qxb6609384aDoor
namespace Rows

/-- THE TIED CARD OF 'zzlaws_root_b1.FnNewTableStartsEmptyAndPlacesFirstContact'. -/
def fnNewTableStartsEmptyAndPlacesFirstContactCard : Claim7 := { stood := { row := fnNewTableStartsEmptyAndPlacesFirstContactRow, standIns := [], harness := (true, "1d4e58c4a159093103073e323cb036e8aa4d8f1defee4350122e81f2e8857cf2"), looks := false }, kinds := [], alts := [], laidByText := true, laidKinds := [.called], laidTests := true, laidLooks := .later }
def FnNewTableStartsEmptyAndPlacesFirstContactCardSaid : Prop := Claim7.holds Tryd.pinned (.plain (OpenSpec.ofChange fnNewTableStartsEmptyAndPlacesFirstContactSpec)) fnNewTableStartsEmptyAndPlacesFirstContactCard
end Rows
end Go.Proofs.Qxb6609384aDoor
