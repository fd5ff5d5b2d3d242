/-
  DERIVED. GIVEN WITH THE SEED: THE CARDS: each row of YtbbeedclkfcmeaaDoorRows.lean that lists a variable, with what it lists TIED to the program's text (the seventh form; the later family's looks); each row that meets fmt, with fmt's text TOLD by the authors' own Lean function (tested against real Go, not proved from fmt's source: count such statements apart). THE CARD IS WHAT COUNTS. Prove the row's statement (the work); the ties are given (YtbbeedclkfcmeaaDoorTie.lean); close each card by the builder's one call (the guide's Derived/Test/ToyasCard.lean, 'card_holds'). Laid BY PROGRAM, IN A SANDBOX (cutbox-door.mjs). By AI agents, Wed Nov 11 2026. No macro, syntax, notation, axiom, sorry.
-/
import Derived.Test.YtbbeedclkfcmeaaDoorRows
import GoSem.ClaimSeven
namespace Go.Proofs.YtbbeedclkfcmeaaDoor
namespace Rows

/-- THE TIED CARD OF 'laws.FnReadBech32'. -/
def fnReadBech32Card : Claim7 := { stood := { row := fnReadBech32Row, standIns := [], harness := (true, "28d9d167da9e75a7b86fc8946783325075acc2e206dff2f1acc82ceb12c04fc4"), looks := false }, kinds := [], alts := [], laidByText := true, laidKinds := [.data], laidTests := true, laidLooks := .later }
def FnReadBech32CardSaid : Prop := Claim7.holds Tryd.pinned (.plain (OpenSpec.ofChange fnReadBech32Spec)) fnReadBech32Card

/-- THE SECOND FORM's CARD OF 'laws.FnReadBech32'. -/
def fnReadBech32UptoCard : Claim7 := { stood := { row := fnReadBech32UptoRow, standIns := [], harness := (true, "28d9d167da9e75a7b86fc8946783325075acc2e206dff2f1acc82ceb12c04fc4"), looks := false }, kinds := [], alts := [], laidByText := true, laidKinds := [.data], laidTests := true, laidLooks := .later }
def FnReadBech32UptoCardSaid : Prop := Claim7.holds Tryd.pinned (.plain (OpenSpec.upto fnReadBech32Spec)) fnReadBech32UptoCard
end Rows
end Go.Proofs.YtbbeedclkfcmeaaDoor
