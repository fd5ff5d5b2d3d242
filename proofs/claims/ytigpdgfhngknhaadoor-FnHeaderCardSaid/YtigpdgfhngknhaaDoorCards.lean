/-
  DERIVED. GIVEN WITH THE SEED: THE CARDS: each row of YtigpdgfhngknhaaDoorRows.lean that lists a variable, with what it lists TIED to the program's text (the seventh form; the later family's looks); each row that meets fmt, with fmt's text TOLD by the authors' own Lean function (tested against real Go, not proved from fmt's source: count such statements apart). THE CARD IS WHAT COUNTS. Prove the row's statement (the work); the ties are given (YtigpdgfhngknhaaDoorTie.lean); close each card by the builder's one call (the guide's Derived/Test/ToyasCard.lean, 'card_holds'). Laid BY PROGRAM, IN A SANDBOX (cutbox-door.mjs). By AI agents, Wed Nov 11 2026. No macro, syntax, notation, axiom, sorry.
-/
import Derived.Test.YtigpdgfhngknhaaDoorRows
import GoSem.ClaimSeven
namespace Go.Proofs.YtigpdgfhngknhaaDoor
namespace Rows

/-- THE TIED CARD OF 'laws.FnHeader'. -/
def fnHeaderCard : Claim7 := { stood := { row := fnHeaderRow, standIns := [], harness := (true, "4874447272aa5874ef9c0399724f01fcc1a31933dc834f09f1dff3b3419cb314"), looks := true }, kinds := [], alts := [], laidByText := true, laidKinds := [.sentinel, .sentinel, .sentinel], laidTests := true, laidLooks := .later }
def FnHeaderCardSaid : Prop := Claim7.holds Tryd.pinned (.plain (OpenSpec.ofChange fnHeaderSpec)) fnHeaderCard

/-- THE TIED CARD OF 'laws.FnTapRoot'. -/
def fnTapRootCard : Claim7 := { stood := { row := fnTapRootRow, standIns := [], harness := (true, "4874447272aa5874ef9c0399724f01fcc1a31933dc834f09f1dff3b3419cb314"), looks := true }, kinds := [], alts := [], laidByText := true, laidKinds := [.sentinel], laidTests := true, laidLooks := .later }
def FnTapRootCardSaid : Prop := Claim7.holds Tryd.pinned (.plain (OpenSpec.ofChange fnTapRootSpec)) fnTapRootCard

/-- THE SECOND FORM's CARD OF 'laws.FnHeader'. -/
def fnHeaderUptoCard : Claim7 := { stood := { row := fnHeaderUptoRow, standIns := [], harness := (true, "4874447272aa5874ef9c0399724f01fcc1a31933dc834f09f1dff3b3419cb314"), looks := true }, kinds := [], alts := [], laidByText := true, laidKinds := [.sentinel, .sentinel, .sentinel], laidTests := true, laidLooks := .later }
def FnHeaderUptoCardSaid : Prop := Claim7.holds Tryd.pinned (.plain (OpenSpec.upto fnHeaderSpec)) fnHeaderUptoCard

/-- THE SECOND FORM's CARD OF 'laws.FnTapRoot'. -/
def fnTapRootUptoCard : Claim7 := { stood := { row := fnTapRootUptoRow, standIns := [], harness := (true, "4874447272aa5874ef9c0399724f01fcc1a31933dc834f09f1dff3b3419cb314"), looks := true }, kinds := [], alts := [], laidByText := true, laidKinds := [.sentinel], laidTests := true, laidLooks := .later }
def FnTapRootUptoCardSaid : Prop := Claim7.holds Tryd.pinned (.plain (OpenSpec.upto fnTapRootSpec)) fnTapRootUptoCard
end Rows
end Go.Proofs.YtigpdgfhngknhaaDoor
