/-
  DERIVED. GIVEN WITH THE SEED: THE CARDS: each row of YtpogfbompljkkaaDoorRows.lean that lists a variable, with what it lists TIED to the program's text (the seventh form; the later family's looks); each row that meets fmt, with fmt's text TOLD by the authors' own Lean function (tested against real Go, not proved from fmt's source: count such statements apart). THE CARD IS WHAT COUNTS. Prove the row's statement (the work); the ties are given (YtpogfbompljkkaaDoorTie.lean); close each card by the builder's one call (the guide's Derived/Test/ToyasCard.lean, 'card_holds'). Laid BY PROGRAM, IN A SANDBOX (cutbox-door.mjs). By AI agents, Wed Nov 11 2026. No macro, syntax, notation, axiom, sorry.
-/
import Derived.Test.YtpogfbompljkkaaDoorRows
import GoSem.ClaimSeven
namespace Go.Proofs.YtpogfbompljkkaaDoor
namespace Rows

/-- THE TIED CARD OF 'laws.FnReadHashText'. -/
def fnReadHashTextCard : Claim7 := { stood := { row := fnReadHashTextRow, standIns := [], harness := (true, "1bdc47a64e9a36b3ad40871ce829815e1df802113d90eb6527ac7e312308333c"), looks := true }, kinds := [], alts := [], laidByText := true, laidKinds := [.sentinel, .sentinel], laidTests := true, laidLooks := .later }
def FnReadHashTextCardSaid : Prop := Claim7.holds Tryd.pinned (.plain (OpenSpec.ofChange fnReadHashTextSpec)) fnReadHashTextCard

/-- THE TIED CARD OF 'laws.FnVarBytes'. -/
def fnVarBytesCard : Claim7 := { stood := { row := fnVarBytesRow, standIns := [], harness := (true, "1bdc47a64e9a36b3ad40871ce829815e1df802113d90eb6527ac7e312308333c"), looks := true }, kinds := [], alts := [], laidByText := true, laidKinds := [.sentinel, .sentinel, .sentinel], laidTests := true, laidLooks := .later }
def FnVarBytesCardSaid : Prop := Claim7.holds Tryd.pinned (.plain (OpenSpec.ofChange fnVarBytesSpec)) fnVarBytesCard

/-- THE SECOND FORM's CARD OF 'laws.FnReadHashText'. -/
def fnReadHashTextUptoCard : Claim7 := { stood := { row := fnReadHashTextUptoRow, standIns := [], harness := (true, "1bdc47a64e9a36b3ad40871ce829815e1df802113d90eb6527ac7e312308333c"), looks := true }, kinds := [], alts := [], laidByText := true, laidKinds := [.sentinel, .sentinel], laidTests := true, laidLooks := .later }
def FnReadHashTextUptoCardSaid : Prop := Claim7.holds Tryd.pinned (.plain (OpenSpec.upto fnReadHashTextSpec)) fnReadHashTextUptoCard

/-- THE SECOND FORM's CARD OF 'laws.FnVarBytes'. -/
def fnVarBytesUptoCard : Claim7 := { stood := { row := fnVarBytesUptoRow, standIns := [], harness := (true, "1bdc47a64e9a36b3ad40871ce829815e1df802113d90eb6527ac7e312308333c"), looks := true }, kinds := [], alts := [], laidByText := true, laidKinds := [.sentinel, .sentinel, .sentinel], laidTests := true, laidLooks := .later }
def FnVarBytesUptoCardSaid : Prop := Claim7.holds Tryd.pinned (.plain (OpenSpec.upto fnVarBytesSpec)) fnVarBytesUptoCard
end Rows
end Go.Proofs.YtpogfbompljkkaaDoor
