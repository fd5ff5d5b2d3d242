/-
  NARROWER THAN 'FOR EVERY INPUT', by the rows' own cells (each row's printed sentence says how): FnReadBech32: laid.
  DERIVED. THE GIVEN ROWS OF THIS SEAT. 1 by the template 'for every input the law returns true; each argument reads behind the call as it read before'; 0 by the template 'total and deterministic' (their statements: YtbbeedclkfcmeaaDoorTotals.lean).
  GIVEN WITH THE SEED: the statements are not yours to turn. If you find one false, say at which input.
  Laid BY PROGRAM, IN A SANDBOX (cutbox-rows.mjs): the forced cells as the released guide's own fill.sh prints them over the translation 6763d67c0e9b3d4a… (all of the seat's roots in one cut). By AI agents, Wed Nov 11 2026. No macro, syntax, notation, axiom, sorry.
-/
import Derived.Test.YtbbeedclkfcmeaaDoorChecked
import GoSem.Claim
import GoSem.ClaimJoined
import GoSem.ClaimMapViews
import Derived.JoinedTies
import Derived.KernelRfl
namespace Go.Proofs.YtbbeedclkfcmeaaDoor
/- THE CELL 'sum', in the pinned program and in every row, IS THE sha256 OF THE DUMP (.gsa) THAT YtbbeedclkfcmeaaDoorProg.lean LOADS. Nothing in Lean hashes anything: it is a label: what it is worth is what the hold of that sum in a sandbox is worth. -/
noncomputable def Tryd.pinned : Pinned := { name := "ytbbeedclkfcmeaadoor", sum := "6763d67c0e9b3d4af75674fba2a13d535bf6896f1d985a51157351940c5c8b48", checked := Tryd.checked }
namespace Rows
def none {H : Type} : Left H := { results := [], args := [] }

/- WHAT THE LISTED PACKAGE-LEVEL VARIABLES READ AS WHEN THE CALL BEGINS. Each datum BY PROGRAM (the guide's laid-datum.mjs) off the statement by which the dump's own 'gosem.cut.vars' lays the variable. In a bare row this is a premise. The card (YtbbeedclkfcmeaaDoorCards.lean) ties it to the program's text. -/
def laid_pub_mintmark_pub_btcdaddress_bech32_gen {H : Type} : DataW H := .slice [.lit (.int .i64 996825010), .lit (.int .i64 642813549), .lit (.int .i64 513874426), .lit (.int .i64 1027748829), .lit (.int .i64 705979059)] []

/-- 'laws.FnReadBech32': WHATEVER THE INPUT: true; the input reads as it did. -/
def fnReadBech32Spec : ChangeSpec := { name := "fnReadBech32", fn := fun _ => fun
  | [d] => { results := [.lit (.bool true)], args := [d] }
  | _ => none }
def fnReadBech32Row : OpenClaim := { program := "ytbbeedclkfcmeaadoor", sum := "6763d67c0e9b3d4af75674fba2a13d535bf6896f1d985a51157351940c5c8b48", func := "pub-mintmark/laws.FnReadBech32", spec := "fnReadBech32", inPlace := ["internal/bytealg.IndexByteString", "internal/abi.NoEscape", "internal/bytealg.MakeNoZero"], named := ["pub-mintmark/pub/btcdaddress/bech32.gen"], apart := false, laid := [("pub-mintmark/pub/btcdaddress/bech32.gen", laid_pub_mintmark_pub_btcdaddress_bech32_gen)] }
def FnReadBech32Said : Prop := fnReadBech32Row.holds Tryd.pinned (OpenSpec.ofChange fnReadBech32Spec)

/-- ITS FALSE NEIGHBOUR: 'it returns false'. Refute it at one input. -/
def fnReadBech32Wrong : ChangeSpec := { name := "fnReadBech32", fn := fun _ => fun
  | [d] => { results := [.lit (.bool false)], args := [d] }
  | _ => none }
def FnReadBech32WrongFalsely : Prop := fnReadBech32Row.holds Tryd.pinned (OpenSpec.ofChange fnReadBech32Wrong)

/- THE SECOND FORM. 'bulk': how many values and letters a reading holds, each counted each time it is reached (what is shared counts as often as it is met; a slice's spare places count too). A statement '..UptoSaid' is the law's where the arguments, and the package variables that the reading takes, are together of bulk at most 1048576: NARROWER than '..Said'. Prove '..Said' where nothing that the law and all that it calls make is longer than what came in: it says more and counts as full. Else prove '..UptoSaid'. A law counts once. -/
mutual
def uptoBulk {H : Type} : DataW H → Nat
  | .lit (.string bytes) => bytes.length + 1
  | .lit _ => 1
  | .nil => 1
  | .ptr d => uptoBulk d + 1
  | .slice elems spare => uptoBulkAll elems + uptoBulkAll spare + 1
  | .agg parts => uptoBulkAll parts + 1
  | .iface _ d => uptoBulk d + 1
  | .map entries => uptoBulkEntries entries + 1
  | .held _ => 1
def uptoBulkAll {H : Type} : List (DataW H) → Nat
  | [] => 0
  | d :: r => uptoBulk d + uptoBulkAll r
def uptoBulkEntries {H : Type} : List (Lit × DataW H) → Nat
  | [] => 0
  | x :: r => uptoBulkEntry x + uptoBulkEntries r
def uptoBulkEntry {H : Type} : Lit × DataW H → Nat
  | (.string bytes, d) => bytes.length + uptoBulk d + 1
  | (_, d) => uptoBulk d + 1
 end
def uptoSmall : (H : Type) → List (DataW H) → Bool := fun _ ds => decide (uptoBulkAll ds ≤ 1048576)
def OpenSpec.upto (s : _root_.Go.ChangeSpec) : _root_.Go.OpenSpec := { _root_.Go.OpenSpec.ofChange s with cond := some uptoSmall }

/-- 'laws.FnReadBech32', WHERE WHAT IT READS IS OF BULK AT MOST 1048576: true; the input reads as it did. -/
def fnReadBech32UptoRow : OpenClaim := { program := "ytbbeedclkfcmeaadoor", sum := "6763d67c0e9b3d4af75674fba2a13d535bf6896f1d985a51157351940c5c8b48", func := "pub-mintmark/laws.FnReadBech32", spec := "fnReadBech32", inPlace := ["internal/bytealg.IndexByteString", "internal/abi.NoEscape", "internal/bytealg.MakeNoZero"], named := ["pub-mintmark/pub/btcdaddress/bech32.gen"], apart := false, laid := [("pub-mintmark/pub/btcdaddress/bech32.gen", laid_pub_mintmark_pub_btcdaddress_bech32_gen)], narrowed := true }
def FnReadBech32UptoSaid : Prop := fnReadBech32UptoRow.holds Tryd.pinned (OpenSpec.upto fnReadBech32Spec)

end Rows
end Go.Proofs.YtbbeedclkfcmeaaDoor
