/-
  No cell of these rows narrows 'for every input' (looked for: loops, veiled, ifaces, maps, wideKeys, modest, calm, conditions, laid).
  DERIVED. THE GIVEN ROWS OF THIS SEAT. 3 by the template 'for every input the law returns true; each argument reads behind the call as it read before'; 0 by the template 'total and deterministic' (their statements: YtdheoajaaofmbaaTotals.lean).
  GIVEN WITH THE SEED: the statements are not yours to turn. If you find one false, say at which input.
  Laid BY PROGRAM, IN A SANDBOX (cutbox-rows.mjs): the forced cells as the released guide's own fill.sh prints them over the translation 8b6e417433ae039d… (all of the seat's roots in one cut). By AI agents, Wed Nov 11 2026. No macro, syntax, notation, axiom, sorry.
-/
import Derived.Test.YtdheoajaaofmbaaChecked
import GoSem.Claim
import GoSem.ClaimJoined
import GoSem.ClaimMapViews
import Derived.JoinedTies
import Derived.KernelRfl
namespace Go.Proofs.Ytdheoajaaofmbaa
/- THE CELL 'sum', in the pinned program and in every row, IS THE sha256 OF THE DUMP (.gsa) THAT YtdheoajaaofmbaaProg.lean LOADS. Nothing in Lean hashes anything: it is a label: what it is worth is what the hold of that sum in a sandbox is worth. -/
noncomputable def Try.pinned : Pinned := { name := "ytdheoajaaofmbaa", sum := "8b6e417433ae039daac06fda453a8833478523bf3e0a7949d2c59c6e4b036523", checked := Try.checked }
namespace Rows
def none {H : Type} : Left H := { results := [], args := [] }

/-- 'laws.FnScriptPlaces': WHATEVER THE INPUT: true; the input reads as it did. -/
def fnScriptPlacesSpec : ChangeSpec := { name := "fnScriptPlaces", fn := fun _ => fun
  | [d] => { results := [.lit (.bool true)], args := [d] }
  | _ => none }
def fnScriptPlacesRow : OpenClaim := { program := "ytdheoajaaofmbaa", sum := "8b6e417433ae039daac06fda453a8833478523bf3e0a7949d2c59c6e4b036523", func := "pub-mintmark/laws.FnScriptPlaces", spec := "fnScriptPlaces", plainKeys := false, apart := false }
def FnScriptPlacesSaid : Prop := fnScriptPlacesRow.holds Try.pinned (OpenSpec.ofChange fnScriptPlacesSpec)

/-- ITS FALSE NEIGHBOUR: 'it returns false'. Refute it at one input. -/
def fnScriptPlacesWrong : ChangeSpec := { name := "fnScriptPlaces", fn := fun _ => fun
  | [d] => { results := [.lit (.bool false)], args := [d] }
  | _ => none }
def FnScriptPlacesWrongFalsely : Prop := fnScriptPlacesRow.holds Try.pinned (OpenSpec.ofChange fnScriptPlacesWrong)

/-- 'laws.FnTxFault': WHATEVER THE INPUT: true; the input reads as it did. -/
def fnTxFaultSpec : ChangeSpec := { name := "fnTxFault", fn := fun _ => fun
  | [d] => { results := [.lit (.bool true)], args := [d] }
  | _ => none }
def fnTxFaultRow : OpenClaim := { program := "ytdheoajaaofmbaa", sum := "8b6e417433ae039daac06fda453a8833478523bf3e0a7949d2c59c6e4b036523", func := "pub-mintmark/laws.FnTxFault", spec := "fnTxFault", unfollowed := true, recurses := true, plainKeys := false, apart := false }
def FnTxFaultSaid : Prop := fnTxFaultRow.holds Try.pinned (OpenSpec.ofChange fnTxFaultSpec)

/-- ITS FALSE NEIGHBOUR: 'it returns false'. Refute it at one input. -/
def fnTxFaultWrong : ChangeSpec := { name := "fnTxFault", fn := fun _ => fun
  | [d] => { results := [.lit (.bool false)], args := [d] }
  | _ => none }
def FnTxFaultWrongFalsely : Prop := fnTxFaultRow.holds Try.pinned (OpenSpec.ofChange fnTxFaultWrong)

/-- 'laws.FnInputFault': WHATEVER THE INPUT: true; the input reads as it did. -/
def fnInputFaultSpec : ChangeSpec := { name := "fnInputFault", fn := fun _ => fun
  | [d1, d2, d3, d4] => { results := [.lit (.bool true)], args := [d1, d2, d3, d4] }
  | _ => none }
def fnInputFaultRow : OpenClaim := { program := "ytdheoajaaofmbaa", sum := "8b6e417433ae039daac06fda453a8833478523bf3e0a7949d2c59c6e4b036523", func := "pub-mintmark/laws.FnInputFault", spec := "fnInputFault", unfollowed := true, recurses := true, plainKeys := false, apart := false }
def FnInputFaultSaid : Prop := fnInputFaultRow.holds Try.pinned (OpenSpec.ofChange fnInputFaultSpec)

/-- ITS FALSE NEIGHBOUR: 'it returns false'. Refute it at one input. -/
def fnInputFaultWrong : ChangeSpec := { name := "fnInputFault", fn := fun _ => fun
  | [d1, d2, d3, d4] => { results := [.lit (.bool false)], args := [d1, d2, d3, d4] }
  | _ => none }
def FnInputFaultWrongFalsely : Prop := fnInputFaultRow.holds Try.pinned (OpenSpec.ofChange fnInputFaultWrong)

/- THE SECOND FORM. 'bulk': how many values and letters a reading holds, each counted each time it is reached (what is shared counts as often as it is met; a slice's spare places count too). A statement '..UptoSaid' is the law's where the arguments, and the package variables that the reading takes, are together of bulk at most 1048576: NARROWER than '..Said'. Prove '..Said' where nothing that the law and all that it calls make is longer than what came in: it says more and counts as full. Else prove '..UptoSaid'. A law counts once. -/
mutual
def uptoBulk {H : Type} : DataW H → Nat
  | .lit (.string bytes) => bytes.length + 1
  | .lit _ => 1
  | .nil => 1
  | .ptr d => uptoBulk d + 1
  | .slice elems spare => uptoBulkAll elems + uptoBulkAll spare + 1
  | .agg parts => uptoBulkAll parts + 1
  | .iface _ d => uptoBulk d + 1
  | .map entries => uptoBulkEntries entries + 1
  | .held _ => 1
def uptoBulkAll {H : Type} : List (DataW H) → Nat
  | [] => 0
  | d :: r => uptoBulk d + uptoBulkAll r
def uptoBulkEntries {H : Type} : List (Lit × DataW H) → Nat
  | [] => 0
  | x :: r => uptoBulkEntry x + uptoBulkEntries r
def uptoBulkEntry {H : Type} : Lit × DataW H → Nat
  | (.string bytes, d) => bytes.length + uptoBulk d + 1
  | (_, d) => uptoBulk d + 1
 end
def uptoSmall : (H : Type) → List (DataW H) → Bool := fun _ ds => decide (uptoBulkAll ds ≤ 1048576)
def OpenSpec.upto (s : _root_.Go.ChangeSpec) : _root_.Go.OpenSpec := { _root_.Go.OpenSpec.ofChange s with cond := some uptoSmall }

/-- 'laws.FnScriptPlaces', WHERE WHAT IT READS IS OF BULK AT MOST 1048576: true; the input reads as it did. -/
def fnScriptPlacesUptoRow : OpenClaim := { program := "ytdheoajaaofmbaa", sum := "8b6e417433ae039daac06fda453a8833478523bf3e0a7949d2c59c6e4b036523", func := "pub-mintmark/laws.FnScriptPlaces", spec := "fnScriptPlaces", plainKeys := false, apart := false, narrowed := true }
def FnScriptPlacesUptoSaid : Prop := fnScriptPlacesUptoRow.holds Try.pinned (OpenSpec.upto fnScriptPlacesSpec)

/-- 'laws.FnTxFault', WHERE WHAT IT READS IS OF BULK AT MOST 1048576: true; the input reads as it did. -/
def fnTxFaultUptoRow : OpenClaim := { program := "ytdheoajaaofmbaa", sum := "8b6e417433ae039daac06fda453a8833478523bf3e0a7949d2c59c6e4b036523", func := "pub-mintmark/laws.FnTxFault", spec := "fnTxFault", unfollowed := true, recurses := true, plainKeys := false, apart := false, narrowed := true }
def FnTxFaultUptoSaid : Prop := fnTxFaultUptoRow.holds Try.pinned (OpenSpec.upto fnTxFaultSpec)

/-- 'laws.FnInputFault', WHERE WHAT IT READS IS OF BULK AT MOST 1048576: true; the input reads as it did. -/
def fnInputFaultUptoRow : OpenClaim := { program := "ytdheoajaaofmbaa", sum := "8b6e417433ae039daac06fda453a8833478523bf3e0a7949d2c59c6e4b036523", func := "pub-mintmark/laws.FnInputFault", spec := "fnInputFault", unfollowed := true, recurses := true, plainKeys := false, apart := false, narrowed := true }
def FnInputFaultUptoSaid : Prop := fnInputFaultUptoRow.holds Try.pinned (OpenSpec.upto fnInputFaultSpec)

end Rows
end Go.Proofs.Ytdheoajaaofmbaa
