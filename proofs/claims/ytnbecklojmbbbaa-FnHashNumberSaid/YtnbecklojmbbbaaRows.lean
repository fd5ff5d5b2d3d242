/-
  No cell of these rows narrows 'for every input' (looked for: loops, veiled, ifaces, maps, wideKeys, modest, calm, conditions, laid).
  DERIVED. THE GIVEN ROWS OF THIS SEAT. 6 by the template 'for every input the law returns true; each argument reads behind the call as it read before'; 0 by the template 'total and deterministic' (their statements: YtnbecklojmbbbaaTotals.lean).
  GIVEN WITH THE SEED: the statements are not yours to turn. If you find one false, say at which input.
  Laid BY PROGRAM, IN A SANDBOX (cutbox-rows.mjs): the forced cells as the released guide's own fill.sh prints them over the translation 0a097671ee571d61… (all of the seat's roots in one cut). By AI agents, Wed Nov 11 2026. No macro, syntax, notation, axiom, sorry.
-/
import Derived.Test.YtnbecklojmbbbaaChecked
import GoSem.Claim
import GoSem.ClaimJoined
import GoSem.ClaimMapViews
import Derived.JoinedTies
import Derived.KernelRfl
namespace Go.Proofs.Ytnbecklojmbbbaa
/- THE CELL 'sum', in the pinned program and in every row, IS THE sha256 OF THE DUMP (.gsa) THAT YtnbecklojmbbbaaProg.lean LOADS. Nothing in Lean hashes anything: it is a label: what it is worth is what the hold of that sum in a sandbox is worth. -/
noncomputable def Try.pinned : Pinned := { name := "ytnbecklojmbbbaa", sum := "0a097671ee571d61969c5b770c525b03183df7e663a96841120a00af734c0ecc", checked := Try.checked }
namespace Rows
def none {H : Type} : Left H := { results := [], args := [] }

/-- 'laws.FnSubsidy': WHATEVER THE INPUT: true; the input reads as it did. -/
def fnSubsidySpec : ChangeSpec := { name := "fnSubsidy", fn := fun _ => fun
  | [d1, d2] => { results := [.lit (.bool true)], args := [d1, d2] }
  | _ => none }
def fnSubsidyRow : OpenClaim := { program := "ytnbecklojmbbbaa", sum := "0a097671ee571d61969c5b770c525b03183df7e663a96841120a00af734c0ecc", func := "pub-mintmark/laws.FnSubsidy", spec := "fnSubsidy", apart := false }
def FnSubsidySaid : Prop := fnSubsidyRow.holds Try.pinned (OpenSpec.ofChange fnSubsidySpec)

/-- ITS FALSE NEIGHBOUR: 'it returns false'. Refute it at one input. -/
def fnSubsidyWrong : ChangeSpec := { name := "fnSubsidy", fn := fun _ => fun
  | [d1, d2] => { results := [.lit (.bool false)], args := [d1, d2] }
  | _ => none }
def FnSubsidyWrongFalsely : Prop := fnSubsidyRow.holds Try.pinned (OpenSpec.ofChange fnSubsidyWrong)

/-- 'laws.FnLockPassed': WHATEVER THE INPUT: true; the input reads as it did. -/
def fnLockPassedSpec : ChangeSpec := { name := "fnLockPassed", fn := fun _ => fun
  | [d1, d2, d3, d4] => { results := [.lit (.bool true)], args := [d1, d2, d3, d4] }
  | _ => none }
def fnLockPassedRow : OpenClaim := { program := "ytnbecklojmbbbaa", sum := "0a097671ee571d61969c5b770c525b03183df7e663a96841120a00af734c0ecc", func := "pub-mintmark/laws.FnLockPassed", spec := "fnLockPassed", apart := false }
def FnLockPassedSaid : Prop := fnLockPassedRow.holds Try.pinned (OpenSpec.ofChange fnLockPassedSpec)

/-- ITS FALSE NEIGHBOUR: 'it returns false'. Refute it at one input. -/
def fnLockPassedWrong : ChangeSpec := { name := "fnLockPassed", fn := fun _ => fun
  | [d1, d2, d3, d4] => { results := [.lit (.bool false)], args := [d1, d2, d3, d4] }
  | _ => none }
def FnLockPassedWrongFalsely : Prop := fnLockPassedRow.holds Try.pinned (OpenSpec.ofChange fnLockPassedWrong)

/-- 'laws.FnHashNumber': WHATEVER THE INPUT: true; the input reads as it did. -/
def fnHashNumberSpec : ChangeSpec := { name := "fnHashNumber", fn := fun _ => fun
  | [d] => { results := [.lit (.bool true)], args := [d] }
  | _ => none }
def fnHashNumberRow : OpenClaim := { program := "ytnbecklojmbbbaa", sum := "0a097671ee571d61969c5b770c525b03183df7e663a96841120a00af734c0ecc", func := "pub-mintmark/laws.FnHashNumber", spec := "fnHashNumber", apart := false }
def FnHashNumberSaid : Prop := fnHashNumberRow.holds Try.pinned (OpenSpec.ofChange fnHashNumberSpec)

/-- ITS FALSE NEIGHBOUR: 'it returns false'. Refute it at one input. -/
def fnHashNumberWrong : ChangeSpec := { name := "fnHashNumber", fn := fun _ => fun
  | [d] => { results := [.lit (.bool false)], args := [d] }
  | _ => none }
def FnHashNumberWrongFalsely : Prop := fnHashNumberRow.holds Try.pinned (OpenSpec.ofChange fnHashNumberWrong)

/-- 'laws.FnRegroup': WHATEVER THE INPUT: true; the input reads as it did. -/
def fnRegroupSpec : ChangeSpec := { name := "fnRegroup", fn := fun _ => fun
  | [d1, d2, d3, d4] => { results := [.lit (.bool true)], args := [d1, d2, d3, d4] }
  | _ => none }
def fnRegroupRow : OpenClaim := { program := "ytnbecklojmbbbaa", sum := "0a097671ee571d61969c5b770c525b03183df7e663a96841120a00af734c0ecc", func := "pub-mintmark/laws.FnRegroup", spec := "fnRegroup", apart := false }
def FnRegroupSaid : Prop := fnRegroupRow.holds Try.pinned (OpenSpec.ofChange fnRegroupSpec)

/-- ITS FALSE NEIGHBOUR: 'it returns false'. Refute it at one input. -/
def fnRegroupWrong : ChangeSpec := { name := "fnRegroup", fn := fun _ => fun
  | [d1, d2, d3, d4] => { results := [.lit (.bool false)], args := [d1, d2, d3, d4] }
  | _ => none }
def FnRegroupWrongFalsely : Prop := fnRegroupRow.holds Try.pinned (OpenSpec.ofChange fnRegroupWrong)

/-- 'laws.FnScriptPlaces': WHATEVER THE INPUT: true; the input reads as it did. -/
def fnScriptPlacesSpec : ChangeSpec := { name := "fnScriptPlaces", fn := fun _ => fun
  | [d] => { results := [.lit (.bool true)], args := [d] }
  | _ => none }
def fnScriptPlacesRow : OpenClaim := { program := "ytnbecklojmbbbaa", sum := "0a097671ee571d61969c5b770c525b03183df7e663a96841120a00af734c0ecc", func := "pub-mintmark/laws.FnScriptPlaces", spec := "fnScriptPlaces", apart := false }
def FnScriptPlacesSaid : Prop := fnScriptPlacesRow.holds Try.pinned (OpenSpec.ofChange fnScriptPlacesSpec)

/-- ITS FALSE NEIGHBOUR: 'it returns false'. Refute it at one input. -/
def fnScriptPlacesWrong : ChangeSpec := { name := "fnScriptPlaces", fn := fun _ => fun
  | [d] => { results := [.lit (.bool false)], args := [d] }
  | _ => none }
def FnScriptPlacesWrongFalsely : Prop := fnScriptPlacesRow.holds Try.pinned (OpenSpec.ofChange fnScriptPlacesWrong)

/-- 'laws.FnTarget': WHATEVER THE INPUT: true; the input reads as it did. -/
def fnTargetSpec : ChangeSpec := { name := "fnTarget", fn := fun _ => fun
  | [d] => { results := [.lit (.bool true)], args := [d] }
  | _ => none }
def fnTargetRow : OpenClaim := { program := "ytnbecklojmbbbaa", sum := "0a097671ee571d61969c5b770c525b03183df7e663a96841120a00af734c0ecc", func := "pub-mintmark/laws.FnTarget", spec := "fnTarget", apart := false }
def FnTargetSaid : Prop := fnTargetRow.holds Try.pinned (OpenSpec.ofChange fnTargetSpec)

/-- ITS FALSE NEIGHBOUR: 'it returns false'. Refute it at one input. -/
def fnTargetWrong : ChangeSpec := { name := "fnTarget", fn := fun _ => fun
  | [d] => { results := [.lit (.bool false)], args := [d] }
  | _ => none }
def FnTargetWrongFalsely : Prop := fnTargetRow.holds Try.pinned (OpenSpec.ofChange fnTargetWrong)

/- THE SECOND FORM. 'bulk': how many values and letters a reading holds, each counted each time it is reached (what is shared counts as often as it is met; a slice's spare places count too). A statement '..UptoSaid' is the law's where the arguments, and the package variables that the reading takes, are together of bulk at most 1048576: NARROWER than '..Said'. Prove '..Said' where nothing that the law and all that it calls make is longer than what came in: it says more and counts as full. Else prove '..UptoSaid'. A law counts once. -/
mutual
def uptoBulk {H : Type} : DataW H → Nat
  | .lit (.string bytes) => bytes.length + 1
  | .lit _ => 1
  | .nil => 1
  | .ptr d => uptoBulk d + 1
  | .slice elems spare => uptoBulkAll elems + uptoBulkAll spare + 1
  | .agg parts => uptoBulkAll parts + 1
  | .iface _ d => uptoBulk d + 1
  | .map entries => uptoBulkEntries entries + 1
  | .held _ => 1
def uptoBulkAll {H : Type} : List (DataW H) → Nat
  | [] => 0
  | d :: r => uptoBulk d + uptoBulkAll r
def uptoBulkEntries {H : Type} : List (Lit × DataW H) → Nat
  | [] => 0
  | x :: r => uptoBulkEntry x + uptoBulkEntries r
def uptoBulkEntry {H : Type} : Lit × DataW H → Nat
  | (.string bytes, d) => bytes.length + uptoBulk d + 1
  | (_, d) => uptoBulk d + 1
 end
def uptoSmall : (H : Type) → List (DataW H) → Bool := fun _ ds => decide (uptoBulkAll ds ≤ 1048576)
def OpenSpec.upto (s : _root_.Go.ChangeSpec) : _root_.Go.OpenSpec := { _root_.Go.OpenSpec.ofChange s with cond := some uptoSmall }

/-- 'laws.FnSubsidy', WHERE WHAT IT READS IS OF BULK AT MOST 1048576: true; the input reads as it did. -/
def fnSubsidyUptoRow : OpenClaim := { program := "ytnbecklojmbbbaa", sum := "0a097671ee571d61969c5b770c525b03183df7e663a96841120a00af734c0ecc", func := "pub-mintmark/laws.FnSubsidy", spec := "fnSubsidy", apart := false, narrowed := true }
def FnSubsidyUptoSaid : Prop := fnSubsidyUptoRow.holds Try.pinned (OpenSpec.upto fnSubsidySpec)

/-- 'laws.FnLockPassed', WHERE WHAT IT READS IS OF BULK AT MOST 1048576: true; the input reads as it did. -/
def fnLockPassedUptoRow : OpenClaim := { program := "ytnbecklojmbbbaa", sum := "0a097671ee571d61969c5b770c525b03183df7e663a96841120a00af734c0ecc", func := "pub-mintmark/laws.FnLockPassed", spec := "fnLockPassed", apart := false, narrowed := true }
def FnLockPassedUptoSaid : Prop := fnLockPassedUptoRow.holds Try.pinned (OpenSpec.upto fnLockPassedSpec)

/-- 'laws.FnHashNumber', WHERE WHAT IT READS IS OF BULK AT MOST 1048576: true; the input reads as it did. -/
def fnHashNumberUptoRow : OpenClaim := { program := "ytnbecklojmbbbaa", sum := "0a097671ee571d61969c5b770c525b03183df7e663a96841120a00af734c0ecc", func := "pub-mintmark/laws.FnHashNumber", spec := "fnHashNumber", apart := false, narrowed := true }
def FnHashNumberUptoSaid : Prop := fnHashNumberUptoRow.holds Try.pinned (OpenSpec.upto fnHashNumberSpec)

/-- 'laws.FnRegroup', WHERE WHAT IT READS IS OF BULK AT MOST 1048576: true; the input reads as it did. -/
def fnRegroupUptoRow : OpenClaim := { program := "ytnbecklojmbbbaa", sum := "0a097671ee571d61969c5b770c525b03183df7e663a96841120a00af734c0ecc", func := "pub-mintmark/laws.FnRegroup", spec := "fnRegroup", apart := false, narrowed := true }
def FnRegroupUptoSaid : Prop := fnRegroupUptoRow.holds Try.pinned (OpenSpec.upto fnRegroupSpec)

/-- 'laws.FnScriptPlaces', WHERE WHAT IT READS IS OF BULK AT MOST 1048576: true; the input reads as it did. -/
def fnScriptPlacesUptoRow : OpenClaim := { program := "ytnbecklojmbbbaa", sum := "0a097671ee571d61969c5b770c525b03183df7e663a96841120a00af734c0ecc", func := "pub-mintmark/laws.FnScriptPlaces", spec := "fnScriptPlaces", apart := false, narrowed := true }
def FnScriptPlacesUptoSaid : Prop := fnScriptPlacesUptoRow.holds Try.pinned (OpenSpec.upto fnScriptPlacesSpec)

/-- 'laws.FnTarget', WHERE WHAT IT READS IS OF BULK AT MOST 1048576: true; the input reads as it did. -/
def fnTargetUptoRow : OpenClaim := { program := "ytnbecklojmbbbaa", sum := "0a097671ee571d61969c5b770c525b03183df7e663a96841120a00af734c0ecc", func := "pub-mintmark/laws.FnTarget", spec := "fnTarget", apart := false, narrowed := true }
def FnTargetUptoSaid : Prop := fnTargetUptoRow.holds Try.pinned (OpenSpec.upto fnTargetSpec)

end Rows
end Go.Proofs.Ytnbecklojmbbbaa
