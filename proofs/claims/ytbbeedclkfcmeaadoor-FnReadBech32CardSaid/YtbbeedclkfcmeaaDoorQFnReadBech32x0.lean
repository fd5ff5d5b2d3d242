-- Made by a turned print (own tool turnprint.py over the kit print).
import Derived.Test.YtbbeedclkfcmeaaDoorProg
import Derived.Below
import Derived.Deep.Draws
import Derived.Deep.AppendLies
import Derived.Maps.AppendAt
import Derived.OwnWalk
import Derived.Laws.BytesArg
import Derived.Laws.MakeOwn
import Derived.Laws.OwnMore
import Derived.Deep.OwnRows
import Derived.Tactics
import Derived.Lib.ConvBytes
import Derived.Laws.Slices
import Derived.WalkKit
import Derived.KernelRfl
import Derived.RowKit3
import Derived.Deep.LoopGhost
import Derived.Deep.QuietTactic
import Derived.BigQuiet
import Derived.WideLaws
import Derived.Deep.DeepCutAuto
import Derived.Deep.CutBlock
import Derived.Deep.RegionHeld3
import Derived.Laws.Rows
import Derived.Lib.AppendStr
import Derived.ArgAppend
import Derived.Laws.IdiomCopy
import Derived.OrdersHeld
import Derived.Laws.BitsLemmas
import Derived.RowKit
import Derived.Test.YtbbeedclkfcmeaaDoorWWords
import Derived.Test.YtbbeedclkfcmeaaDoorWLast
import Derived.Test.YtbbeedclkfcmeaaDoorWTab
import Derived.Test.YtbbeedclkfcmeaaDoorWFour
import Derived.Test.YtbbeedclkfcmeaaDoorWQPut
import Derived.Test.YtbbeedclkfcmeaaDoorWApart
import Derived.Test.YtbbeedclkfcmeaaDoorWArr
import Derived.Test.YtbbeedclkfcmeaaDoorWZeros
import Derived.Test.YtbbeedclkfcmeaaDoorWFoot
import Derived.Test.YtbbeedclkfcmeaaDoorWKept
import Derived.Test.YtbbeedclkfcmeaaDoorWShare
import Derived.Test.YtbbeedclkfcmeaaDoorWN
import Derived.Test.YtbbeedclkfcmeaaDoorWFootNe
import Derived.Test.YtbbeedclkfcmeaaDoorWAt
import Derived.Test.YtbbeedclkfcmeaaDoorWEqStruct
import Derived.Test.YtbbeedclkfcmeaaDoorWRepsOne
import Derived.Test.YtbbeedclkfcmeaaDoorWInv
import Derived.Test.YtbbeedclkfcmeaaDoorWInvWords
import Derived.Test.YtbbeedclkfcmeaaDoorWGuard
import Derived.Test.YtbbeedclkfcmeaaDoorWNEv
import Derived.Test.YtbbeedclkfcmeaaDoorWMore
import Derived.Test.YtbbeedclkfcmeaaDoorTurn
namespace Go.Proofs.YtbbeedclkfcmeaaDoor.QFnReadBech32
open Go.RowKit Go.Proofs.YtbbeedclkfcmeaaDoorW.PrintWords Go.Proofs.YtbbeedclkfcmeaaDoorW.PrintLast Go.Proofs.YtbbeedclkfcmeaaDoorW.PrintMore
attribute [local go_sem] nn_mod256 nn_mod65536 nn_mod32 max2_int min2_int max_two min_two max_three min_three max_four min_four   -- for this text's walks alone
set_option linter.unusedVariables false
set_option linter.unusedSimpArgs false



def errW : Option Int → Value
  | none => .nilIface
  | some c => .iface (c.toNat + 0 * 42) (.agg #[])
theorem errW_none : errW none = .nilIface := rfl
theorem errW_some (c : Int) : errW (some c) = .iface (c.toNat + 0 * 42) (.agg #[]) := rfl

theorem info5 : (Tryd.prog.info? 5).map (fun i => (i.zero, i.size, i.bytes)) = some (some (.int .u8 0), 1, 1) := by kernel_rfl
theorem info23 : (Tryd.prog.info? 23).map (fun i => (i.zero, i.size, i.bytes)) = some (some (.int .u32 0), 1, 4) := by kernel_rfl
-- the values' own types

end Go.Proofs.YtbbeedclkfcmeaaDoor.QFnReadBech32
