-- Made by a turned print (own tool turnprint.py over the kit print).
import Derived.Test.YtbbeedclkfcmeaaProg
import Derived.Below
import Derived.Deep.Draws
import Derived.Deep.AppendLies
import Derived.Maps.AppendAt
import Derived.OwnWalk
import Derived.Laws.BytesArg
import Derived.Laws.MakeOwn
import Derived.Laws.OwnMore
import Derived.Deep.OwnRows
import Derived.Tactics
import Derived.Lib.ConvBytes
import Derived.Laws.Slices
import Derived.WalkKit
import Derived.KernelRfl
import Derived.RowKit3
import Derived.Deep.LoopGhost
import Derived.Deep.QuietTactic
import Derived.BigQuiet
import Derived.WideLaws
import Derived.Deep.DeepCutAuto
import Derived.Deep.CutBlock
import Derived.Deep.RegionHeld3
import Derived.Laws.Rows
import Derived.Lib.AppendStr
import Derived.ArgAppend
import Derived.Laws.IdiomCopy
import Derived.OrdersHeld
import Derived.Laws.BitsLemmas
import Derived.RowKit
import Derived.Test.YtbbeedclkfcmeaaWWords
import Derived.Test.YtbbeedclkfcmeaaWLast
import Derived.Test.YtbbeedclkfcmeaaWTab
import Derived.Test.YtbbeedclkfcmeaaWFour
import Derived.Test.YtbbeedclkfcmeaaWQPut
import Derived.Test.YtbbeedclkfcmeaaWApart
import Derived.Test.YtbbeedclkfcmeaaWArr
import Derived.Test.YtbbeedclkfcmeaaWZeros
import Derived.Test.YtbbeedclkfcmeaaWFoot
import Derived.Test.YtbbeedclkfcmeaaWKept
import Derived.Test.YtbbeedclkfcmeaaWShare
import Derived.Test.YtbbeedclkfcmeaaWN
import Derived.Test.YtbbeedclkfcmeaaWFootNe
import Derived.Test.YtbbeedclkfcmeaaWAt
import Derived.Test.YtbbeedclkfcmeaaWEqStruct
import Derived.Test.YtbbeedclkfcmeaaWRepsOne
import Derived.Test.YtbbeedclkfcmeaaWInv
import Derived.Test.YtbbeedclkfcmeaaWInvWords
import Derived.Test.YtbbeedclkfcmeaaWGuard
import Derived.Test.YtbbeedclkfcmeaaWNEv
import Derived.Test.YtbbeedclkfcmeaaWMore
import Derived.Test.YtbbeedclkfcmeaaTurn
namespace Go.Proofs.Ytbbeedclkfcmeaa.QFnBloom
open Go.RowKit Go.Proofs.YtbbeedclkfcmeaaW.PrintWords Go.Proofs.YtbbeedclkfcmeaaW.PrintLast Go.Proofs.YtbbeedclkfcmeaaW.PrintMore
attribute [local go_sem] nn_mod256 nn_mod65536 nn_mod32 max2_int min2_int max_two min_two max_three min_three max_four min_four   -- for this text's walks alone
set_option linter.unusedVariables false
set_option linter.unusedSimpArgs false



def errW : Option Int → Value
  | none => .nilIface
  | some c => .iface (c.toNat + 0 * 0) (.agg #[])
theorem errW_none : errW none = .nilIface := rfl
theorem errW_some (c : Int) : errW (some c) = .iface (c.toNat + 0 * 0) (.agg #[]) := rfl

theorem info5 : (Try.prog.info? 5).map (fun i => (i.zero, i.size, i.bytes)) = some (some (.int .u8 0), 1, 1) := by kernel_rfl
-- the values' own types

end Go.Proofs.Ytbbeedclkfcmeaa.QFnBloom
