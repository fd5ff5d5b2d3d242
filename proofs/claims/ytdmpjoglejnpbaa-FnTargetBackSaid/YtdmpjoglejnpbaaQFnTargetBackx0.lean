-- Made by a turned print (own tool turnprint.py over the kit print).
import Derived.Test.YtdmpjoglejnpbaaProg
import Derived.Below
import Derived.Deep.Draws
import Derived.Deep.AppendLies
import Derived.Maps.AppendAt
import Derived.OwnWalk
import Derived.Laws.BytesArg
import Derived.Laws.MakeOwn
import Derived.Laws.OwnMore
import Derived.Deep.OwnRows
import Derived.Tactics
import Derived.Lib.ConvBytes
import Derived.Laws.Slices
import Derived.WalkKit
import Derived.KernelRfl
import Derived.RowKit3
import Derived.Deep.LoopGhost
import Derived.Deep.QuietTactic
import Derived.BigQuiet
import Derived.WideLaws
import Derived.Deep.DeepCutAuto
import Derived.Deep.CutBlock
import Derived.Deep.RegionHeld3
import Derived.Laws.Rows
import Derived.Lib.AppendStr
import Derived.ArgAppend
import Derived.Laws.IdiomCopy
import Derived.OrdersHeld
import Derived.Laws.BitsLemmas
import Derived.RowKit
import Derived.Test.YtdmpjoglejnpbaaWWords
import Derived.Test.YtdmpjoglejnpbaaWLast
import Derived.Test.YtdmpjoglejnpbaaWTab
import Derived.Test.YtdmpjoglejnpbaaWFour
import Derived.Test.YtdmpjoglejnpbaaWQPut
import Derived.Test.YtdmpjoglejnpbaaWApart
import Derived.Test.YtdmpjoglejnpbaaWArr
import Derived.Test.YtdmpjoglejnpbaaWZeros
import Derived.Test.YtdmpjoglejnpbaaWFoot
import Derived.Test.YtdmpjoglejnpbaaWKept
import Derived.Test.YtdmpjoglejnpbaaWShare
import Derived.Test.YtdmpjoglejnpbaaWN
import Derived.Test.YtdmpjoglejnpbaaWFootNe
import Derived.Test.YtdmpjoglejnpbaaWAt
import Derived.Test.YtdmpjoglejnpbaaWEqStruct
import Derived.Test.YtdmpjoglejnpbaaWRepsOne
import Derived.Test.YtdmpjoglejnpbaaWInv
import Derived.Test.YtdmpjoglejnpbaaWInvWords
import Derived.Test.YtdmpjoglejnpbaaWGuard
import Derived.Test.YtdmpjoglejnpbaaWNEv
import Derived.Test.YtdmpjoglejnpbaaWMore
import Derived.Test.YtdmpjoglejnpbaaTurn
namespace Go.Proofs.Ytdmpjoglejnpbaa.QFnTargetBack
open Go.RowKit Go.Proofs.YtdmpjoglejnpbaaW.PrintWords Go.Proofs.YtdmpjoglejnpbaaW.PrintLast Go.Proofs.YtdmpjoglejnpbaaW.PrintMore
attribute [local go_sem] nn_mod256 nn_mod65536 nn_mod32 max2_int min2_int max_two min_two max_three min_three max_four min_four   -- for this text's walks alone
set_option linter.unusedVariables false
set_option linter.unusedSimpArgs false



def errW : Option Int → Value
  | none => .nilIface
  | some c => .iface (c.toNat + 0 * 0) (.agg #[])
theorem errW_none : errW none = .nilIface := rfl
theorem errW_some (c : Int) : errW (some c) = .iface (c.toNat + 0 * 0) (.agg #[]) := rfl

theorem info5 : (Try.prog.info? 5).map (fun i => (i.zero, i.size, i.bytes)) = some (some (.int .u8 0), 1, 1) := by kernel_rfl
theorem info24 : (Try.prog.info? 24).map (fun i => (i.zero, i.size, i.bytes)) = some (some (.int .u32 0), 1, 4) := by kernel_rfl
-- the values' own types

end Go.Proofs.Ytdmpjoglejnpbaa.QFnTargetBack
