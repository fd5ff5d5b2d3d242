-- Made by a turned print (own tool turnprint.py over the kit print).
import Derived.Test.YtnnegacjgpejdaaProg
import Derived.Below
import Derived.Deep.Draws
import Derived.Deep.AppendLies
import Derived.Maps.AppendAt
import Derived.OwnWalk
import Derived.Laws.BytesArg
import Derived.Laws.MakeOwn
import Derived.Laws.OwnMore
import Derived.Deep.OwnRows
import Derived.Tactics
import Derived.Lib.ConvBytes
import Derived.Laws.Slices
import Derived.WalkKit
import Derived.KernelRfl
import Derived.RowKit3
import Derived.Deep.LoopGhost
import Derived.Deep.QuietTactic
import Derived.BigQuiet
import Derived.WideLaws
import Derived.Deep.DeepCutAuto
import Derived.Deep.CutBlock
import Derived.Deep.RegionHeld3
import Derived.Laws.Rows
import Derived.Lib.AppendStr
import Derived.ArgAppend
import Derived.Laws.IdiomCopy
import Derived.OrdersHeld
import Derived.Laws.BitsLemmas
import Derived.RowKit
import Derived.Test.YtnnegacjgpejdaaWWords
import Derived.Test.YtnnegacjgpejdaaWLast
import Derived.Test.YtnnegacjgpejdaaWTab
import Derived.Test.YtnnegacjgpejdaaWFour
import Derived.Test.YtnnegacjgpejdaaWQPut
import Derived.Test.YtnnegacjgpejdaaWApart
import Derived.Test.YtnnegacjgpejdaaWArr
import Derived.Test.YtnnegacjgpejdaaWZeros
import Derived.Test.YtnnegacjgpejdaaWFoot
import Derived.Test.YtnnegacjgpejdaaWKept
import Derived.Test.YtnnegacjgpejdaaWShare
import Derived.Test.YtnnegacjgpejdaaWN
import Derived.Test.YtnnegacjgpejdaaWFootNe
import Derived.Test.YtnnegacjgpejdaaWAt
import Derived.Test.YtnnegacjgpejdaaWEqStruct
import Derived.Test.YtnnegacjgpejdaaWRepsOne
import Derived.Test.YtnnegacjgpejdaaWInv
import Derived.Test.YtnnegacjgpejdaaWInvWords
import Derived.Test.YtnnegacjgpejdaaWGuard
import Derived.Test.YtnnegacjgpejdaaWNEv
import Derived.Test.YtnnegacjgpejdaaWMore
import Derived.Test.YtnnegacjgpejdaaTurn
namespace Go.Proofs.Ytnnegacjgpejdaa.QFnTokensJoined
open Go.RowKit Go.Proofs.YtnnegacjgpejdaaW.PrintWords Go.Proofs.YtnnegacjgpejdaaW.PrintLast Go.Proofs.YtnnegacjgpejdaaW.PrintMore
attribute [local go_sem] nn_mod256 nn_mod65536 nn_mod32 max2_int min2_int max_two min_two max_three min_three max_four min_four   -- for this text's walks alone
set_option linter.unusedVariables false
set_option linter.unusedSimpArgs false



def errW : Option Int → Value
  | none => .nilIface
  | some c => .iface (c.toNat + 0 * 0) (.agg #[])
theorem errW_none : errW none = .nilIface := rfl
theorem errW_some (c : Int) : errW (some c) = .iface (c.toNat + 0 * 0) (.agg #[]) := rfl

theorem info5 : (Try.prog.info? 5).map (fun i => (i.zero, i.size, i.bytes)) = some (some (.int .u8 0), 1, 1) := by kernel_rfl
-- the values' own types

end Go.Proofs.Ytnnegacjgpejdaa.QFnTokensJoined
