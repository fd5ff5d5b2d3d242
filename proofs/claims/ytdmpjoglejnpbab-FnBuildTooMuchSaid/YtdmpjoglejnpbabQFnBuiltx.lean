-- Made by a turned print (own tool turnprint.py over the kit print).
import Derived.Test.YtdmpjoglejnpbabQFnBuiltx0
import Derived.Test.YtdmpjoglejnpbabQFnBuiltx1
import Derived.Test.YtdmpjoglejnpbabQFnBuiltx2
import Derived.Test.YtdmpjoglejnpbabQFnBuiltx3
import Derived.Test.YtdmpjoglejnpbabQFnBuiltx4
namespace Go.Proofs.Ytdmpjoglejnpbab.QFnBuilt
open Go.RowKit Go.Proofs.YtdmpjoglejnpbabW.PrintWords Go.Proofs.YtdmpjoglejnpbabW.PrintLast Go.Proofs.YtdmpjoglejnpbabW.PrintMore
attribute [local go_sem] nn_mod256 nn_mod65536 nn_mod32 max2_int min2_int max_two min_two max_three min_three max_four min_four   -- for this text's walks alone
set_option linter.unusedVariables false
set_option linter.unusedSimpArgs false

end Go.Proofs.Ytdmpjoglejnpbab.QFnBuilt
