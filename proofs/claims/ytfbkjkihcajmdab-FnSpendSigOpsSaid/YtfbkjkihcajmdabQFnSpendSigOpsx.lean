-- Made by a turned print (own tool turnprint.py over the kit print).
import Derived.Test.YtfbkjkihcajmdabQFnSpendSigOpsx0
import Derived.Test.YtfbkjkihcajmdabQFnSpendSigOpsx1
import Derived.Test.YtfbkjkihcajmdabQFnSpendSigOpsx2
import Derived.Test.YtfbkjkihcajmdabQFnSpendSigOpsx3
namespace Go.Proofs.Ytfbkjkihcajmdab.QFnSpendSigOps
open Go.RowKit Go.Proofs.YtfbkjkihcajmdabW.PrintWords Go.Proofs.YtfbkjkihcajmdabW.PrintLast Go.Proofs.YtfbkjkihcajmdabW.PrintMore
attribute [local go_sem] nn_mod256 nn_mod65536 nn_mod32 max2_int min2_int max_two min_two max_three min_three max_four min_four   -- for this text's walks alone
set_option linter.unusedVariables false
set_option linter.unusedSimpArgs false

end Go.Proofs.Ytfbkjkihcajmdab.QFnSpendSigOps
