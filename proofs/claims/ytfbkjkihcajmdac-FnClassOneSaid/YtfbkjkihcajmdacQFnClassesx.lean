-- Made by a turned print (own tool turnprint.py over the kit print).
import Derived.Test.YtfbkjkihcajmdacQFnClassesx0
import Derived.Test.YtfbkjkihcajmdacQFnClassesx1
import Derived.Test.YtfbkjkihcajmdacQFnClassesx2
import Derived.Test.YtfbkjkihcajmdacQFnClassesx3
import Derived.Test.YtfbkjkihcajmdacQFnClassesx4
import Derived.Test.YtfbkjkihcajmdacQFnClassesx5
import Derived.Test.YtfbkjkihcajmdacQFnClassesx6
namespace Go.Proofs.Ytfbkjkihcajmdac.QFnClasses
open Go.RowKit Go.Proofs.YtfbkjkihcajmdacW.PrintWords Go.Proofs.YtfbkjkihcajmdacW.PrintLast Go.Proofs.YtfbkjkihcajmdacW.PrintMore
attribute [local go_sem] nn_mod256 nn_mod65536 nn_mod32 max2_int min2_int max_two min_two max_three min_three max_four min_four   -- for this text's walks alone
set_option linter.unusedVariables false
set_option linter.unusedSimpArgs false

end Go.Proofs.Ytfbkjkihcajmdac.QFnClasses
