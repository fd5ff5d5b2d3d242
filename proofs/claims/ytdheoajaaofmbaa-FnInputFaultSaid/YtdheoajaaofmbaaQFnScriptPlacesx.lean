-- Made by a turned print (own tool turnprint.py over the kit print).
import Derived.Test.YtdheoajaaofmbaaQFnScriptPlacesx0
import Derived.Test.YtdheoajaaofmbaaQFnScriptPlacesx1
import Derived.Test.YtdheoajaaofmbaaQFnScriptPlacesx2
namespace Go.Proofs.Ytdheoajaaofmbaa.QFnScriptPlaces
open Go.RowKit Go.Proofs.YtdheoajaaofmbaaW.PrintWords Go.Proofs.YtdheoajaaofmbaaW.PrintLast Go.Proofs.YtdheoajaaofmbaaW.PrintMore
attribute [local go_sem] nn_mod256 nn_mod65536 nn_mod32 max2_int min2_int max_two min_two max_three min_three max_four min_four   -- for this text's walks alone
set_option linter.unusedVariables false
set_option linter.unusedSimpArgs false

end Go.Proofs.Ytdheoajaaofmbaa.QFnScriptPlaces
