-- made by a program of this session, after the kit's print
import Derived.Test.YticofikbijldiaaGIn1x0
import Derived.Test.YticofikbijldiaaGIn1x1
import Derived.Test.YticofikbijldiaaGIn1x2
namespace Go.Proofs.Yticofikbijldiaa.GIn1
open Go.RowKit Go.Proofs.YticofikbijldiaaW.PrintWords Go.Proofs.YticofikbijldiaaW.PrintLast Go.Proofs.YticofikbijldiaaW.PrintMore
attribute [local go_sem] max2_int min2_int max_two min_two max_three min_three max_four min_four   -- for this text's walks alone
set_option linter.unusedVariables false
set_option linter.unusedSimpArgs false

end Go.Proofs.Yticofikbijldiaa.GIn1
