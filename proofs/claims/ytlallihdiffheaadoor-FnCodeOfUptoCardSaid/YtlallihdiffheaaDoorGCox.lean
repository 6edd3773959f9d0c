-- made by a program of this session, after the kit's print
import Derived.Test.YtlallihdiffheaaDoorGCox0
import Derived.Test.YtlallihdiffheaaDoorGCox1
import Derived.Test.YtlallihdiffheaaDoorGCox2
import Derived.Test.YtlallihdiffheaaDoorGCox3
namespace Go.Proofs.YtlallihdiffheaaDoor.GCo
open Go.RowKit Go.Proofs.YtlallihdiffheaaDoorW.PrintWords Go.Proofs.YtlallihdiffheaaDoorW.PrintLast Go.Proofs.YtlallihdiffheaaDoorW.PrintMore
attribute [local go_sem] max2_int min2_int max_two min_two max_three min_three max_four min_four   -- for this text's walks alone
set_option linter.unusedVariables false
set_option linter.unusedSimpArgs false

end Go.Proofs.YtlallihdiffheaaDoor.GCo
