-- made by a program of this session, after the kit's print
import Derived.Test.YtlallihdiffheaaZGIn1x0
import Derived.Test.YtlallihdiffheaaZGIn1x1
namespace Go.Proofs.Ytlallihdiffheaa.GIn1
open Go.RowKit Go.Proofs.YtlallihdiffheaaW.PrintWords Go.Proofs.YtlallihdiffheaaW.PrintLast Go.Proofs.YtlallihdiffheaaW.PrintMore
attribute [local go_sem] max2_int min2_int max_two min_two max_three min_three max_four min_four   -- for this text's walks alone
set_option linter.unusedVariables false
set_option linter.unusedSimpArgs false

end Go.Proofs.Ytlallihdiffheaa.GIn1
