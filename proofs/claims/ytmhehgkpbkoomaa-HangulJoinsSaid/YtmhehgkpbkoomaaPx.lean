/- Functions of the translated program as plain Lean functions, and proofs that their calls come to these. Written by a program of the session. No condition. -/
import Derived.Test.YtmhehgkpbkoomaaPx0
import Derived.Test.YtmhehgkpbkoomaaPx1
import Derived.Test.YtmhehgkpbkoomaaPx2
import Derived.Test.YtmhehgkpbkoomaaPx3
import Derived.Test.YtmhehgkpbkoomaaPx4
import Derived.Test.YtmhehgkpbkoomaaPx5
import Derived.Test.YtmhehgkpbkoomaaPx6
namespace Go.Proofs.Ytmhehgkpbkoomaa.P
open Go.RowKit Go.Proofs.YtmhehgkpbkoomaaW.PrintWords Go.Proofs.YtmhehgkpbkoomaaW.PrintLast Go.Proofs.YtmhehgkpbkoomaaW.PrintMore
attribute [local go_sem] max2_int min2_int max_two min_two max_three min_three max_four min_four   -- for this text's walks alone
set_option linter.unusedVariables false
set_option linter.unusedSimpArgs false

end Go.Proofs.Ytmhehgkpbkoomaa.P
