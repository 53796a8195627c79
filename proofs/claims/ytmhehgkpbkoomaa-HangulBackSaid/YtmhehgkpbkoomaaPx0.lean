/- Functions of the translated program as plain Lean functions, and proofs that their calls come to these. Written by a program of the session. No condition. -/
import Derived.Test.YtmhehgkpbkoomaaProg
import Derived.Below
import Derived.Deep.Draws
import Derived.Deep.AppendLies
import Derived.Maps.AppendAt
import Derived.OwnWalk
import Derived.Laws.BytesArg
import Derived.Laws.MakeOwn
import Derived.Laws.OwnMore
import Derived.Deep.OwnRows
import Derived.Tactics
import Derived.Lib.ConvBytes
import Derived.Laws.Slices
import Derived.WalkKit
import Derived.KernelRfl
import Derived.RowKit3
import Derived.Deep.LoopGhost
import Derived.Deep.QuietTactic
import Derived.BigQuiet
import Derived.WideLaws
import Derived.Deep.DeepCutAuto
import Derived.Deep.CutBlock
import Derived.Deep.RegionHeld3
import Derived.Laws.Rows
import Derived.Lib.AppendStr
import Derived.ArgAppend
import Derived.Laws.IdiomCopy
import Derived.OrdersHeld
import Derived.Laws.BitsLemmas
import Derived.RowKit
import Derived.Test.YtmhehgkpbkoomaaWWords
import Derived.Test.YtmhehgkpbkoomaaWLast
import Derived.Test.YtmhehgkpbkoomaaWTab
import Derived.Test.YtmhehgkpbkoomaaWFour
import Derived.Test.YtmhehgkpbkoomaaWQPut
import Derived.Test.YtmhehgkpbkoomaaWApart
import Derived.Test.YtmhehgkpbkoomaaWArr
import Derived.Test.YtmhehgkpbkoomaaWZeros
import Derived.Test.YtmhehgkpbkoomaaWFoot
import Derived.Test.YtmhehgkpbkoomaaWKept
import Derived.Test.YtmhehgkpbkoomaaWShare
import Derived.Test.YtmhehgkpbkoomaaWN
import Derived.Test.YtmhehgkpbkoomaaWFootNe
import Derived.Test.YtmhehgkpbkoomaaWAt
import Derived.Test.YtmhehgkpbkoomaaWEqStruct
import Derived.Test.YtmhehgkpbkoomaaWRepsOne
import Derived.Test.YtmhehgkpbkoomaaWInv
import Derived.Test.YtmhehgkpbkoomaaWInvWords
import Derived.Test.YtmhehgkpbkoomaaWGuard
import Derived.Test.YtmhehgkpbkoomaaWNEv
import Derived.Test.YtmhehgkpbkoomaaWMore
namespace Go.Proofs.Ytmhehgkpbkoomaa.P
open Go.RowKit Go.Proofs.YtmhehgkpbkoomaaW.PrintWords Go.Proofs.YtmhehgkpbkoomaaW.PrintLast Go.Proofs.YtmhehgkpbkoomaaW.PrintMore
attribute [local go_sem] max2_int min2_int max_two min_two max_three min_three max_four min_four   -- for this text's walks alone
set_option linter.unusedVariables false
set_option linter.unusedSimpArgs false



def errW : Option Int → Value
  | none => .nilIface
  | some c => .iface 0 (.int .i64 c)
theorem errW_none : errW none = .nilIface := rfl
theorem errW_some (c : Int) : errW (some c) = .iface 0 (.int .i64 c) := rfl

-- the values' own types

end Go.Proofs.Ytmhehgkpbkoomaa.P
