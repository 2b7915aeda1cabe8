-- WRITTEN BY A PROGRAM OF THIS SESSION (wip/print2.py): the print, with contracts of this session's own let in. Not trusted: Lean checks it.
import Derived.Test.YtmiggjncmeomlaaProg
import Derived.Below
import Derived.Deep.Draws
import Derived.Deep.AppendLies
import Derived.Maps.AppendAt
import Derived.OwnWalk
import Derived.Laws.BytesArg
import Derived.Laws.MakeOwn
import Derived.Laws.OwnMore
import Derived.Deep.OwnRows
import Derived.Tactics
import Derived.Lib.ConvBytes
import Derived.Laws.Slices
import Derived.WalkKit
import Derived.KernelRfl
import Derived.RowKit3
import Derived.Deep.LoopGhost
import Derived.Deep.QuietTactic
import Derived.BigQuiet
import Derived.WideLaws
import Derived.Deep.DeepCutAuto
import Derived.Deep.CutBlock
import Derived.Deep.RegionHeld3
import Derived.Laws.Rows
import Derived.Lib.AppendStr
import Derived.ArgAppend
import Derived.Laws.IdiomCopy
import Derived.OrdersHeld
import Derived.Laws.BitsLemmas
import Derived.RowKit
import Derived.Test.YtmiggjncmeomlaaWWords
import Derived.Test.YtmiggjncmeomlaaWLast
import Derived.Test.YtmiggjncmeomlaaWTab
import Derived.Test.YtmiggjncmeomlaaWFour
import Derived.Test.YtmiggjncmeomlaaWQPut
import Derived.Test.YtmiggjncmeomlaaWApart
import Derived.Test.YtmiggjncmeomlaaWArr
import Derived.Test.YtmiggjncmeomlaaWZeros
import Derived.Test.YtmiggjncmeomlaaWFoot
import Derived.Test.YtmiggjncmeomlaaWKept
import Derived.Test.YtmiggjncmeomlaaWShare
import Derived.Test.YtmiggjncmeomlaaWN
import Derived.Test.YtmiggjncmeomlaaWFootNe
import Derived.Test.YtmiggjncmeomlaaWAt
import Derived.Test.YtmiggjncmeomlaaWEqStruct
import Derived.Test.YtmiggjncmeomlaaWRepsOne
import Derived.Test.YtmiggjncmeomlaaWInv
import Derived.Test.YtmiggjncmeomlaaWInvWords
import Derived.Test.YtmiggjncmeomlaaWGuard
import Derived.Test.YtmiggjncmeomlaaWNEv
import Derived.Test.YtmiggjncmeomlaaWMore
namespace Go.Proofs.Ytmiggjncmeomlaa.QL
open Go.RowKit Go.Proofs.YtmiggjncmeomlaaW.PrintWords Go.Proofs.YtmiggjncmeomlaaW.PrintLast Go.Proofs.YtmiggjncmeomlaaW.PrintMore
attribute [local go_sem] max2_int min2_int max_two min_two max_three min_three max_four min_four   -- for this text's walks alone
set_option linter.unusedVariables false
set_option linter.unusedSimpArgs false



def errW : Option Int → Value
  | none => .nilIface
  | some c => .iface 0 (.int .i64 c)
theorem errW_none : errW none = .nilIface := rfl
theorem errW_some (c : Int) : errW (some c) = .iface 0 (.int .i64 c) := rfl

-- the values' own types

end Go.Proofs.Ytmiggjncmeomlaa.QL
