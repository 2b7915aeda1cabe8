-- WRITTEN BY A PROGRAM OF THIS SESSION (wip/print2.py): the print, with contracts of this session's own let in. Not trusted: Lean checks it.
import Derived.Test.YtlclbfhnllknkaaProg
import Derived.Below
import Derived.Deep.Draws
import Derived.Deep.AppendLies
import Derived.Maps.AppendAt
import Derived.OwnWalk
import Derived.Laws.BytesArg
import Derived.Laws.MakeOwn
import Derived.Laws.OwnMore
import Derived.Deep.OwnRows
import Derived.Tactics
import Derived.Lib.ConvBytes
import Derived.Laws.Slices
import Derived.WalkKit
import Derived.KernelRfl
import Derived.RowKit3
import Derived.Deep.LoopGhost
import Derived.Deep.QuietTactic
import Derived.BigQuiet
import Derived.WideLaws
import Derived.Deep.DeepCutAuto
import Derived.Deep.CutBlock
import Derived.Deep.RegionHeld3
import Derived.Laws.Rows
import Derived.Lib.AppendStr
import Derived.ArgAppend
import Derived.Laws.IdiomCopy
import Derived.OrdersHeld
import Derived.Laws.BitsLemmas
import Derived.RowKit
import Derived.Test.YtlclbfhnllknkaaWWords
import Derived.Test.YtlclbfhnllknkaaWLast
import Derived.Test.YtlclbfhnllknkaaWTab
import Derived.Test.YtlclbfhnllknkaaWFour
import Derived.Test.YtlclbfhnllknkaaWQPut
import Derived.Test.YtlclbfhnllknkaaWApart
import Derived.Test.YtlclbfhnllknkaaWArr
import Derived.Test.YtlclbfhnllknkaaWZeros
import Derived.Test.YtlclbfhnllknkaaWFoot
import Derived.Test.YtlclbfhnllknkaaWKept
import Derived.Test.YtlclbfhnllknkaaWShare
import Derived.Test.YtlclbfhnllknkaaWN
import Derived.Test.YtlclbfhnllknkaaWFootNe
import Derived.Test.YtlclbfhnllknkaaWAt
import Derived.Test.YtlclbfhnllknkaaWEqStruct
import Derived.Test.YtlclbfhnllknkaaWRepsOne
import Derived.Test.YtlclbfhnllknkaaWInv
import Derived.Test.YtlclbfhnllknkaaWInvWords
import Derived.Test.YtlclbfhnllknkaaWGuard
import Derived.Test.YtlclbfhnllknkaaWNEv
import Derived.Test.YtlclbfhnllknkaaWMore
namespace Go.Proofs.Ytlclbfhnllknkaa.QL
open Go.RowKit Go.Proofs.YtlclbfhnllknkaaW.PrintWords Go.Proofs.YtlclbfhnllknkaaW.PrintLast Go.Proofs.YtlclbfhnllknkaaW.PrintMore
attribute [local go_sem] max2_int min2_int max_two min_two max_three min_three max_four min_four   -- for this text's walks alone
set_option linter.unusedVariables false
set_option linter.unusedSimpArgs false



def errW : Option Int → Value
  | none => .nilIface
  | some c => .iface 0 (.int .i64 c)
theorem errW_none : errW none = .nilIface := rfl
theorem errW_some (c : Int) : errW (some c) = .iface 0 (.int .i64 c) := rfl

-- the values' own types

end Go.Proofs.Ytlclbfhnllknkaa.QL
