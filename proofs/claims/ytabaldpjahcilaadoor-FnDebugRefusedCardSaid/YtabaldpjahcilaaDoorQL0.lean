-- WRITTEN BY A PROGRAM OF THIS SESSION (wip/print2.py): the print, with contracts of this session's own let in. Not trusted: Lean checks it.
import Derived.Test.YtabaldpjahcilaaDoorProg
import Derived.Below
import Derived.Deep.Draws
import Derived.Deep.AppendLies
import Derived.Maps.AppendAt
import Derived.OwnWalk
import Derived.Laws.BytesArg
import Derived.Laws.MakeOwn
import Derived.Laws.OwnMore
import Derived.Deep.OwnRows
import Derived.Tactics
import Derived.Lib.ConvBytes
import Derived.Laws.Slices
import Derived.WalkKit
import Derived.KernelRfl
import Derived.RowKit3
import Derived.Deep.LoopGhost
import Derived.Deep.QuietTactic
import Derived.BigQuiet
import Derived.WideLaws
import Derived.Deep.DeepCutAuto
import Derived.Deep.CutBlock
import Derived.Deep.RegionHeld3
import Derived.Laws.Rows
import Derived.Lib.AppendStr
import Derived.ArgAppend
import Derived.Laws.IdiomCopy
import Derived.OrdersHeld
import Derived.Laws.BitsLemmas
import Derived.RowKit
import Derived.Test.YtabaldpjahcilaaDoorWWords
import Derived.Test.YtabaldpjahcilaaDoorWLast
import Derived.Test.YtabaldpjahcilaaDoorWTab
import Derived.Test.YtabaldpjahcilaaDoorWFour
import Derived.Test.YtabaldpjahcilaaDoorWQPut
import Derived.Test.YtabaldpjahcilaaDoorWApart
import Derived.Test.YtabaldpjahcilaaDoorWArr
import Derived.Test.YtabaldpjahcilaaDoorWZeros
import Derived.Test.YtabaldpjahcilaaDoorWFoot
import Derived.Test.YtabaldpjahcilaaDoorWKept
import Derived.Test.YtabaldpjahcilaaDoorWShare
import Derived.Test.YtabaldpjahcilaaDoorWN
import Derived.Test.YtabaldpjahcilaaDoorWFootNe
import Derived.Test.YtabaldpjahcilaaDoorWAt
import Derived.Test.YtabaldpjahcilaaDoorWEqStruct
import Derived.Test.YtabaldpjahcilaaDoorWRepsOne
import Derived.Test.YtabaldpjahcilaaDoorWInv
import Derived.Test.YtabaldpjahcilaaDoorWInvWords
import Derived.Test.YtabaldpjahcilaaDoorWGuard
import Derived.Test.YtabaldpjahcilaaDoorWNEv
import Derived.Test.YtabaldpjahcilaaDoorWMore
namespace Go.Proofs.YtabaldpjahcilaaDoor.QL
open Go.RowKit Go.Proofs.YtabaldpjahcilaaDoorW.PrintWords Go.Proofs.YtabaldpjahcilaaDoorW.PrintLast Go.Proofs.YtabaldpjahcilaaDoorW.PrintMore
attribute [local go_sem] max2_int min2_int max_two min_two max_three min_three max_four min_four   -- for this text's walks alone
set_option linter.unusedVariables false
set_option linter.unusedSimpArgs false



def errW : Option Int → Value
  | none => .nilIface
  | some c => .iface 0 (.int .i64 c)
theorem errW_none : errW none = .nilIface := rfl
theorem errW_some (c : Int) : errW (some c) = .iface 0 (.int .i64 c) := rfl

-- the values' own types

end Go.Proofs.YtabaldpjahcilaaDoor.QL
