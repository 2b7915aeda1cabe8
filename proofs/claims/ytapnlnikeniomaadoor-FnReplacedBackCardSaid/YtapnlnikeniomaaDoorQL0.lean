-- WRITTEN BY A PROGRAM OF THIS SESSION (wip/print2.py): the print, with contracts of this session's own let in. Not trusted: Lean checks it.
import Derived.Test.YtapnlnikeniomaaDoorProg
import Derived.Below
import Derived.Deep.Draws
import Derived.Deep.AppendLies
import Derived.Maps.AppendAt
import Derived.OwnWalk
import Derived.Laws.BytesArg
import Derived.Laws.MakeOwn
import Derived.Laws.OwnMore
import Derived.Deep.OwnRows
import Derived.Tactics
import Derived.Lib.ConvBytes
import Derived.Laws.Slices
import Derived.WalkKit
import Derived.KernelRfl
import Derived.RowKit3
import Derived.Deep.LoopGhost
import Derived.Deep.QuietTactic
import Derived.BigQuiet
import Derived.WideLaws
import Derived.Deep.DeepCutAuto
import Derived.Deep.CutBlock
import Derived.Deep.RegionHeld3
import Derived.Laws.Rows
import Derived.Lib.AppendStr
import Derived.ArgAppend
import Derived.Laws.IdiomCopy
import Derived.OrdersHeld
import Derived.Laws.BitsLemmas
import Derived.RowKit
import Derived.Test.YtapnlnikeniomaaDoorWWords
import Derived.Test.YtapnlnikeniomaaDoorWLast
import Derived.Test.YtapnlnikeniomaaDoorWTab
import Derived.Test.YtapnlnikeniomaaDoorWFour
import Derived.Test.YtapnlnikeniomaaDoorWQPut
import Derived.Test.YtapnlnikeniomaaDoorWApart
import Derived.Test.YtapnlnikeniomaaDoorWArr
import Derived.Test.YtapnlnikeniomaaDoorWZeros
import Derived.Test.YtapnlnikeniomaaDoorWFoot
import Derived.Test.YtapnlnikeniomaaDoorWKept
import Derived.Test.YtapnlnikeniomaaDoorWShare
import Derived.Test.YtapnlnikeniomaaDoorWN
import Derived.Test.YtapnlnikeniomaaDoorWFootNe
import Derived.Test.YtapnlnikeniomaaDoorWAt
import Derived.Test.YtapnlnikeniomaaDoorWEqStruct
import Derived.Test.YtapnlnikeniomaaDoorWRepsOne
import Derived.Test.YtapnlnikeniomaaDoorWInv
import Derived.Test.YtapnlnikeniomaaDoorWInvWords
import Derived.Test.YtapnlnikeniomaaDoorWGuard
import Derived.Test.YtapnlnikeniomaaDoorWNEv
import Derived.Test.YtapnlnikeniomaaDoorWMore
namespace Go.Proofs.YtapnlnikeniomaaDoor.QL
open Go.RowKit Go.Proofs.YtapnlnikeniomaaDoorW.PrintWords Go.Proofs.YtapnlnikeniomaaDoorW.PrintLast Go.Proofs.YtapnlnikeniomaaDoorW.PrintMore
attribute [local go_sem] max2_int min2_int max_two min_two max_three min_three max_four min_four   -- for this text's walks alone
set_option linter.unusedVariables false
set_option linter.unusedSimpArgs false



def errW : Option Int → Value
  | none => .nilIface
  | some c => .iface 0 (.int .i64 c)
theorem errW_none : errW none = .nilIface := rfl
theorem errW_some (c : Int) : errW (some c) = .iface 0 (.int .i64 c) := rfl

-- the values' own types

end Go.Proofs.YtapnlnikeniomaaDoor.QL
