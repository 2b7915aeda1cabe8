-- WRITTEN BY A PROGRAM OF THIS SESSION (wip/print2.py): the print, with contracts of this session's own let in. Not trusted: Lean checks it.
import Derived.Test.YtnmhoghmhglimaaDoorProg
import Derived.Below
import Derived.Deep.Draws
import Derived.Deep.AppendLies
import Derived.Maps.AppendAt
import Derived.OwnWalk
import Derived.Laws.BytesArg
import Derived.Laws.MakeOwn
import Derived.Laws.OwnMore
import Derived.Deep.OwnRows
import Derived.Tactics
import Derived.Lib.ConvBytes
import Derived.Laws.Slices
import Derived.WalkKit
import Derived.KernelRfl
import Derived.RowKit3
import Derived.Deep.LoopGhost
import Derived.Deep.QuietTactic
import Derived.BigQuiet
import Derived.WideLaws
import Derived.Deep.DeepCutAuto
import Derived.Deep.CutBlock
import Derived.Deep.RegionHeld3
import Derived.Laws.Rows
import Derived.Lib.AppendStr
import Derived.ArgAppend
import Derived.Laws.IdiomCopy
import Derived.OrdersHeld
import Derived.Laws.BitsLemmas
import Derived.RowKit
import Derived.Test.YtnmhoghmhglimaaDoorWWords
import Derived.Test.YtnmhoghmhglimaaDoorWLast
import Derived.Test.YtnmhoghmhglimaaDoorWTab
import Derived.Test.YtnmhoghmhglimaaDoorWFour
import Derived.Test.YtnmhoghmhglimaaDoorWQPut
import Derived.Test.YtnmhoghmhglimaaDoorWApart
import Derived.Test.YtnmhoghmhglimaaDoorWArr
import Derived.Test.YtnmhoghmhglimaaDoorWZeros
import Derived.Test.YtnmhoghmhglimaaDoorWFoot
import Derived.Test.YtnmhoghmhglimaaDoorWKept
import Derived.Test.YtnmhoghmhglimaaDoorWShare
import Derived.Test.YtnmhoghmhglimaaDoorWN
import Derived.Test.YtnmhoghmhglimaaDoorWFootNe
import Derived.Test.YtnmhoghmhglimaaDoorWAt
import Derived.Test.YtnmhoghmhglimaaDoorWEqStruct
import Derived.Test.YtnmhoghmhglimaaDoorWRepsOne
import Derived.Test.YtnmhoghmhglimaaDoorWInv
import Derived.Test.YtnmhoghmhglimaaDoorWInvWords
import Derived.Test.YtnmhoghmhglimaaDoorWGuard
import Derived.Test.YtnmhoghmhglimaaDoorWNEv
import Derived.Test.YtnmhoghmhglimaaDoorWMore
namespace Go.Proofs.YtnmhoghmhglimaaDoor.QT
open Go.RowKit Go.Proofs.YtnmhoghmhglimaaDoorW.PrintWords Go.Proofs.YtnmhoghmhglimaaDoorW.PrintLast Go.Proofs.YtnmhoghmhglimaaDoorW.PrintMore
attribute [local go_sem] max2_int min2_int max_two min_two max_three min_three max_four min_four   -- for this text's walks alone
set_option linter.unusedVariables false
set_option linter.unusedSimpArgs false



def errW : Option Int → Value
  | none => .nilIface
  | some c => .iface 0 (.int .i64 c)
theorem errW_none : errW none = .nilIface := rfl
theorem errW_some (c : Int) : errW (some c) = .iface 0 (.int .i64 c) := rfl

theorem info5 : (Tryd.prog.info? 5).map (fun i => (i.zero, i.size, i.bytes)) = some (some (.int .u8 0), 1, 1) := by kernel_rfl
-- the values' own types

end Go.Proofs.YtnmhoghmhglimaaDoor.QT
