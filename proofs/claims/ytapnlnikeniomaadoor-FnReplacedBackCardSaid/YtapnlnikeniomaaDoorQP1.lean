-- WRITTEN BY A PROGRAM OF THIS SESSION (wip/print2.py): the print, with contracts of this session's own let in. Not trusted: Lean checks it.
import Derived.Test.YtapnlnikeniomaaDoorQP0
namespace Go.Proofs.YtapnlnikeniomaaDoor.QP
open Go.RowKit Go.Proofs.YtapnlnikeniomaaDoorW.PrintWords Go.Proofs.YtapnlnikeniomaaDoorW.PrintLast Go.Proofs.YtapnlnikeniomaaDoorW.PrintMore
attribute [local go_sem] max2_int min2_int max_two min_two max_three min_three max_four min_four   -- for this text's walks alone
set_option linter.unusedVariables false
set_option linter.unusedSimpArgs false

-- BY HAND: function 13 (impl_Replaced)

/-! ### laws_form9: function 14 -/
def laws_form9.f (a0 : Int) : Option (Int) := some (wrap64 (1 + (Int.tmod (wrap64 (a0)) 4)))
set_option maxHeartbeats 8000000 in
set_option maxRecDepth 100000 in
theorem laws_form9.calls (a0 : Int) (r : Int) (w : World) (h : laws_form9.f a0 = some r) :
    Calls Tryd.prog 14 #[.int .u8 a0] w fun e w' => e = .returned (.int .i64 r) ∧ Drawn0 w w' := by
  have H : (some (wrap64 (1 + (Int.tmod (wrap64 (a0)) 4)))) = some r := h
  clear h
  obtain rfl := Option.some.inj H
  go_enter Tryd.func14, Tryd.ntmps14
  go_wp2
  go_ret
  exact ⟨by first | rfl | (simp; done) | (simp [*]; done), by repeat (first | exact Drawn0.refl _ | apply Drawn0.step)⟩

end Go.Proofs.YtapnlnikeniomaaDoor.QP
