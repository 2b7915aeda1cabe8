/-
  Rows of values: each is one cell.
-/
import Derived.Test.YtmiggjncmeomlaaHErr
namespace Go.Proofs.Ytmiggjncmeomlaa.H
open Go.RowKit Go.Proofs.YtmiggjncmeomlaaW.PrintWords Go.Proofs.YtmiggjncmeomlaaW.PrintLast Go.Proofs.YtmiggjncmeomlaaW.PrintMore Go.Proofs.Ytmiggjncmeomlaa.QS
set_option linter.unusedVariables false
set_option linter.unusedSimpArgs false

theorem arow_cells {w0 : World} {us : List S24} {ys : List Value} (hr : Reps (kG.K w0) 1 us ys) : ∀ u ∈ ys, u.oneCell' = true := by
  intro u hu
  obtain ⟨j, hj, rfl⟩ := List.mem_iff_getElem.1 hu
  have hl := hr.1
  rw [Nat.mul_one] at hl
  have hp := hr.2 j (us[j]'(by omega)) (List.getElem?_eq_getElem (by omega))
  refine kG.K_one hp _ ?_
  rw [Nat.mul_one, List.drop_eq_getElem_cons hj, List.take_succ_cons]
  exact List.mem_cons_self
end Go.Proofs.Ytmiggjncmeomlaa.H
