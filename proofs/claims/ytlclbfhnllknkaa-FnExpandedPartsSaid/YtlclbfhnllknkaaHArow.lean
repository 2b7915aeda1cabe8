/-
  Rows of values: each is one cell.
-/
import Derived.Test.YtlclbfhnllknkaaHNamed0
namespace Go.Proofs.Ytlclbfhnllknkaa.H
open Go.RowKit Go.Proofs.YtlclbfhnllknkaaW.PrintWords Go.Proofs.YtlclbfhnllknkaaW.PrintLast Go.Proofs.YtlclbfhnllknkaaW.PrintMore Go.Proofs.Ytlclbfhnllknkaa.QE
set_option linter.unusedVariables false
set_option linter.unusedSimpArgs false

theorem arow_cells {w0 : World} {us : List S37} {ys : List Value} (hr : Reps (kG.K w0) 1 us ys) : ∀ u ∈ ys, u.oneCell' = true := by
  intro u hu
  obtain ⟨j, hj, rfl⟩ := List.mem_iff_getElem.1 hu
  have hl := hr.1
  rw [Nat.mul_one] at hl
  have hp := hr.2 j (us[j]'(by omega)) (List.getElem?_eq_getElem (by omega))
  refine kG.K_one hp _ ?_
  rw [Nat.mul_one, List.drop_eq_getElem_cons hj, List.take_succ_cons]
  exact List.mem_cons_self
end Go.Proofs.Ytlclbfhnllknkaa.H
namespace Go.Proofs
/-- (a plain load_go makes no facts of a zero of more than 64 cells) -/
def Try.zeroCells61 : Array Value := madeCells #[Value.slice none 0 0, Value.nilIface, Value.int .i64 0] 96
theorem Try.zeroValue61 (w : World) : Sem.run Try.prog (zeroValue 61) w = .ok (.agg Try.zeroCells61) w := by kernel_rfl
theorem Try.zeroCells61_size : Try.zeroCells61.size = 96 := by kernel_rfl
theorem Try.zeroCells61_ne : Try.zeroCells61 ≠ #[] := by
  intro e
  have h := Try.zeroCells61_size
  rw [e] at h
  cases h
end Go.Proofs
