/-
  Right values, as a truth value.
-/
import Derived.Test.YtabaldpjahcilaaDoorHKinds
namespace Go.Proofs.YtabaldpjahcilaaDoor.H
open Go.RowKit Go.Proofs.YtabaldpjahcilaaDoorW.PrintWords Go.Proofs.YtabaldpjahcilaaDoorW.PrintLast Go.Proofs.YtabaldpjahcilaaDoorW.PrintMore Go.Proofs.YtabaldpjahcilaaDoor.QD
set_option linter.unusedVariables false
set_option linter.unusedSimpArgs false

def atomB (x : S27) : Bool := decide (0 ≤ x.f0) && (decide (x.f0 ≤ 4) && (x.f3.isEmpty && ((decide (x.f1 = 0) || decide (x.f0 = 1)) && (decide (x.f2 = ⟨#[]⟩) || decide (x.f0 = 2)))))
theorem atomB_iff (x : S27) : atomB x = true ↔ atomR x := by
  unfold atomB atomR
  simp only [Bool.and_eq_true, Bool.or_eq_true, decide_eq_true_eq, List.isEmpty_iff]
def rightB (x : S27) : Bool := atomB x || (decide (x.f0 = 5) && (decide (x.f1 = 0) && (decide (x.f2 = ⟨#[]⟩) && x.f3.all atomB)))
theorem rightB_iff (x : S27) : rightB x = true ↔ rightR x := by
  unfold rightB rightR
  simp only [Bool.and_eq_true, Bool.or_eq_true, decide_eq_true_eq, List.all_eq_true, atomB_iff]
end Go.Proofs.YtabaldpjahcilaaDoor.H
