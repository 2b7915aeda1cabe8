/-
  Right arguments with different names, as a truth value.
-/
import Derived.Test.YtlclbfhnllknkaaHMap
namespace Go.Proofs.Ytlclbfhnllknkaa.H
open Go.RowKit Go.Proofs.YtlclbfhnllknkaaW.PrintWords Go.Proofs.YtlclbfhnllknkaaW.PrintLast Go.Proofs.YtlclbfhnllknkaaW.PrintMore Go.Proofs.Ytlclbfhnllknkaa.QE
set_option linter.unusedVariables false
set_option linter.unusedSimpArgs false

def atomB (x : S37) : Bool := decide (0 ≤ x.f0) && (decide (x.f0 ≤ 4) && (x.f3.isEmpty && ((decide (x.f1 = 0) || decide (x.f0 = 1)) && (decide (x.f2 = ⟨#[]⟩) || decide (x.f0 = 2)))))
theorem atomB_iff (x : S37) : atomB x = true ↔ atomR x := by
  unfold atomB atomR
  simp only [Bool.and_eq_true, Bool.or_eq_true, decide_eq_true_eq, List.isEmpty_iff]
def rightB (x : S37) : Bool := atomB x || (decide (x.f0 = 5) && (decide (x.f1 = 0) && (decide (x.f2 = ⟨#[]⟩) && x.f3.all atomB)))
theorem rightB_iff (x : S37) : rightB x = true ↔ rightR x := by
  unfold rightB rightR
  simp only [Bool.and_eq_true, Bool.or_eq_true, decide_eq_true_eq, List.all_eq_true, atomB_iff]
def argsB (l : List S41) : Bool := decide (l.length ≤ 1048576) && (l.all (fun x => rightB x.f1 && (decide (x.f1.f3.length ≤ 1048576) && decide (x.f0.size ≤ 1048576))) && decide (l.Pairwise (fun a b => a.f0 ≠ b.f0)))
theorem argsB_iff (l : List S41) : argsB l = true ↔ ArgsOk l := by
  unfold argsB ArgsOk
  simp only [Bool.and_eq_true, decide_eq_true_eq, List.all_eq_true, rightB_iff]
end Go.Proofs.Ytlclbfhnllknkaa.H
