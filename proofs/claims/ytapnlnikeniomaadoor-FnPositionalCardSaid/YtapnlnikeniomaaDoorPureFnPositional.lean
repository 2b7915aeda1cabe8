/-
  PROVED: 'laws.FnPositional': question marks become a prefix and their number, two of them one, as the reference says. No condition.
-/
import Derived.Test.YtapnlnikeniomaaDoorSRep
import Derived.Test.YtapnlnikeniomaaDoorQP3
namespace Go.Proofs.YtapnlnikeniomaaDoor.Pure
open Go.RowKit Go.Proofs.YtapnlnikeniomaaDoor.QP Go.Proofs.YtapnlnikeniomaaDoor.H Go.Proofs.YtapnlnikeniomaaDoor.S Go.Proofs.YtapnlnikeniomaaDoorW.PrintWords Go.Proofs.YtapnlnikeniomaaDoorW.PrintLast Go.Proofs.YtapnlnikeniomaaDoorW.PrintMore

theorem one_mark : impl_Positional.f (⟨#[63]⟩ : ByteArray) (⟨#[35]⟩ : ByteArray) = some ⟨#[35, 49]⟩ := by
  have : Lib.itoa ((0 + 1 : Nat) : Int) = [49] := by rw [Lib.itoa, if_neg (by omega)]; exact Lib.decDigits_one (by omega)
  have e : numF (⟨#[35]⟩ : ByteArray) (⟨#[63]⟩ : ByteArray) = ⟨#[35, 49]⟩ := by
    show (⟨(numL [35] 0 [63]).toArray⟩ : ByteArray) = _
    rw [numL, if_pos rfl, this]
    rfl
  simp only [impl_Positional.f, squirrel_Positional.f]
  rw [if_pos (by decide), e]
  rfl
theorem FnPositional : laws_FnPositional.Pure := by
  intro s p _ _
  have hj0 : Ev (fun k => laws_FnPositional.j0 k s p true) true := Ev.step (f := fun _ => some true) (fun k => by simp only [laws_FnPositional.j0]; rw [if_pos trivial]) (Ev.now _)
  have hj1 : Ev (fun k => laws_FnPositional.j1 k s p true) true := Ev.step (f := fun _ => some true) (fun k => by simp only [laws_FnPositional.j1]; rw [if_pos trivial]) (Ev.now _)
  refine Ev.rounds (g := fun k => laws_FnPositional.f k s p) ?_
  by_cases h1 : (s.size : Int) > 2147483647
  · exact Ev.congr (fun k => by simp only [laws_FnPositional.f]; rw [if_pos h1]) hj0
  by_cases h2 : (p.size : Int) > 2147483647
  · exact Ev.congr (fun k => by simp only [laws_FnPositional.f]; rw [if_neg h1, decide_eq_true h2]) hj0
  refine Ev.congr (f := fun k => laws_FnPositional.j0 k s p false) (fun k => by simp only [laws_FnPositional.f]; rw [if_neg h1, decide_eq_false h2]) ?_
  by_cases h3 : (s.size : Int) > 1000
  · exact Ev.step (fun k => by simp only [laws_FnPositional.j0]; rw [if_neg (by decide), if_pos h3]) hj1
  by_cases h4 : (p.size : Int) > 20
  · exact Ev.step (fun k => by simp only [laws_FnPositional.j0]; rw [if_neg (by decide), if_neg h3, decide_eq_true h4]) hj1
  refine Ev.step (f := fun k => laws_FnPositional.j1 k s p false) (fun k => by simp only [laws_FnPositional.j0]; rw [if_neg (by decide), if_neg h3, decide_eq_false h4]) ?_
  have himp : impl_Positional.f s p = some (numF p s) := by
    simp only [impl_Positional.f, squirrel_Positional.f]
    rw [if_pos ⟨by omega, by omega⟩]
    rfl
  have hlast : ((⟨#[35, 49]⟩ : ByteArray).toList == ([35, 49] : List UInt8)) = true := by
    rw [ByteArray.toList_eq]
    rfl
  refine Ev.step (f := fun k => (spec_Numbered.f k p s).bind fun t112 => (if (numF p s).toList = t112.toList then some true else some false)) (fun k => ?_) (Ev.bind (numbered_is p s (by omega) (by omega)) ?_)
  · simp only [laws_FnPositional.j1]
    rw [if_neg (by decide), himp, Option.bind_some, one_mark, Option.bind_some, hlast]
  · exact Ev.congr (fun k => if_pos rfl) (Ev.now _)
end Go.Proofs.YtapnlnikeniomaaDoor.Pure
