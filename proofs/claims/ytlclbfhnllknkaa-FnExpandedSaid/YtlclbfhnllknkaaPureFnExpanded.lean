/-
  PROVED: 'laws.FnExpanded': a text whose lists' marks are as many as these have elements, as the reference says. No condition.
-/
import Derived.Test.YtlclbfhnllknkaaSArg9
import Derived.Test.YtlclbfhnllknkaaQE8
namespace Go.Proofs.Ytlclbfhnllknkaa.Pure
open Go.RowKit Go.Proofs.Ytlclbfhnllknkaa.QE Go.Proofs.Ytlclbfhnllknkaa.H Go.Proofs.Ytlclbfhnllknkaa.SN Go.Proofs.Ytlclbfhnllknkaa.SX Go.Proofs.YtlclbfhnllknkaaW.PrintWords Go.Proofs.YtlclbfhnllknkaaW.PrintLast Go.Proofs.YtlclbfhnllknkaaW.PrintMore

theorem FnExpanded (s : ByteArray) (l : List S37) : ∃ k, laws_FnExpanded.f k s l = some true := by
  have j0T : Ev (fun k => laws_FnExpanded.j0 k s l true) true := Ev.step (f := fun _ => some true) (fun k => by simp only [laws_FnExpanded.j0]; rw [if_pos trivial]) (Ev.now _)
  have j1T : Ev (fun k => laws_FnExpanded.j1 k s l true) true := Ev.step (f := fun _ => some true) (fun k => by simp only [laws_FnExpanded.j1]; rw [if_pos trivial]) (Ev.now _)
  refine Ev.rounds (g := fun k => laws_FnExpanded.f k s l) ?_
  by_cases h1 : (s.size : Int) > 2147483647
  · exact Ev.congr (fun k => by simp only [laws_FnExpanded.f]; rw [if_pos h1]) j0T
  by_cases h2 : (l.length : Int) > 2147483647
  · exact Ev.congr (fun k => by simp only [laws_FnExpanded.f]; rw [if_neg h1, decide_eq_true h2]) j0T
  refine Ev.congr (f := fun k => laws_FnExpanded.j0 k s l false) (fun k => by simp only [laws_FnExpanded.f]; rw [if_neg h1, decide_eq_false h2]) ?_
  by_cases h3 : (s.size : Int) > 1000
  · refine Ev.step (fun k => ?_) j1T
    simp only [laws_FnExpanded.j0]
    rw [if_neg (by decide), if_pos h3]
  obtain ⟨b, hE, hb⟩ := args9_is l
  refine Ev.step (f := fun k => (laws_args9.f k l).bind fun t => laws_FnExpanded.j1 k s l (!t)) (fun k => ?_) (Ev.bind hE ?_)
  · simp only [laws_FnExpanded.j0]
    rw [if_neg (by decide), if_neg h3]
  cases b with
  | false => exact j1T
  | true =>
    obtain ⟨hl, hr⟩ := hb rfl
    have hr' : ∀ x ∈ l, rightR x ∧ x.f3.length ≤ 1024 := fun x hx => ⟨(hr x hx).1, by have := (hr x hx).2; omega⟩
    have hs : s.size ≤ 65536 := by omega
    have hsp := expanded_is s hs l (by omega) (fun x hx => (hr' x hx).2)
    have him := impl_is s hs l (by omega) hr'
    refine Ev.step (f := fun k => (spec_Expanded.f k s l).bind fun bt148 => ((impl_Expanded.f s l).bind fun bt153 => (if (bt153.2.2 == bt148.2.2) = true then (if bt148.2.2 = true then (if bt153.1.toList = bt148.1.toList then ((spec_EqualValues.f bt148.2.1 bt153.2.1).bind fun t158 => (some t158)) else (some false)) else (some true)) else (some false)))) (fun k => ?_) (Ev.bind hsp (Ev.congr (f := fun _ => some true) (fun k => ?_) (Ev.now _)))
    · simp only [laws_FnExpanded.j1]
      rw [Bool.not_true, if_neg (by decide)]
    · rw [him, Option.bind_some, if_pos (by simp)]
      cases hF : inF s l with
      | none => rfl
      | some r =>
        have hd : ∀ x ∈ r.2, deep 2 x := fun x hx => right_deep ((inF_good hr' (by omega) hF).2 x hx).1
        show (if (true : Bool) = true then (if r.1.toList = r.1.toList then ((spec_EqualValues.f r.2 r.2).bind fun t158 => (some t158)) else (some false)) else (some true)) = some true
        rw [if_pos rfl, if_pos rfl, equal_self r.2 hd, Option.bind_some]
end Go.Proofs.Ytlclbfhnllknkaa.Pure
