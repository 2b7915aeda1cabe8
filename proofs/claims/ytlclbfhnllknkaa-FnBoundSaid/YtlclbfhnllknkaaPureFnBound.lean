/-
  PROVED: 'laws.FnBound': the values of names by arguments, as the reference says. No condition.
-/
import Derived.Test.YtlclbfhnllknkaaSArgs0
import Derived.Test.YtlclbfhnllknkaaHBound
import Derived.Test.YtlclbfhnllknkaaQE5
namespace Go.Proofs.Ytlclbfhnllknkaa.Pure
open Go.RowKit Go.Proofs.Ytlclbfhnllknkaa.QE Go.Proofs.Ytlclbfhnllknkaa.H Go.Proofs.Ytlclbfhnllknkaa.SN Go.Proofs.YtlclbfhnllknkaaW.PrintWords Go.Proofs.YtlclbfhnllknkaaW.PrintLast Go.Proofs.YtlclbfhnllknkaaW.PrintMore

theorem wBig (i : Nat) (h : i ≤ 4294967296) : wrap64 ((i : Int) + 1) = ((i + 1 : Nat) : Int) := by
  rw [IntWalk.wrap64_in _ (by omega)]
  omega
theorem fits_ev (l : List ByteArray) : ∃ b, Ev (fun k => laws_zzFits1.f k l) b ∧ (b = true → l.length ≤ 2147483647 ∧ ∀ x ∈ l, x.size ≤ 2147483647) := by
  by_cases h : (l.length : Int) > 2147483647
  · exact ⟨false, Ev.congr (fun k => by simp only [laws_zzFits1.f]; rw [if_pos h]) (Ev.now _), fun h => by cases h⟩
  have key : ∀ (d i : Nat), l.length - i = d → i ≤ l.length → ∃ b, Ev (fun k => laws_zzFits1.l0 k l (l.length : Int) (i : Int)) b ∧ (b = true → ∀ x ∈ l.drop i, x.size ≤ 2147483647) := by
    intro d
    induction d with
    | zero =>
      intro i hd hi
      have c1 : ¬ (i : Int) < (l.length : Int) := by omega
      exact ⟨true, Ev.step (f := fun _ => some true) (fun k => by simp only [laws_zzFits1.l0]; rw [if_neg c1]) (Ev.now _), fun _ => by rw [List.drop_eq_nil_of_le (by omega)]; simp⟩
    | succ d ih =>
      intro i hd hi
      have hlt : i < l.length := by omega
      have c1 : (i : Int) < (l.length : Int) := by omega
      have c0 : (0 : Int) ≤ (i : Int) := by omega
      have e1 := wBig i (by omega)
      have hr : rdOf ByteArray.empty l (i : Int) = l[i]'hlt := by simp [rdOf, hlt]
      obtain ⟨b, h1, h2⟩ := ih (i + 1) (by omega) (by omega)
      by_cases hb : ((l[i]'hlt).size : Int) > 2147483647
      · exact ⟨false, Ev.step (f := fun _ => some false) (fun k => by simp only [laws_zzFits1.l0]; rw [if_pos c1, if_pos c0, if_pos c1, hr, if_pos hb]) (Ev.now _), fun h => by cases h⟩
      · refine ⟨b, Ev.step (fun k => by simp only [laws_zzFits1.l0]; rw [if_pos c1, if_pos c0, if_pos c1, hr, if_neg hb, e1]) h1, fun hh => ?_⟩
        rw [List.drop_eq_getElem_cons hlt]
        exact List.forall_mem_cons.2 ⟨by omega, h2 hh⟩
  obtain ⟨b, h1, h2⟩ := key l.length 0 (by omega) (by omega)
  refine ⟨b, Ev.congr (fun k => by simp only [laws_zzFits1.f]; rw [if_neg h]; rfl) h1, fun hb => ⟨by omega, ?_⟩⟩
  have := h2 hb
  rwa [List.drop_zero] at this
theorem FnBound (names : List ByteArray) (l : List S41) : ∃ k, laws_FnBound.f k names l = some true := by
  have j0T : Ev (fun k => laws_FnBound.j0 k names l true) true := Ev.step (f := fun _ => some true) (fun k => by simp only [laws_FnBound.j0]; rw [if_pos trivial]) (Ev.now _)
  have j1T : Ev (fun k => laws_FnBound.j1 k names l true) true := Ev.step (f := fun _ => some true) (fun k => by simp only [laws_FnBound.j1]; rw [if_pos trivial]) (Ev.now _)
  refine Ev.rounds (g := fun k => laws_FnBound.f k names l) ?_
  obtain ⟨f, hF, hf⟩ := fits_ev names
  refine Ev.congr (fun k => rfl) (Ev.bind hF ?_)
  cases f with
  | false => exact Ev.congr (fun k => by rw [if_neg (by decide)]) j0T
  | true =>
    by_cases h2 : (l.length : Int) > 2147483647
    · exact Ev.congr (fun k => by rw [if_pos rfl, decide_eq_true h2]) j0T
    refine Ev.congr (f := fun k => laws_FnBound.j0 k names l false) (fun k => by rw [if_pos rfl, decide_eq_false h2]) ?_
    by_cases h3 : (names.length : Int) > 50
    · refine Ev.step (fun k => ?_) j1T
      simp only [laws_FnBound.j0]
      rw [if_neg (by decide), if_pos h3]
    obtain ⟨b, hE, hb⟩ := args_is l (by omega)
    refine Ev.step (f := fun k => (spec_ArgsRight.f k l).bind fun t => laws_FnBound.j1 k names l (!t)) (fun k => ?_) (Ev.bind hE ?_)
    · simp only [laws_FnBound.j0]
      rw [if_neg (by decide), if_neg h3]
    cases b with
    | false => exact j1T
    | true =>
      have hl := (hb rfl).1
      have hv := values_is names l (by omega) (by omega)
      have hsz := (hf rfl).2
      have hi : impl_Bound.f names l = some (valsP [] (valsOf names l)) := by
        rw [impl_Bound.f, if_pos ⟨by omega, List.all_eq_true.2 fun x hx => decide_eq_true (hsz x hx), (argsB_iff l).2 hl⟩]
        cases valsOf names l <;> rfl
      refine Ev.step (f := fun k => (spec_ValuesOf.f k names l).bind fun bt121 => ((impl_Bound.f names l).bind fun bt125 => (if (bt125.2 == bt121.2) = true then (if bt121.2 = true then ((spec_EqualValues.f bt125.1 bt121.1).bind fun t129 => (some t129)) else (some true)) else (some false)))) (fun k => ?_) (Ev.bind hv (Ev.congr (f := fun _ => some true) (fun k => ?_) (Ev.now _)))
      · simp only [laws_FnBound.j1]
        rw [Bool.not_true, if_neg (by decide)]
      · rw [hi, Option.bind_some, if_pos (by simp)]
        cases hm : valsOf names l with
        | none => rfl
        | some vs =>
          have hd : ∀ x ∈ vs, deep 2 x := fun x hx => by
            obtain ⟨y, hy, rfl⟩ := valsOf_mem _ _ _ hm x hx
            exact right_deep (hl.2.1 y hy).1
          show (if (true : Bool) = true then ((spec_EqualValues.f ([] ++ vs) ([] ++ vs)).bind fun t129 => (some t129)) else (some true)) = _
          rw [if_pos rfl, List.nil_append, equal_self vs hd, Option.bind_some]
end Go.Proofs.Ytlclbfhnllknkaa.Pure
