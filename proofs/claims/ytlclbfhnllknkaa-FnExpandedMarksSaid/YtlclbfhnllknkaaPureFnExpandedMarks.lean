/-
  PROVED: 'laws.FnExpandedMarks': behind lists that are written out there are as many marks as values, and a second time nothing changes. No condition.
-/
import Derived.Test.YtlclbfhnllknkaaSMark9
import Derived.Test.YtlclbfhnllknkaaQE10
namespace Go.Proofs.Ytlclbfhnllknkaa.Pure
open Go.RowKit Go.Proofs.Ytlclbfhnllknkaa.QE Go.Proofs.Ytlclbfhnllknkaa.H Go.Proofs.Ytlclbfhnllknkaa.SN Go.Proofs.Ytlclbfhnllknkaa.SX Go.Proofs.YtlclbfhnllknkaaW.PrintWords Go.Proofs.YtlclbfhnllknkaaW.PrintLast Go.Proofs.YtlclbfhnllknkaaW.PrintMore

theorem marks_loop (s : ByteArray) (l : List S37) (hl : l.length ≤ 1024)
    (h2 : hasE l = false → Ev (fun k => laws_FnExpandedMarks.l0 k s l (l.length : Int)) true) :
    ∀ (d i : Nat), l.length - i = d → i ≤ l.length → hasE (l.take i) = false → Ev (fun k => laws_FnExpandedMarks.l0 k s l (i : Int)) true := by
  intro d
  induction d with
  | zero =>
    intro i hd hi ht
    rw [List.take_of_length_le (by omega)] at ht
    have e : i = l.length := by omega
    rw [e]
    exact h2 ht
  | succ d ih =>
    intro i hd hi ht
    have hlt : i < l.length := by omega
    have c1 : (i : Int) < (l.length : Int) := by omega
    have c0 : (0 : Int) ≤ (i : Int) := by omega
    have wi : i < 9223372036854775807 := by omega
    have hrd := rdV l i hlt
    have htk : l.take (i + 1) = l.take i ++ [l[i]'hlt] := by rw [List.take_succ_eq_append_getElem hlt]
    by_cases h5 : (l[i]'hlt).f0 = 5
    · by_cases hz : (l[i]'hlt).f3.length = 0
      · have c2 : ((l[i]'hlt).f3.length : Int) = 0 := by omega
        refine Ev.step (f := fun _ => some true) (fun k => ?_) (Ev.now _)
        simp only [laws_FnExpandedMarks.l0]
        rw [if_pos c1, hrd, if_pos c0, if_pos h5, if_pos c2]
      · have c2 : ¬ ((l[i]'hlt).f3.length : Int) = 0 := by omega
        have he : (l[i]'hlt).f3.isEmpty = false := by
          cases hh : (l[i]'hlt).f3 with
          | nil => rw [hh] at hz; exact absurd rfl hz
          | cons _ _ => rfl
        have := ih (i + 1) (by omega) (by omega) (by rw [htk, hasE_snoc, ht, he, Bool.and_false]; rfl)
        refine Ev.step (fun k => ?_) this
        simp only [laws_FnExpandedMarks.l0]
        rw [if_pos c1, hrd, if_pos c0, if_pos h5, if_neg c2, w64s i wi]
    · have := ih (i + 1) (by omega) (by omega) (by rw [htk, hasE_snoc, ht, decide_eq_false h5]; rfl)
      refine Ev.step (fun k => ?_) this
      simp only [laws_FnExpandedMarks.l0]
      rw [if_pos c1, hrd, if_pos c0, if_neg h5, w64s i wi]
theorem FnExpandedMarks (s : ByteArray) (l : List S37) : ∃ k, laws_FnExpandedMarks.f k s l = some true := by
  have j0T : Ev (fun k => laws_FnExpandedMarks.j0 k s l true) true := Ev.step (f := fun _ => some true) (fun k => by simp only [laws_FnExpandedMarks.j0]; rw [if_pos trivial]) (Ev.now _)
  have j1T : Ev (fun k => laws_FnExpandedMarks.j1 k s l true) true := Ev.step (f := fun _ => some true) (fun k => by simp only [laws_FnExpandedMarks.j1]; rw [if_pos trivial]) (Ev.now _)
  refine Ev.rounds (g := fun k => laws_FnExpandedMarks.f k s l) ?_
  by_cases h1 : (s.size : Int) > 2147483647
  · exact Ev.congr (fun k => by simp only [laws_FnExpandedMarks.f]; rw [if_pos h1]) j0T
  by_cases h2 : (l.length : Int) > 2147483647
  · exact Ev.congr (fun k => by simp only [laws_FnExpandedMarks.f]; rw [if_neg h1, decide_eq_true h2]) j0T
  refine Ev.congr (f := fun k => laws_FnExpandedMarks.j0 k s l false) (fun k => by simp only [laws_FnExpandedMarks.f]; rw [if_neg h1, decide_eq_false h2]) ?_
  by_cases h3 : (s.size : Int) > 1000
  · refine Ev.step (fun k => ?_) j1T
    simp only [laws_FnExpandedMarks.j0]
    rw [if_neg (by decide), if_pos h3]
  obtain ⟨b, hE, hb⟩ := args9_is l
  have hM := marks_is s (by omega)
  have hS := single9_f l b hE (by omega)
  refine Ev.step (f := fun k => (laws_args9.f k l).bind fun t161 => (if t161 = true then ((laws_marks9.f k s).bind fun t162 => (if t162 = (l.length : Int) then ((laws_single9.f k l).bind fun t163 => (laws_FnExpandedMarks.j1 k s l t163)) else (laws_FnExpandedMarks.j1 k s l true))) else (laws_FnExpandedMarks.j1 k s l true))) (fun k => ?_) (Ev.bind hE ?_)
  · simp only [laws_FnExpandedMarks.j0]
    rw [if_neg (by decide), if_neg h3]
  cases b with
  | false => exact Ev.congr (fun k => by rw [if_neg (by decide)]) j1T
  | true =>
    obtain ⟨hl, hr⟩ := hb rfl
    refine Ev.congr (f := fun k => (laws_marks9.f k s).bind fun t162 => (if t162 = (l.length : Int) then ((laws_single9.f k l).bind fun t163 => (laws_FnExpandedMarks.j1 k s l t163)) else (laws_FnExpandedMarks.j1 k s l true))) (fun k => by rw [if_pos rfl]) (Ev.bind hM ?_)
    by_cases hq : (cntQ s.data.toList : Int) = (l.length : Int)
    · refine Ev.congr (f := fun k => (laws_single9.f k l).bind fun t163 => (laws_FnExpandedMarks.j1 k s l t163)) (fun k => by rw [if_pos hq]) (Ev.bind hS ?_)
      cases hL : hasL l with
      | false => exact j1T
      | true =>
        have hr' : ∀ x ∈ l, rightR x ∧ x.f3.length ≤ 1024 := fun x hx => ⟨(hr x hx).1, by have := (hr x hx).2; omega⟩
        refine Ev.step (f := fun k => laws_FnExpandedMarks.l0 k s l ((0 : Nat) : Int)) (fun k => ?_) (marks_loop s l (by omega) (fun hEl => ?_) l.length 0 (by omega) (by omega) rfl)
        · simp only [laws_FnExpandedMarks.j1]
          rw [Bool.not_true, Bool.false_and, if_neg (by decide)]
          rfl
        · obtain ⟨r, e1, e2, e3, e4, e5, e6⟩ := inF_marks (s := s) (l := l) (by omega) hl hr (by omega) hEl hL
          have i1 := impl_is s (by omega) l (by omega) hr'
          have i2 := impl_is r.1 e3 r.2 (by omega) e6
          rw [e1] at i1
          rw [inF_flat e5] at i2
          have hd : ∀ x ∈ r.2, deep 2 x := fun x hx => right_deep (e6 x hx).1
          have hq2 : (cntQ r.1.data.toList : Int) = (r.2.length : Int) := by omega
          have hM2 := marks_is r.1 (by omega)
          refine Ev.step (f := fun k => (laws_marks9.f k r.1).bind fun t => if t = (r.2.length : Int) then some true else some false) (fun k => ?_) (Ev.bind hM2 (Ev.congr (f := fun _ => some true) (fun k => by rw [if_pos hq2]) (Ev.now _)))
          simp only [laws_FnExpandedMarks.l0]
          rw [if_neg (Int.lt_irrefl _), i1, Option.bind_some]
          show ((impl_Expanded.f r.1 r.2).bind _) = _
          rw [i2, Option.bind_some]
          show (if (true : Bool) = true then (if (true : Bool) = true then ((laws_marks9.f k r.1).bind fun t176 => (if t176 = (r.2.length : Int) then (if r.1.toList = r.1.toList then ((spec_EqualValues.f r.2 r.2).bind fun t177 => (some t177)) else (some false)) else (some false))) else (some false)) else (some false)) = _
          rw [if_pos rfl, if_pos rfl, if_pos rfl, equal_self r.2 hd, Option.bind_some]
    · exact Ev.congr (fun k => by rw [if_neg hq]) j1T
end Go.Proofs.Ytlclbfhnllknkaa.Pure
