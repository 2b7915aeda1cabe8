/-
  PROVED: 'laws.FnValuesAt': where the package finds a closing bracket, VALUES in any case and an opening bracket, with white space between or none, is where the reference finds them. No condition.
-/
import Derived.Test.YtnofpojkajmfoaaSValues
import Derived.Test.YtnofpojkajmfoaaQP3
namespace Go.Proofs.Ytnofpojkajmfoaa.Pure
open Go.RowKit Go.Proofs.Ytnofpojkajmfoaa.QP Go.Proofs.Ytnofpojkajmfoaa.H Go.Proofs.Ytnofpojkajmfoaa.S Go.Proofs.YtnofpojkajmfoaaW.PrintWords Go.Proofs.YtnofpojkajmfoaaW.PrintLast Go.Proofs.YtnofpojkajmfoaaW.PrintMore

theorem ahead_ev (s : ByteArray) (hs : s.size ≤ 1048576) (a : Nat) (ha : bt s a = 41) (has : a < s.size) : ∀ (d i : Nat), i = a + d → i < s.size → (∀ j : Nat, a < j → j ≤ i → bt s j ≠ 41) → Ev (fun k => spec_Ahead.l0 k s i) (a : Int) := by
  intro d
  induction d with
  | zero =>
    intro i hi hl hn
    obtain rfl : i = a := by omega
    refine Ev.step (f := fun _ => some (i : Int)) (fun k => ?_) (Ev.now _)
    simp only [spec_Ahead.l0]
    by_cases h0 : (i : Int) > 0
    · rw [if_pos h0, if_pos (by omega), if_pos (by omega), if_pos ha]
    · rw [if_neg h0]
  | succ d ih =>
    intro i hi hl hn
    have e1 : wrap64 ((i : Int) - 1) = ((i - 1 : Nat) : Int) := by rw [w64 _ (by omega)]; omega
    refine Ev.step (fun k => ?_) (ih (i - 1) (by omega) (by omega) (fun j h1 h2 => hn j h1 (by omega)))
    simp only [spec_Ahead.l0]
    rw [if_pos (by omega), if_pos (by omega), if_pos (by omega), if_neg (hn i (by omega) (Nat.le_refl _)), e1]

theorem FnValuesAt : laws_FnValuesAt.Pure := by
  intro s _
  have done_ : ∀ k, laws_FnValuesAt.j0 (k + 1) s true = some true := fun k => by simp only [laws_FnValuesAt.j0, if_true]
  by_cases h1 : (s.size : Int) > 2147483647
  · exact ⟨0, by simp only [laws_FnValuesAt.f]; rw [if_pos h1]⟩
  · by_cases h2 : (s.size : Int) > 1000
    · exact ⟨1, by simp only [laws_FnValuesAt.f]; rw [if_neg h1, if_pos h2]; exact done_ 0⟩
    · have hs : s.size ≤ 1048576 := by omega
      obtain ⟨b, hb, hf, _⟩ := long_is s hs
      have key : Ev (fun k => laws_FnValuesAt.j0 k s b) true := by
        cases b with
        | true => exact Ev.step (f := fun _ => some true) (fun k => by simp only [laws_FnValuesAt.j0, if_true]) (Ev.now _)
        | false =>
          have hn := hf rfl
          have hi : impl_ValuesAt.f s = if ((valN s s.size 0).length : Int) < 2 then some (0, 0, false) else if 0 < ((valN s s.size 0).length : Int) then (if 1 < ((valN s s.size 0).length : Int) then (some (rd (valN s s.size 0) 0, rd (valN s s.size 0) 1, true)) else none) else none := by
            simp only [impl_ValuesAt.f, sqlx_ValuesAt.f, sqlx_zzValues.f]
            rw [if_pos hs]
            rfl
          rcases valN_found s hn s.size 0 (by omega) (by omega) with h0 | ⟨a, y, hv, _, hay, hys, ha41, hy40, hno⟩
          · have hi0 : impl_ValuesAt.f s = some (0, 0, false) := by
              rw [hi, h0]
              rfl
            have hat := valuesAt_is s hs hn
            rw [h0] at hat
            refine Ev.step (f := fun k => (spec_ValuesAt.f k s).bind fun t122 => (if t122 < 0 then (some true) else (some false))) (fun k => ?_) (Ev.bind hat (Ev.congr (f := fun _ => some true) (fun k => by simp [atOf]) (Ev.now _)))
            simp only [laws_FnValuesAt.j0, hi0, Option.bind_some, Bool.false_eq_true, if_false, Bool.not_false]
          · have hi1 : impl_ValuesAt.f s = some ((a : Int), (y : Int) + 1, true) := by
              rw [hi, hv]
              simp [rd]
            have hat := valuesAt_is s hs hn
            have e : atOf [(a : Int), (y : Int) + 1] = (y : Int) := by simp [atOf]
            rw [hv, e] at hat
            have e1 : wrap64 ((y : Int) + 1) = (y : Int) + 1 := w64 _ (by omega)
            refine Ev.step (f := fun k => (spec_ValuesAt.f k s).bind fun t122 => (if t122 < 0 then (some false) else (if (y : Int) + 1 = (wrap64 (t122 + 1)) then ((spec_Ahead.f k s t122).bind fun t123 => (some ((a : Int) == t123))) else (some false)))) (fun k => ?_) (Ev.bind hat ?_)
            · simp only [laws_FnValuesAt.j0, hi1, Option.bind_some, Bool.false_eq_true, if_false, if_true, Bool.not_true]
            · refine Ev.congr (f := fun k => (spec_Ahead.l0 k s y).bind fun t => some ((a : Int) == t)) (fun k => by rw [if_neg (by omega), if_pos e1.symm]; rfl) (Ev.bind (ahead_ev s hs a ha41 (by omega) (y - a) y (by omega) hys hno) ?_)
              exact Ev.congr (f := fun _ => some true) (fun k => by simp) (Ev.now _)
      obtain ⟨k, hk⟩ := (Ev.bind hb key).rounds
      exact ⟨k, by simp only [laws_FnValuesAt.f]; rw [if_neg h1, if_neg h2]; exact hk⟩
end Go.Proofs.Ytnofpojkajmfoaa.Pure
