/-
  PROVED: 'laws.FnClosingOf': the place that the package finds for the bracket that closes the first opening one is the reference's. No condition.
-/
import Derived.Test.YtnofpojkajmfoaaQS2
namespace Go.Proofs.Ytnofpojkajmfoaa.Pure
open Go.RowKit Go.Proofs.Ytnofpojkajmfoaa.QS Go.Proofs.Ytnofpojkajmfoaa.H Go.Proofs.YtnofpojkajmfoaaW.PrintWords Go.Proofs.YtnofpojkajmfoaaW.PrintLast Go.Proofs.YtnofpojkajmfoaaW.PrintMore

theorem cl_w64 (x : Int) (h : -1099511627776 ≤ x ∧ x ≤ 1099511627776) : wrap64 x = x := IntWalk.wrap64_in x (by omega)

/-- The reference's loop from place i on, c brackets open, against the search. -/
theorem closing_ev (s : ByteArray) (hs : s.size ≤ 1000) : ∀ (d i : Nat) (c : Int), s.size - i = d → i ≤ s.size → -(i : Int) ≤ c → c ≤ i →
    ∃ r, Ev (fun k => spec_Closing.l0 k s c i) r ∧ mx 0 r = findC s d i c := by
  intro d
  induction d with
  | zero =>
    intro i c hd hi h1 h2
    refine ⟨-1, Ev.step (f := fun _ => some (-1)) (fun k => ?_) (Ev.now _), ?_⟩
    · simp only [spec_Closing.l0]
      rw [if_neg (by omega)]
    · simp [findC, mx]
  | succ d ih =>
    intro i c hd hi h1 h2
    have hlt : i < s.size := by omega
    have hlt' : (i : Int) < (s.size : Int) := by omega
    have e1 : wrap64 ((i : Int) + 1) = ((i + 1 : Nat) : Int) := by rw [cl_w64 _ (by omega)]; omega
    have ep : wrap64 (c + 1) = c + 1 := cl_w64 _ (by omega)
    have em : wrap64 (c - 1) = c - 1 := cl_w64 _ (by omega)
    have hstep : ∀ k, spec_Closing.l0 (k + 1) s c i = if (bt s i) = 40 then (spec_Closing.l0 k s (c + 1) ((i + 1 : Nat) : Int)) else (if (bt s i) = 41 then (if (c - 1) = 0 then (some (i : Int)) else (spec_Closing.l0 k s (c - 1) ((i + 1 : Nat) : Int))) else (spec_Closing.l0 k s c ((i + 1 : Nat) : Int))) := by
      intro k
      simp only [spec_Closing.l0]
      rw [if_pos hlt', if_pos (by omega), e1, ep, em]
    rw [findC, if_pos hlt]
    by_cases h40 : bt s i = 40
    · obtain ⟨r, hr, he⟩ := ih (i + 1) (c + 1) (by omega) (by omega) (by omega) (by omega)
      exact ⟨r, Ev.step (fun k => by rw [hstep, if_pos h40]) hr, by rw [if_pos h40]; exact he⟩
    · by_cases h41 : bt s i = 41
      · by_cases hz : c - 1 = 0
        · exact ⟨i, Ev.step (f := fun _ => some (i : Int)) (fun k => by rw [hstep, if_neg h40, if_pos h41, if_pos hz]) (Ev.now _), by rw [if_neg h40, if_pos h41, if_pos hz]; unfold mx; split <;> omega⟩
        · obtain ⟨r, hr, he⟩ := ih (i + 1) (c - 1) (by omega) (by omega) (by omega) (by omega)
          exact ⟨r, Ev.step (fun k => by rw [hstep, if_neg h40, if_pos h41, if_neg hz]) hr, by rw [if_neg h40, if_pos h41, if_neg hz]; exact he⟩
      · obtain ⟨r, hr, he⟩ := ih (i + 1) c (by omega) (by omega) (by omega) (by omega)
        exact ⟨r, Ev.step (fun k => by rw [hstep, if_neg h40, if_neg h41]) hr, by rw [if_neg h40, if_neg h41]; exact he⟩

theorem impl_closing (s : ByteArray) (hs : s.size ≤ 1000) : impl_ClosingOf.f s = some (findC s s.size 0 0) := by
  simp only [impl_ClosingOf.f, sqlx_Closing.f, sqlx_findMatchingClosingBracketIndex.f]
  rw [if_pos (by omega)]
  rfl

/-- The law's own loop: from place i on, where no bracket stands ahead of i. -/
theorem closing_loop (s : ByteArray) (hs : s.size ≤ 1000) : ∀ (d i : Nat), s.size - i = d → i ≤ s.size → findC s s.size 0 0 = findC s d i 0 →
    Ev (fun k => laws_FnClosingOf.l0 k s i) true := by
  have fin : ∀ (d i : Nat), s.size - i = d → i ≤ s.size → findC s s.size 0 0 = findC s d i 0 → ∀ b : Bool, (b = true → True) → Ev (fun k => laws_FnClosingOf.j2 k s i b) true := by
    intro d i hd hi hf b _
    cases b with
    | true => exact Ev.step (f := fun _ => some true) (fun k => by simp only [laws_FnClosingOf.j2, if_true]) (Ev.now _)
    | false =>
      obtain ⟨r, hr, he⟩ := closing_ev s hs d i 0 hd hi (by omega) (by omega)
      refine Ev.step (f := fun k => (spec_Closing.f k s i).bind fun t108 => (if (findC s s.size 0 0) = (mx 0 t108) then ((impl_ClosingOf.f (⟨#[40, 40, 41, 41]⟩ : ByteArray)).bind fun t109 => (some (t109 == 3))) else (some false))) (fun k => ?_) ?_
      · simp only [laws_FnClosingOf.j2, Bool.false_eq_true, if_false, impl_closing s hs, Option.bind_some]
      · refine Ev.bind (g := fun k => spec_Closing.f k s i) (f := fun _ t108 => (if (findC s s.size 0 0) = (mx 0 t108) then ((impl_ClosingOf.f (⟨#[40, 40, 41, 41]⟩ : ByteArray)).bind fun t109 => (some (t109 == 3))) else (some false))) hr ?_
        refine Ev.congr (f := fun _ => some true) (fun k => ?_) (Ev.now _)
        rw [if_pos (by rw [he, hf])]
        decide +kernel
  have j1 : ∀ (d i : Nat), s.size - i = d → i ≤ s.size → findC s s.size 0 0 = findC s d i 0 → Ev (fun k => laws_FnClosingOf.j1 k s i) true := by
    intro d i hd hi hf
    by_cases hlt : (i : Int) < (s.size : Int)
    · exact Ev.step (fun k => by simp only [laws_FnClosingOf.j1]; rw [if_pos hlt, if_pos (by omega)]) (fin d i hd hi hf (bt s i == 41) (fun _ => trivial))
    · exact Ev.step (fun k => by simp only [laws_FnClosingOf.j1]; rw [if_neg hlt]) (fin d i hd hi hf false (fun _ => trivial))
  intro d
  induction d with
  | zero =>
    intro i hd hi hf
    exact Ev.step (fun k => by simp only [laws_FnClosingOf.l0]; rw [if_neg (by omega)]) (j1 0 i hd hi hf)
  | succ d ih =>
    intro i hd hi hf
    have hlt' : (i : Int) < (s.size : Int) := by omega
    have e1 : wrap64 ((i : Int) + 1) = ((i + 1 : Nat) : Int) := by rw [cl_w64 _ (by omega)]; omega
    have hstep : ∀ k, laws_FnClosingOf.l0 (k + 1) s i = if (bt s i) = 40 then (laws_FnClosingOf.j1 k s i) else (if (bt s i) = 41 then (laws_FnClosingOf.j1 k s i) else (laws_FnClosingOf.l0 k s ((i + 1 : Nat) : Int))) := by
      intro k
      simp only [laws_FnClosingOf.l0]
      rw [if_pos hlt', if_pos (by omega), e1]
    by_cases h40 : bt s i = 40
    · exact Ev.step (fun k => by rw [hstep, if_pos h40]) (j1 (d + 1) i hd hi hf)
    · by_cases h41 : bt s i = 41
      · exact Ev.step (fun k => by rw [hstep, if_neg h40, if_pos h41]) (j1 (d + 1) i hd hi hf)
      · refine Ev.step (fun k => by rw [hstep, if_neg h40, if_neg h41]) (ih (i + 1) (by omega) (by omega) ?_)
        rw [hf, findC, if_pos (by omega), if_neg h40, if_neg h41]

theorem FnClosingOf : laws_FnClosingOf.Pure := by
  intro s _
  by_cases h1 : (s.size : Int) > 2147483647
  · exact ⟨0, by simp only [laws_FnClosingOf.f]; rw [if_pos h1]⟩
  · by_cases h2 : (s.size : Int) > 1000
    · exact ⟨0, by simp only [laws_FnClosingOf.f]; rw [if_neg h1, if_pos h2]⟩
    · obtain ⟨k, hk⟩ := (closing_loop s (by omega) s.size 0 (by omega) (by omega) rfl).rounds
      exact ⟨k, by simp only [laws_FnClosingOf.f]; rw [if_neg h1, if_neg h2]; exact hk⟩
end Go.Proofs.Ytnofpojkajmfoaa.Pure
