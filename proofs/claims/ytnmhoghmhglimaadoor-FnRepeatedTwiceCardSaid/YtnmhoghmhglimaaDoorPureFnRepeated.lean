/-
  PROVED: 'laws.FnRepeated': the bracket behind VALUES stands so many times, as the reference says. No condition.
-/
import Derived.Test.YtnmhoghmhglimaaDoorSValues
import Derived.Test.YtnmhoghmhglimaaDoorSClosing
import Derived.Test.YtnmhoghmhglimaaDoorHRep
import Derived.Test.YtnmhoghmhglimaaDoorQR1
namespace Go.Proofs.YtnmhoghmhglimaaDoor.Pure
open Go.RowKit Go.Proofs.YtnmhoghmhglimaaDoor.QR Go.Proofs.YtnmhoghmhglimaaDoor.H Go.Proofs.YtnmhoghmhglimaaDoor.S Go.Proofs.YtnmhoghmhglimaaDoorW.PrintWords Go.Proofs.YtnmhoghmhglimaaDoorW.PrintLast Go.Proofs.YtnmhoghmhglimaaDoorW.PrintMore

theorem impl_rep (s : ByteArray) (hs : s.size ≤ 1048576) (n : Int) (h0 : 0 ≤ n) (h1 : n ≤ 1048576) : impl_Repeated.f s n = some (fixF s n) := by
  simp only [impl_Repeated.f, sqlx_FixBound.f, sqlx_fixBound.f]
  rw [if_pos ⟨hs, h0, h1⟩]
  rfl
/-- The reference's text is the package's, where the text has no long s. -/
theorem rep_is (s : ByteArray) (hs : s.size ≤ 1048576) (hn : NoLong s) (n : Int) (h0 : 0 ≤ n) (h1 : n ≤ 1048576) : Ev (fun k => spec_Repeated.f k s n) (fixF s n) := by
  have hat : Ev (fun k => H.spec_ValuesAt.f k s) (atOf (valN s s.size 0)) := valuesAt_is s hs hn
  unfold spec_Repeated.f
  refine Ev.bind hat ?_
  unfold fixF
  rcases valN_found s hn s.size 0 (by omega) (by omega) with hv | ⟨a, y, hv, _, hay, hy, _, h40, _⟩
  · rw [hv]
    exact Ev.congr (f := fun _ => some s) (fun k => by rw [if_pos (by simp [atOf])]) (Ev.now _)
  · rw [hv]
    have e : atOf [(a : Int), (y : Int) + 1] = (y : Int) := by simp [atOf]
    have e2 : ((y : Int) + 1 - 1).toNat = y := by omega
    rw [e]
    simp only [e2]
    rcases closing_is s hs y (by omega) hy h40 with ⟨hc, hz⟩ | ⟨hz, hlt, hc⟩
    · rw [if_pos hz]
      have hc' : Ev (fun k => H.spec_Closing.f k s (y : Int)) (-1) := hc
      refine Ev.congr (f := fun k => (H.spec_Closing.f k s (y : Int)).bind fun to_ => if to_ < 0 then some s else if 0 ≤ (y : Int) ∧ (y : Int) ≤ to_ ∧ to_ < s.size ∧ s.size ≤ 1048576 ∧ n ≤ 1048576 ∧ -1048576 ≤ n then some (fixL s (y : Int).toNat (to_.toNat + 1) (n - 1).toNat) else none) (fun k => by rw [if_neg (by omega)]) (Ev.bind hc' ?_)
      exact Ev.congr (f := fun _ => some s) (fun k => by rw [if_pos (by omega)]) (Ev.now _)
    · rw [if_neg (by omega)]
      have hc' : Ev (fun k => H.spec_Closing.f k s (y : Int)) (y + idxOf s y) := hc
      refine Ev.congr (f := fun k => (H.spec_Closing.f k s (y : Int)).bind fun to_ => if to_ < 0 then some s else if 0 ≤ (y : Int) ∧ (y : Int) ≤ to_ ∧ to_ < s.size ∧ s.size ≤ 1048576 ∧ n ≤ 1048576 ∧ -1048576 ≤ n then some (fixL s (y : Int).toNat (to_.toNat + 1) (n - 1).toNat) else none) (fun k => by rw [if_neg (by omega)]) (Ev.bind hc' ?_)
      have e3 : ((y : Int) + idxOf s y).toNat + 1 = y + (idxOf s y).toNat + 1 := by omega
      exact Ev.congr (f := fun _ => some (fixL s y (y + (idxOf s y).toNat + 1) (n - 1).toNat)) (fun k => by rw [if_neg (by omega), if_pos (by omega), e3, Int.toNat_natCast]) (Ev.now _)

theorem FnRepeated : laws_FnRepeated.Pure := by
  intro s n _ _
  have done_ : ∀ k, laws_FnRepeated.j0 (k + 1) s n true = some true := fun k => by simp only [laws_FnRepeated.j0, if_true]
  by_cases h1 : (s.size : Int) > 2147483647
  · exact ⟨0, by simp only [laws_FnRepeated.f]; rw [if_pos h1]⟩
  by_cases h2 : (s.size : Int) > 1000
  · exact ⟨1, by simp only [laws_FnRepeated.f]; rw [if_neg h1, if_pos h2]; exact done_ 0⟩
  by_cases h3 : n < 1
  · exact ⟨1, by simp only [laws_FnRepeated.f]; rw [if_neg h1, if_neg h2, if_pos h3]; exact done_ 0⟩
  by_cases h4 : n > 20
  · exact ⟨1, by simp only [laws_FnRepeated.f]; rw [if_neg h1, if_neg h2, if_neg h3, if_pos h4]; exact done_ 0⟩
  have hs : s.size ≤ 1048576 := by omega
  obtain ⟨b, hb0, hf, _⟩ := long_is s hs
  have hb : Ev (fun k => H.spec_LongS.f k s) b := hb0
  have key : Ev (fun k => laws_FnRepeated.j0 k s n b) true := by
    cases b with
    | true => exact Ev.step (f := fun _ => some true) (fun k => by simp only [laws_FnRepeated.j0, if_true]) (Ev.now _)
    | false =>
      have hn := hf rfl
      refine Ev.step (f := fun k => (spec_Repeated.f k s n).bind fun t105 => (if (fixF s n).toList = t105.toList then ((impl_Repeated.f (⟨#[41, 118, 97, 108, 117, 101, 115, 40, 63, 41]⟩ : ByteArray) 2).bind fun t106 => (some (t106.toList == ([41, 118, 97, 108, 117, 101, 115, 40, 63, 41, 44, 40, 63, 41] : List UInt8)))) else (some false))) (fun k => ?_) ?_
      · simp only [laws_FnRepeated.j0, Bool.false_eq_true, if_false, impl_rep s hs n (by omega) (by omega), Option.bind_some]
      · refine Ev.bind (rep_is s hs hn n (by omega) (by omega)) ?_
        refine Ev.congr (f := fun _ => some true) (fun k => ?_) (Ev.now _)
        rw [if_pos rfl]
        decide +kernel
  obtain ⟨k, hk⟩ := (Ev.bind hb key).rounds
  exact ⟨k, by simp only [laws_FnRepeated.f]; rw [if_neg h1, if_neg h2, if_neg h3, if_neg h4]; exact hk⟩
end Go.Proofs.YtnmhoghmhglimaaDoor.Pure
