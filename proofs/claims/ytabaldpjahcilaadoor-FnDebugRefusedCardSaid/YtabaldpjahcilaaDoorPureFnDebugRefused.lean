/-
  PROVED: 'laws.FnDebugRefused': of too few, and too many arguments it says that it is an error. No condition but that numbers are such of 64 bits.
-/
import Derived.Test.YtabaldpjahcilaaDoorSDbg
import Derived.Test.YtabaldpjahcilaaDoorQD7
namespace Go.Proofs.YtabaldpjahcilaaDoor.Pure
open Go.RowKit Go.Proofs.YtabaldpjahcilaaDoor.QD Go.Proofs.YtabaldpjahcilaaDoor.H Go.Proofs.YtabaldpjahcilaaDoor.SB Go.Proofs.YtabaldpjahcilaaDoorW.PrintWords Go.Proofs.YtabaldpjahcilaaDoorW.PrintLast Go.Proofs.YtabaldpjahcilaaDoorW.PrintMore

theorem begins (x : ByteArray) (h : x = ⟨tooM.toArray⟩ ∨ x = ⟨notE.toArray⟩) : (if (x.size : Int) ≥ 21 then (if (0 : Int) ≤ 21 then (if 21 ≤ (x.size : Int) then (some ((x.extract 0 21).toList == ([91, 68, 101, 98, 117, 103, 83, 113, 108, 105, 122, 101, 114, 32, 101, 114, 114, 111, 114, 58, 32] : List UInt8))) else (none)) else (none)) else (some false)) = some true := by
  have hs : (x.size : Int) ≥ 21 := by
    rcases h with h | h
    · rw [h]
      show ((tooM.toArray.size : Nat) : Int) ≥ 21
      decide
    · rw [h]
      show ((notE.toArray.size : Nat) : Int) ≥ 21
      decide
  rw [if_pos hs, if_pos (by decide), if_pos hs, ByteArray.toList_eq, ByteArray.data_extract, Array.toList_extract]
  rcases h with h | h
  · rw [h]
    rfl
  · rw [h]
    rfl
theorem FnDebugRefused (s : ByteArray) (l : List S27) (hn : ∀ x ∈ l, numR x) : ∃ k, laws_FnDebugRefused.f k s l = some true := by
  have j0T : Ev (fun k => laws_FnDebugRefused.j0 k s l true) true := Ev.step (f := fun _ => some true) (fun k => by simp only [laws_FnDebugRefused.j0]; rw [if_pos trivial]) (Ev.now _)
  refine Ev.rounds (g := fun k => laws_FnDebugRefused.f k s l) ?_
  by_cases h1 : (s.size : Int) > 2147483647
  · exact Ev.congr (fun k => by simp only [laws_FnDebugRefused.f]; rw [if_pos h1]) j0T
  by_cases h2 : (l.length : Int) > 2147483647
  · exact Ev.congr (fun k => by simp only [laws_FnDebugRefused.f]; rw [if_neg h1, decide_eq_true h2]) j0T
  refine Ev.congr (f := fun k => laws_FnDebugRefused.j0 k s l false) (fun k => by simp only [laws_FnDebugRefused.f]; rw [if_neg h1, decide_eq_false h2]) ?_
  by_cases h3 : (s.size : Int) > 1000
  · refine Ev.step (f := fun _ => some true) (fun k => ?_) (Ev.now _)
    simp only [laws_FnDebugRefused.j0]
    rw [if_neg (by decide), if_pos h3]
  obtain ⟨b, hE, hb⟩ := single9_is l (by omega)
  refine Ev.step (f := fun k => (laws_single9.f k l).bind fun t132 => (if t132 = true then ((spec_Marks.f k s).bind fun t133 => (if t133 = (l.length : Int) then (some true) else ((impl_Debug.f s l).bind fun t134 => (if (t134.size : Int) ≥ 21 then (if 0 ≤ 21 then (if 21 ≤ (t134.size : Int) then (some ((t134.extract 0 21).toList == ([91, 68, 101, 98, 117, 103, 83, 113, 108, 105, 122, 101, 114, 32, 101, 114, 114, 111, 114, 58, 32] : List UInt8))) else (none)) else (none)) else (some false))))) else (some true))) (fun k => ?_) (Ev.bind hE ?_)
  · simp only [laws_FnDebugRefused.j0]
    rw [if_neg (by decide), if_neg h3]
  cases b with
  | false => exact Ev.congr (f := fun _ => some true) (fun k => by rw [if_neg (by decide)]) (Ev.now _)
  | true =>
    obtain ⟨hl, hr⟩ := hb rfl
    have hall : ∀ x ∈ l, dbgR x := fun x hx => dbg_ok (hr x hx) (hn x hx)
    have him := impl_is s (by omega) l (by omega) hall
    refine Ev.congr (f := fun k => (spec_Marks.f k s).bind fun t133 => (if t133 = (l.length : Int) then (some true) else ((impl_Debug.f s l).bind fun t134 => (if (t134.size : Int) ≥ 21 then (if 0 ≤ 21 then (if 21 ≤ (t134.size : Int) then (some ((t134.extract 0 21).toList == ([91, 68, 101, 98, 117, 103, 83, 113, 108, 105, 122, 101, 114, 32, 101, 114, 114, 111, 114, 58, 32] : List UInt8))) else (none)) else (none)) else (some false))))) (fun k => by rw [if_pos rfl]) (Ev.bind (marks_is s (by omega)) ?_)
    by_cases hm : mkL s.data.toList = l.length
    · exact Ev.congr (f := fun _ => some true) (fun k => by rw [hm, if_pos rfl]) (Ev.now _)
    · refine Ev.congr (f := fun _ => some true) (fun k => ?_) (Ev.now _)
      rw [if_neg (by omega), him, Option.bind_some]
      refine begins (debF s l) ?_
      rcases refused_l _ s.data.toList (Nat.le_refl _) l [] hm with h | h
      · exact .inl (by unfold debF; rw [h])
      · exact .inr (by unfold debF; rw [h])
end Go.Proofs.YtabaldpjahcilaaDoor.Pure
