/-
  PROVED: 'laws.FnDebug': a statement for people has its arguments in apostrophes in the places of the question marks. No condition but that numbers are such of 64 bits.
-/
import Derived.Test.YtabaldpjahcilaaDoorSDbg
import Derived.Test.YtabaldpjahcilaaDoorQD6
namespace Go.Proofs.YtabaldpjahcilaaDoor.Pure
open Go.RowKit Go.Proofs.YtabaldpjahcilaaDoor.QD Go.Proofs.YtabaldpjahcilaaDoor.H Go.Proofs.YtabaldpjahcilaaDoor.SB Go.Proofs.YtabaldpjahcilaaDoorW.PrintWords Go.Proofs.YtabaldpjahcilaaDoorW.PrintLast Go.Proofs.YtabaldpjahcilaaDoorW.PrintMore

theorem seven : impl_Debug.f (⟨#[63]⟩ : ByteArray) ([(⟨1, 7, (⟨#[]⟩ : ByteArray), ([] : List S27)⟩ : S27)] : List S27) = some ⟨#[39, 55, 39]⟩ := by
  have hd : dbgR (⟨1, 7, (⟨#[]⟩ : ByteArray), ([] : List S27)⟩ : S27) := ⟨⟨by decide, by decide, rfl, .inr rfl, .inl rfl⟩, ⟨by decide, by decide⟩, by decide⟩
  rw [impl_is ⟨#[63]⟩ (by decide) _ (by decide) (fun x hx => by rw [List.mem_singleton.1 hx]; exact hd)]
  have hi : Lib.itoa 7 = [55] := by
    rw [show (7 : Int) = ((7 : Nat) : Int) from rfl, Lib.itoa_nonneg, Lib.decDigits_one (by decide)]
    rfl
  show some (⟨(dbgL [63] [(⟨1, 7, (⟨#[]⟩ : ByteArray), ([] : List S27)⟩ : S27)] []).toArray⟩ : ByteArray) = _
  rw [dbg_one [] (by simp)]
  simp [dbgL, quoL, shw, hi]
theorem FnDebug (s : ByteArray) (l : List S27) (hn : ∀ x ∈ l, numR x) : ∃ k, laws_FnDebug.f k s l = some true := by
  have j0T : Ev (fun k => laws_FnDebug.j0 k s l true) true := Ev.step (f := fun _ => some true) (fun k => by simp only [laws_FnDebug.j0]; rw [if_pos trivial]) (Ev.now _)
  have j1T : Ev (fun k => laws_FnDebug.j1 k s l true) true := Ev.step (f := fun _ => some true) (fun k => by simp only [laws_FnDebug.j1]; rw [if_pos trivial]) (Ev.now _)
  refine Ev.rounds (g := fun k => laws_FnDebug.f k s l) ?_
  by_cases h1 : (s.size : Int) > 2147483647
  · exact Ev.congr (fun k => by simp only [laws_FnDebug.f]; rw [if_pos h1]) j0T
  by_cases h2 : (l.length : Int) > 2147483647
  · exact Ev.congr (fun k => by simp only [laws_FnDebug.f]; rw [if_neg h1, decide_eq_true h2]) j0T
  refine Ev.congr (f := fun k => laws_FnDebug.j0 k s l false) (fun k => by simp only [laws_FnDebug.f]; rw [if_neg h1, decide_eq_false h2]) ?_
  by_cases h3 : (s.size : Int) > 1000
  · refine Ev.step (fun k => ?_) j1T
    simp only [laws_FnDebug.j0]
    rw [if_neg (by decide), if_pos h3]
  obtain ⟨b, hE, hb⟩ := single9_is l (by omega)
  refine Ev.step (f := fun k => (laws_single9.f k l).bind fun t124 => (if t124 = true then ((spec_Marks.f k s).bind fun t125 => (laws_FnDebug.j1 k s l (t125 != (l.length : Int)))) else (laws_FnDebug.j1 k s l true))) (fun k => ?_) (Ev.bind hE ?_)
  · simp only [laws_FnDebug.j0]
    rw [if_neg (by decide), if_neg h3]
  cases b with
  | false => exact Ev.congr (fun k => by rw [if_neg (by decide)]) j1T
  | true =>
    obtain ⟨hl, hr⟩ := hb rfl
    have hall : ∀ x ∈ l, dbgR x := fun x hx => dbg_ok (hr x hx) (hn x hx)
    refine Ev.congr (f := fun k => (spec_Marks.f k s).bind fun t125 => (laws_FnDebug.j1 k s l (t125 != (l.length : Int)))) (fun k => by rw [if_pos rfl]) (Ev.bind (marks_is s (by omega)) ?_)
    by_cases hm : mkL s.data.toList = l.length
    · have hne : ((mkL s.data.toList : Int) != (l.length : Int)) = false := by rw [hm]; simp
      have him := impl_is s (by omega) l (by omega) hall
      rw [hne]
      refine Ev.step (f := fun k => (spec_Debug.f k s l).bind fun t127 => (if (debF s l).toList = t127.toList then ((impl_Debug.f (⟨#[63]⟩ : ByteArray) (([(⟨1, 7, (⟨#[]⟩ : ByteArray), ([] : List S27)⟩ : S27)] : List S27))).bind fun t131 => (some (t131.toList == ([39, 55, 39] : List UInt8)))) else (some false))) (fun k => ?_) (Ev.bind (debug_is s (by omega) l (by omega) hall hm) (Ev.congr (f := fun _ => some true) (fun k => ?_) (Ev.now _)))
      · simp only [laws_FnDebug.j1]
        rw [if_neg (by decide), him, Option.bind_some]
      · rw [if_pos rfl, seven, Option.bind_some, ByteArray.toList_eq]
        rfl
    · have hne : ((mkL s.data.toList : Int) != (l.length : Int)) = true := by
        rw [bne_iff_ne]
        omega
      rw [hne]
      exact j1T
end Go.Proofs.YtabaldpjahcilaaDoor.Pure
