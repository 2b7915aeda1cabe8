/-
  PROVED: 'laws.FnRebuffed': question marks become dollar signs with their numbers, rune by rune as byte by byte. No condition.
-/
import Derived.Test.YtapnlnikeniomaaDoorSReb
import Derived.Test.YtapnlnikeniomaaDoorQF3
namespace Go.Proofs.YtapnlnikeniomaaDoor.Pure
open Go.RowKit Go.Proofs.YtapnlnikeniomaaDoor.QF Go.Proofs.YtapnlnikeniomaaDoor.H Go.Proofs.YtapnlnikeniomaaDoor.SF Go.Proofs.YtapnlnikeniomaaDoorW.PrintWords Go.Proofs.YtapnlnikeniomaaDoorW.PrintLast Go.Proofs.YtapnlnikeniomaaDoorW.PrintMore

theorem one_mark : impl_Rebuffed.f (⟨#[63]⟩ : ByteArray) = some ⟨#[36, 49]⟩ := by
  have h1 : Lib.itoa ((0 + 1 : Nat) : Int) = [49] := by rw [Lib.itoa, if_neg (by omega)]; exact Lib.decDigits_one (by omega)
  have hd : Utf8.decode (⟨#[63]⟩ : ByteArray) 0 = (63, 1) := decode_ascii (⟨#[63]⟩ : ByteArray) 0 (by decide) (by decide)
  have e : rbL (⟨#[63]⟩ : ByteArray) (⟨#[63]⟩ : ByteArray).size 0 0 = [36, 49] := by
    show rbL (⟨#[63]⟩ : ByteArray) 1 0 0 = _
    rw [rbL, if_pos (by decide), hd, if_pos rfl, h1]
    rfl
  unfold impl_Rebuffed.f
  rw [if_pos (by decide), e]
theorem FnRebuffed : laws_FnRebuffed.Pure := by
  intro s _
  have hj0 : Ev (fun k => laws_FnRebuffed.j0 k s true) true := Ev.step (f := fun _ => some true) (fun k => by simp only [laws_FnRebuffed.j0]; rw [if_pos trivial]) (Ev.now _)
  refine Ev.rounds (g := fun k => laws_FnRebuffed.f k s) ?_
  by_cases h1 : (s.size : Int) > 2147483647
  · exact Ev.congr (fun k => by simp only [laws_FnRebuffed.f]; rw [if_pos h1]) (Ev.now true)
  by_cases h2 : (s.size : Int) > 1000
  · exact Ev.congr (fun k => by simp only [laws_FnRebuffed.f]; rw [if_neg h1, if_pos h2]) hj0
  have hu : spec_UTF8.f s = some (utfB s) := by
    unfold spec_UTF8.f
    rw [if_pos (by omega)]
  have hr : impl_Rebuffed.f s = some ⟨(rbL s s.size 0 0).toArray⟩ := by
    unfold impl_Rebuffed.f
    rw [if_pos (by omega)]
  cases hb : utfB s with
  | false => exact Ev.congr (fun k => by simp only [laws_FnRebuffed.f]; rw [if_neg h1, if_neg h2, hu, hb, Option.bind_some]; rfl) hj0
  | true =>
    refine Ev.congr (f := fun k => laws_FnRebuffed.j0 k s false) (fun k => by simp only [laws_FnRebuffed.f]; rw [if_neg h1, if_neg h2, hu, hb, Option.bind_some]; rfl) ?_
    have hreb := rebound_is 2 (by decide) s (by omega)
    rw [if_neg (by decide), ← utf_is s hb] at hreb
    have hlast : ((⟨#[36, 49]⟩ : ByteArray).toList == ([36, 49] : List UInt8)) = true := by
      rw [ByteArray.toList_eq]
      rfl
    refine Ev.step (f := fun k => (spec_Rebound.f k 2 s).bind fun t114 => (if (⟨(rbL s s.size 0 0).toArray⟩ : ByteArray).toList = t114.toList then some true else some false)) (fun k => ?_) (Ev.bind hreb ?_)
    · simp only [laws_FnRebuffed.j0]
      rw [if_neg (by decide), hr, Option.bind_some, one_mark, Option.bind_some, hlast]
    · exact Ev.congr (fun k => if_pos rfl) (Ev.now _)
end Go.Proofs.YtapnlnikeniomaaDoor.Pure
