/-
  MERGED BY A PROGRAM OF THIS SESSION (wip/pack.py): Open2.
-/
import Derived.Test.YtnmhoghmhglimaaDoorZG
/-
  ARGUMENTS as a row's claim holds them: lists of lists of arguments with names.
-/
namespace Go.Proofs.YtnmhoghmhglimaaDoor.H
open Go.RowKit Go.Proofs.YtnmhoghmhglimaaDoorW.PrintWords Go.Proofs.YtnmhoghmhglimaaDoorW.PrintLast Go.Proofs.YtnmhoghmhglimaaDoorW.PrintMore Go.Proofs.YtnmhoghmhglimaaDoor.QN
set_option linter.unusedSimpArgs false
section
variable {H : Type} {enc : TypeId × Value → H} {w : World} {base : Nat} {spare : Nat → Bool} {held : Bool}
theorem opens_rows {fuel : Nat} {cs : List Value} {x : DataW H × List MemPlace} (h : DataW.trod enc Tryd.prog w base spare held fuel 58 cs = some x) : ∃ (l : List (List S54)) (A : Option Addr) (c : Nat), cs = [.slice A l.length c] ∧ l.length ≤ c ∧ (Kd.slice 54 k54).C w A l.length l :=
  opens_slice (Kd.slice 54 k54) [] Tryd.underlying58 (by kernel_rfl) (fun n _ cs x hx => opens_args hx) h
/-- No row is longer than a length may be. -/
theorem rows_len {A : Option Addr} {n : Nat} {l : List (List S54)} (h : (Kd.slice 54 k54).C w A n l) : ∀ r ∈ l, r.length ≤ 9223372036854775807 := by
  intro r hr
  obtain ⟨j, hj, rfl⟩ := List.mem_iff_getElem.1 hr
  obtain ⟨ad, _, hc⟩ := h.2.2 (by have := h.1; omega)
  obtain ⟨c, _, ⟨A0, c0, _, _, hC⟩, _⟩ := hc j _ (List.getElem?_eq_getElem hj)
  exact hC.2.1
end
end Go.Proofs.YtnmhoghmhglimaaDoor.H
