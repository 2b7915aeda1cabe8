/-
  A LIST OF VALUES, as a row's claim holds it.
-/
import Derived.Test.YtlclbfhnllknkaaOpen
namespace Go.Proofs.Ytlclbfhnllknkaa.H
open Go.RowKit Go.Proofs.YtlclbfhnllknkaaW.PrintWords Go.Proofs.YtlclbfhnllknkaaW.PrintLast Go.Proofs.YtlclbfhnllknkaaW.PrintMore Go.Proofs.Ytlclbfhnllknkaa.QE
theorem opens_vals {H : Type} {enc : TypeId × Value → H} {w : World} {base : Nat} {spare : Nat → Bool} {held : Bool} {fuel : Nat} {cs : List Value} {x : DataW H × List MemPlace} (h : DataW.trod enc Try.prog w base spare held fuel 26 cs = some x) : ∃ (l : List S37) (A : Option Addr) (c : Nat), cs = [.slice A l.length c] ∧ l.length ≤ c ∧ k37.C w A l.length l :=
  opens_slice k37 z37 Try.underlying26 (by kernel_rfl) (fun n _ cs x hx => opens_val n cs x hx) h
end Go.Proofs.Ytlclbfhnllknkaa.H
