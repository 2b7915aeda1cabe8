/-
  A LIST OF VALUES, as a row's claim holds it.
-/
import Derived.Test.YtabaldpjahcilaaOpen
namespace Go.Proofs.Ytabaldpjahcilaa.H
open Go.RowKit Go.Proofs.YtabaldpjahcilaaW.PrintWords Go.Proofs.YtabaldpjahcilaaW.PrintLast Go.Proofs.YtabaldpjahcilaaW.PrintMore Go.Proofs.Ytabaldpjahcilaa.QP
theorem opens_vals {H : Type} {enc : TypeId × Value → H} {w : World} {base : Nat} {spare : Nat → Bool} {held : Bool} {fuel : Nat} {cs : List Value} {x : DataW H × List MemPlace} (h : DataW.trod enc Try.prog w base spare held fuel 22 cs = some x) : ∃ (l : List S30) (A : Option Addr) (c : Nat), cs = [.slice A l.length c] ∧ l.length ≤ c ∧ k30.C w A l.length l :=
  opens_slice k30 z30 Try.underlying22 (by kernel_rfl) (fun n _ cs x hx => opens_val n cs x hx) h
end Go.Proofs.Ytabaldpjahcilaa.H
