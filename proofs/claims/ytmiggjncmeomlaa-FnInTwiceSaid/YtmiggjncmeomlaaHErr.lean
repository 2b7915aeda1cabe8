/-
  CONTRACTS: errors.New; rows of interface values of the call's own.
-/
import Derived.Test.YtmiggjncmeomlaaHValOf
import Derived.Laws.AppendOwnNone
import Derived.Lib.OthersKept
namespace Go.Proofs.Ytmiggjncmeomlaa.H
open Go.RowKit Go.Proofs.YtmiggjncmeomlaaW.PrintWords Go.Proofs.YtmiggjncmeomlaaW.PrintLast Go.Proofs.YtmiggjncmeomlaaW.PrintMore Go.Proofs.Ytmiggjncmeomlaa.QS
set_option linter.unusedVariables false
set_option linter.unusedSimpArgs false

set_option maxRecDepth 100000 in
/-- An error of a text. -/
theorem errors_new (t : ByteArray) (w : World) : Calls Try.prog 24 #[.string t] w fun e w' => (∃ ty x, e = .returned (.iface ty x)) ∧ Below w.heap.size w w' := by
  go_enter Try.func24, Try.ntmps24
  go_wp2_with fail
  go_ret
  exact ⟨⟨_, _, rfl⟩, below_alloc (Below.refl _ _) _⟩
/-- A row of interface values of the call's own: these values, as they lie in w0. -/
def ARow (w0 : World) (B : Nat) (vs : List S24) (v : Value) (w : World) : Prop := OwnRow (kG.K w0) 20 1 w B v vs
theorem ARow.got {w0 w : World} {B : Nat} {vs : List S24} {v : Value} (h : ARow w0 B vs v w) (hb : Below w0.heap.size w0 w) : ∃ A c, v = .slice A vs.length c ∧ vs.length ≤ c ∧ kG.C w A vs.length vs := by
  obtain ⟨A, c, e, hl, hr⟩ := OwnRow.reads h
  exact ⟨A, c, e, hl, hr.imp_ (Below.refl _ _) (fun _ _ hp => kG.K_below hb hp)⟩
section
variable {ops : Array Oper} {rest : List Oper} {o : Oper} {a : Act} {Q : Exit → Act → World → Prop}
theorem make_any (w0 w : World) (B : Nat) (hg : o.guard = none) (l c : Operand) (hop : o.op = Op.makeSlice 39 l c)
    (C : Int) (n : Nat) (hl : a.eval l = .int .i64 0) (hc : a.eval c = .int .i64 C) (hC : C = (n : Int)) (hn : n ≤ 1099511627776) (hB : B ≤ w.heap.size)
    (hK : ∀ w', ARow w0 B [] (.slice (some ⟨w.heap.size, 0, none⟩) 0 n) w' → w.grownBy w' none → wpList Try.prog ops Q rest (a.put o.dst (.slice (some ⟨w.heap.size, 0, none⟩) 0 n)) w') :
    wpList Try.prog ops Q (o :: rest) a w := by
  obtain ⟨i0, hi, hz0, hz1, hz2⟩ := info_parts info_iface
  exact wpList_make_own w hg l c 39 hop B 20 i0 _ 1 Try.underlying39 hi hz0 hz1 .i64 .i64 C n hl hc hC (by rw [hz2]; omega) (by simp only [maxLen]; omega) hB (fun w' h1 h2 => hK w' ⟨[], h1, Reps.none _ _⟩ h2)
end
theorem below_none {w w' : World} {B : Nat} (hg : w.grownBy w' none) (hB : B ≤ w.heap.size) {w1 : World} (h : Below B w1 w) : Below B w1 w' := h.grown hg hB (fun k hk => by cases hk)
end Go.Proofs.Ytmiggjncmeomlaa.H
