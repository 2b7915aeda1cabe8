/-
  The table that strconv reads.
-/
import Derived.Test.YtabaldpjahcilaaDoorShelf
import Derived.Test.YtabaldpjahcilaaDoorWWords
import Derived.Test.YtabaldpjahcilaaDoorWLast
import Derived.Test.YtabaldpjahcilaaDoorWMore
import Derived.Lib.ItoaLen
import Derived.Lib.AppendIntMem
import Derived.OwnWalk
namespace Go.Proofs.YtabaldpjahcilaaDoor.H
open Go.RowKit Go.Proofs.YtabaldpjahcilaaDoorW.PrintWords
set_option linter.unusedVariables false

/-- The table of internal/strconv reads as its initialiser lays it. -/
def Tab (w : World) : Prop := Lib.TabIs Tryd.prog w "internal/strconv.uint64pow10" .u64 Lib.pow10Tab
/-- .. whatever is done from block B on. -/
def TabB (B : Nat) (w : World) : Prop := Lib.TabBelow Tryd.prog B w "internal/strconv.uint64pow10" .u64 Lib.pow10Tab
theorem tab_below {w : World} (h : Tab w) : TabB w.heap.size w := Lib.tabBelow_of_tabIs h
theorem tab_on {B : Nat} {w w2 : World} (h : TabB B w) (k : Below B w w2) : TabB B w2 := h.on k

theorem tab_at {B : Nat} {w w2 : World} (h : TabB B w) (k : Below B w w2) : Tab w2 := (h.on k).here
theorem w64 (x : Int) (h : -1099511627776 ≤ x ∧ x ≤ 1099511627776) : wrap64 x = x := IntWalk.wrap64_in x (by omega)
theorem fmt_at (n : Int) (h0 : -9223372036854775808 ≤ n) (h1 : n ≤ 9223372036854775807) (w : World) (ht : Tab w) :
    Calls Tryd.prog 35 #[.int .i64 n, .int .i64 10] w fun e w' => e = .returned (.string ⟨(Lib.itoa n).toArray⟩) ∧ Below w.heap.size w w' := by
  refine (Tryd.strconv_FormatInt_10 n h0 h1 w ht).mono ?_
  rintro e w' ⟨rfl, k, os, rfl⟩
  exact ⟨rfl, Lib.below_grow w.heap.size w (Nat.le_refl _) k os⟩
theorem dec_digits : ∀ (u : Nat), ∀ c ∈ Lib.decDigits u, 48 ≤ c.toNat ∧ c.toNat ≤ 57 := by
  intro u
  induction u using Nat.strongRecOn with
  | _ u ih =>
    intro c hc
    rw [Lib.decDigits] at hc
    split at hc
    · rename_i h
      simp at hc
      subst hc
      simp
      omega
    · rename_i h
      rcases List.mem_append.1 hc with hc | hc
      · exact ih (u / 10) (by omega) c hc
      · simp at hc
        subst hc
        have : u % 10 < 10 := Nat.mod_lt _ (by decide)
        simp
        omega
end Go.Proofs.YtabaldpjahcilaaDoor.H
