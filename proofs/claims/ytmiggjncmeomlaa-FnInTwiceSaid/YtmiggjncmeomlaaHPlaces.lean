/-
  A CONTRACT: squirrel's Placeholders writes so many question marks with commas between (for numbers up to 2^20; nothing below 1), by the shelf's contract of strings.Repeat.
-/
import Derived.Test.YtmiggjncmeomlaaShelf
import Derived.Test.YtmiggjncmeomlaaWWords
import Derived.WalkKit
import Derived.Handy
import Derived.Lib.Hide
import Derived.Outline
namespace Go.Proofs.Ytmiggjncmeomlaa.H
open Go.RowKit Go.Proofs.YtmiggjncmeomlaaW.PrintWords
set_option linter.unusedVariables false
set_option linter.unusedSimpArgs false

/-- n question marks with commas between. -/
def qm : Nat → List UInt8
  | 0 => []
  | n + 1 => qm n ++ ((if n = 0 then [] else [44]) ++ [63])
theorem qm_repeat : ∀ n, 1 ≤ n → Lib.repeatL [44, 63] n = 44 :: qm n := by
  have key : ∀ n, Lib.repeatL [44, 63] (n + 1) = 44 :: qm (n + 1) := by
    intro n
    induction n with
    | zero => rfl
    | succ n ih =>
      have h1 : Lib.repeatL [44, 63] (n + 1 + 1) = Lib.repeatL [44, 63] (n + 1) ++ Lib.repeatL [44, 63] 1 := Lib.repeatL_add _ (n + 1) 1
      rw [h1, ih, Lib.repeatL_one]
      show 44 :: (qm (n + 1) ++ [44, 63]) = 44 :: (qm (n + 1) ++ ((if n + 1 = 0 then [] else [44]) ++ [63]))
      rw [if_neg (by omega)]
      rfl
  intro n h
  obtain ⟨m, rfl⟩ : ∃ m, n = m + 1 := ⟨n - 1, by omega⟩
  exact key m
def squirrel_Placeholders.f (a0 : Int) : Option ByteArray := if a0 < 1 then some ⟨#[]⟩ else if a0 ≤ 1048576 then some ⟨(qm a0.toNat).toArray⟩ else none
theorem ret_str {a b : ByteArray} (h : a = b) : Ending.returned (.string a) = .returned (.string b) := by rw [h]

set_option maxHeartbeats 1600000 in
set_option maxRecDepth 100000 in
theorem squirrel_Placeholders.calls (a0 : Int) (r : ByteArray) (w : World) (h : squirrel_Placeholders.f a0 = some r) :
    Calls Try.prog 33 #[.int .i64 a0] w fun e w' => e = .returned (.string r) ∧ Below w.heap.size w w' := by
  unfold squirrel_Placeholders.f at h
  by_cases h1 : a0 < 1
  · rw [if_pos h1] at h
    injection h with h
    subst h
    go_enter Try.func33, Try.ntmps33
    go_wp2_with fail
    go_ret
    exact ⟨rfl, Below.refl _ _⟩
  · rw [if_neg h1] at h
    by_cases h2 : a0 ≤ 1048576
    · rw [if_pos h2] at h
      have HR := Lib.hid (Option.some.inj h)
      clear h
      obtain ⟨n, rfl⟩ := Int.eq_ofNat_of_zero_le (show 0 ≤ a0 by omega)
      have d1 : decide ((n : Int) < 1) = false := decide_eq_false h1
      go_enter Try.func33, Try.ntmps33
      go_wp2_with fail
      refine (Try.strings_Repeat ⟨#[44, 63]⟩ n _ (by omega) (by show 2 * n ≤ _; omega)).mono ?_
      rintro e w1 ⟨rfl, hb⟩
      have hq := qm_repeat n (by omega)
      have hl : (⟨#[44, 63]⟩ : ByteArray).data.toList = [44, 63] := rfl
      rw [hl, hq]
      clear hq hl
      go_wp2_with fail
      go_ret
      refine ⟨ret_str ?_, hb⟩
      have hx : (⟨(44 :: qm n).toArray⟩ : ByteArray).extract 1 (44 :: qm n).length = ⟨(qm n).toArray⟩ := by
        apply ByteArray.ext
        simp
      rw [← HR.out, Int.toNat_natCast]
      exact hx
    · rw [if_neg h2] at h
      cases h
end Go.Proofs.Ytmiggjncmeomlaa.H
