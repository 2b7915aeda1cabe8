/-
  PLAIN: what squirrel's replacePositionalPlaceholders comes to: a sign and numbers for question marks; two side by side are one.
-/
import Derived.Test.YtapnlnikeniomaaDoorHRow
namespace Go.Proofs.YtapnlnikeniomaaDoor.H
open Go.RowKit
set_option linter.unusedVariables false
set_option linter.unusedSimpArgs false

def numL (p : List UInt8) : Nat → List UInt8 → List UInt8
  | _, [] => []
  | n, [c] => if c = 63 then p ++ Lib.itoa ((n + 1 : Nat) : Int) else [c]
  | n, c :: d :: t => if c = 63 then (if d = 63 then 63 :: numL p n t else p ++ Lib.itoa ((n + 1 : Nat) : Int) ++ numL p (n + 1) (d :: t)) else c :: numL p n (d :: t)
theorem numL_pre (p : List UInt8) (n : Nat) : ∀ (pre rest : List UInt8), (∀ c ∈ pre, c ≠ 63) → numL p n (pre ++ rest) = pre ++ numL p n rest
  | [], rest, h => rfl
  | [c], rest, h => by
    have h1 := h c (by simp)
    cases rest with
    | nil => simp [numL, h1]
    | cons d t =>
      show numL p n (c :: d :: t) = c :: numL p n (d :: t)
      rw [numL, if_neg h1]
  | c :: d :: t, rest, h => by
    have h1 := List.forall_mem_cons.1 h
    show numL p n (c :: d :: (t ++ rest)) = c :: ((d :: t) ++ numL p n rest)
    rw [numL, if_neg h1.1]
    exact congrArg _ (numL_pre p n (d :: t) rest h1.2)
theorem numL_self (p : List UInt8) (n : Nat) (l : List UInt8) (h : ∀ c ∈ l, c ≠ 63) : numL p n l = l := by
  have := numL_pre p n l [] h
  rw [List.append_nil] at this
  rw [this]
  simp [numL]
theorem numL_two (p : List UInt8) (n : Nat) (t : List UInt8) : numL p n (63 :: 63 :: t) = 63 :: numL p n t := by
  rw [numL, if_pos rfl, if_pos rfl]
theorem numL_one (p : List UInt8) (n : Nat) (t : List UInt8) (h : t.head? ≠ some 63) : numL p n (63 :: t) = p ++ Lib.itoa ((n + 1 : Nat) : Int) ++ numL p (n + 1) t := by
  cases t with
  | nil => simp [numL]
  | cons d t =>
    rw [numL, if_pos rfl, if_neg (by simpa using h)]
theorem numL_app (p : List UInt8) (other : List UInt8) (h : ∀ c ∈ other, c ≠ 63) : ∀ (n : Nat) (l : List UInt8), numL p n (l ++ other) = numL p n l ++ other
  | n, [] => numL_self p n other h
  | n, [c] => by
    by_cases hc : c = 63
    · subst hc
      rw [List.singleton_append, numL_one p n other (by
        cases other with
        | nil => simp
        | cons o os => simpa using h o (by simp)), numL_self p _ other h]
      simp [numL]
    · cases other with
      | nil => simp
      | cons o os =>
        show numL p n (c :: o :: os) = _
        rw [show numL p n [c] = [c] by simp [numL, hc]]
        rw [numL, if_neg hc, numL_self p n _ h]
        rfl
  | n, c :: d :: t => by
    show numL p n (c :: d :: (t ++ other)) = _
    rw [numL, numL]
    split
    · split
      · rw [numL_app p other h n t]
        rfl
      · rw [show d :: (t ++ other) = (d :: t) ++ other from rfl, numL_app p other h (n + 1) (d :: t)]
        simp only [List.append_assoc]
    · rw [show d :: (t ++ other) = (d :: t) ++ other from rfl, numL_app p other h n (d :: t)]
      rfl
end Go.Proofs.YtapnlnikeniomaaDoor.H
