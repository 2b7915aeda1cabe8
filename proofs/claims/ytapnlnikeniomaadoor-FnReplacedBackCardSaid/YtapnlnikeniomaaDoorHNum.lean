/-
  PLAIN: what squirrel's replacePositionalPlaceholders comes to: a sign and numbers for question marks; two side by side are one.
-/
import Derived.Test.YtapnlnikeniomaaDoorHRow
namespace Go.Proofs.YtapnlnikeniomaaDoor.H
open Go.RowKit
set_option linter.unusedVariables false
set_option linter.unusedSimpArgs false

def numL [Inhabited TabT] (p : List UInt8) : Nat → List UInt8 → List UInt8
  | _, [] => []
  | n, [c] => if c = 63 then p ++ numD (n + 1) else [c]
  | n, c :: d :: t => if c = 63 then (if d = 63 then 63 :: numL p n t else p ++ numD (n + 1) ++ numL p (n + 1) (d :: t)) else c :: numL p n (d :: t)
theorem numL_pre [Inhabited TabT] (p : List UInt8) (n : Nat) : ∀ (pre rest : List UInt8), (∀ c ∈ pre, c ≠ 63) → numL p n (pre ++ rest) = pre ++ numL p n rest
  | [], rest, h => rfl
  | [c], rest, h => by
    have h1 := h c (by simp)
    cases rest with
    | nil => simp [numL, h1]
    | cons d t =>
      show numL p n (c :: d :: t) = c :: numL p n (d :: t)
      rw [numL, if_neg h1]
  | c :: d :: t, rest, h => by
    have h1 := List.forall_mem_cons.1 h
    show numL p n (c :: d :: (t ++ rest)) = c :: ((d :: t) ++ numL p n rest)
    rw [numL, if_neg h1.1]
    exact congrArg _ (numL_pre p n (d :: t) rest h1.2)
theorem numL_self [Inhabited TabT] (p : List UInt8) (n : Nat) (l : List UInt8) (h : ∀ c ∈ l, c ≠ 63) : numL p n l = l := by
  have := numL_pre p n l [] h
  rw [List.append_nil] at this
  rw [this]
  simp [numL]
theorem numL_two [Inhabited TabT] (p : List UInt8) (n : Nat) (t : List UInt8) : numL p n (63 :: 63 :: t) = 63 :: numL p n t := by
  rw [numL, if_pos rfl, if_pos rfl]
theorem numL_one [Inhabited TabT] (p : List UInt8) (n : Nat) (t : List UInt8) (h : t.head? ≠ some 63) : numL p n (63 :: t) = p ++ numD (n + 1) ++ numL p (n + 1) t := by
  cases t with
  | nil => simp [numL]
  | cons d t =>
    rw [numL, if_pos rfl, if_neg (by simpa using h)]
theorem numL_app [Inhabited TabT] (p : List UInt8) (other : List UInt8) (h : ∀ c ∈ other, c ≠ 63) : ∀ (n : Nat) (l : List UInt8), numL p n (l ++ other) = numL p n l ++ other
  | n, [] => numL_self p n other h
  | n, [c] => by
    by_cases hc : c = 63
    · subst hc
      rw [List.singleton_append, numL_one p n other (by
        cases other with
        | nil => simp
        | cons o os => simpa using h o (by simp)), numL_self p _ other h]
      simp [numL]
    · cases other with
      | nil => simp
      | cons o os =>
        show numL p n (c :: o :: os) = _
        rw [show numL p n [c] = [c] by simp [numL, hc]]
        rw [numL, if_neg hc, numL_self p n _ h]
        rfl
  | n, c :: d :: t => by
    show numL p n (c :: d :: (t ++ other)) = _
    rw [numL, numL]
    split
    · split
      · rw [numL_app p other h n t]
        rfl
      · rw [show d :: (t ++ other) = (d :: t) ++ other from rfl, numL_app p other h (n + 1) (d :: t)]
        simp only [List.append_assoc]
    · rw [show d :: (t ++ other) = (d :: t) ++ other from rfl, numL_app p other h n (d :: t)]
      rfl
def mkL : List UInt8 → Nat
  | [] => 0
  | [c] => if c = 63 then 1 else 0
  | c :: d :: t => if c = 63 then (if d = 63 then mkL t else mkL (d :: t) + 1) else mkL (d :: t)
theorem mk_other {c : UInt8} (h : c ≠ 63) (t : List UInt8) : mkL (c :: t) = mkL t := by
  cases t <;> simp [mkL, h]
theorem mk_two (t : List UInt8) : mkL (63 :: 63 :: t) = mkL t := by simp [mkL]
theorem mk_one (t : List UInt8) (h : t.head? ≠ some 63) : mkL (63 :: t) = mkL t + 1 := by
  cases t with
  | nil => simp [mkL]
  | cons d u =>
    have hd : d ≠ 63 := by simpa using h
    simp [mkL, hd]
theorem mk_pre : ∀ (pre t : List UInt8), (∀ c ∈ pre, c ≠ 63) → mkL (pre ++ t) = mkL t
  | [], t, _ => rfl
  | c :: u, t, h => by
    have h1 := List.forall_mem_cons.1 h
    rw [List.cons_append, mk_other h1.1, mk_pre u t h1.2]
theorem mk_self {l : List UInt8} (h : ∀ c ∈ l, c ≠ 63) : mkL l = 0 := by
  have := mk_pre l [] h
  rw [List.append_nil] at this
  rw [this]
  rfl
theorem mk_app (other : List UInt8) (h : ∀ c ∈ other, c ≠ 63) : ∀ (n : Nat) (l : List UInt8), l.length ≤ n → mkL (l ++ other) = mkL l
  | _, [], _ => mk_self h
  | 0, c :: t, hn => by simp at hn
  | n + 1, c :: t, hn => by
    rw [List.length_cons] at hn
    have hh : (t ++ other).head? = some 63 → t.head? = some 63 := by
      intro hx
      cases t with
      | nil =>
        cases other with
        | nil => simp at hx
        | cons o os => exact absurd (by simpa using hx) (h o (by simp))
      | cons d u => simpa using hx
    rw [List.cons_append]
    by_cases hc : c = 63
    · subst hc
      by_cases hd : t.head? = some 63
      · cases t with
        | nil => simp at hd
        | cons d u =>
          have hd' : d = 63 := by simpa using hd
          subst hd'
          rw [List.length_cons] at hn
          rw [List.cons_append, mk_two, mk_two]
          exact mk_app other h n u (by omega)
      · rw [mk_one _ (fun hx => hd (hh hx)), mk_one _ hd, mk_app other h n t (by omega)]
    · rw [mk_other hc, mk_other hc]
      exact mk_app other h n t (by omega)
theorem mk_len : ∀ (n : Nat) (l : List UInt8), l.length ≤ n → 2 * mkL l ≤ l.length + 1 ∧ (l.head? ≠ some 63 → 2 * mkL l ≤ l.length)
  | _, [], _ => by simp [mkL]
  | 0, c :: t, hn => by simp at hn
  | n + 1, c :: t, hn => by
    rw [List.length_cons] at hn
    rw [List.length_cons]
    by_cases hc : c = 63
    · subst hc
      refine ⟨?_, fun h => absurd rfl h⟩
      by_cases hd : t.head? = some 63
      · cases t with
        | nil => simp at hd
        | cons d u =>
          have hd' : d = 63 := by simpa using hd
          subst hd'
          rw [List.length_cons] at hn ⊢
          rw [mk_two]
          have := (mk_len n u (by omega)).1
          omega
      · rw [mk_one _ hd]
        have := (mk_len n t (by omega)).2 hd
        omega
    · rw [mk_other hc]
      have := (mk_len n t (by omega)).1
      exact ⟨by omega, fun _ => by omega⟩
theorem mk_1000 (s : ByteArray) (h : s.size ≤ 1000) : mkL s.data.toList ≤ 511 := by
  have hl : s.data.toList.length = s.size := Array.length_toList
  have := (mk_len _ s.data.toList (Nat.le_refl _)).1
  omega
theorem dec_digits : ∀ (u : Nat), ∀ c ∈ Lib.decDigits u, 48 ≤ c.toNat ∧ c.toNat ≤ 57 := by
  intro u
  induction u using Nat.strongRecOn with
  | _ u ih =>
    intro c hc
    rw [Lib.decDigits] at hc
    split at hc
    · rename_i h
      simp at hc
      subst hc
      simp
      omega
    · rename_i h
      rcases List.mem_append.1 hc with hc | hc
      · exact ih (u / 10) (by omega) c hc
      · simp at hc
        subst hc
        have : u % 10 < 10 := Nat.mod_lt _ (by decide)
        simp
        omega
theorem dg_digit (u j : Nat) : 48 ≤ (Lib.dg u j).toNat ∧ (Lib.dg u j).toNat ≤ 57 := by
  have h : u / 10 ^ j % 10 < 10 := Nat.mod_lt _ (by decide)
  unfold Lib.dg
  generalize u / 10 ^ j % 10 = x at h ⊢
  simp
  omega
theorem numD_digits [Inhabited TabT] (u : Nat) : ∀ c ∈ numD u, 48 ≤ c.toNat ∧ c.toNat ≤ 57 := by
  unfold numD
  split
  · exact dec_digits u
  · split
    · exact dec_digits u
    · intro c hc
      rcases List.mem_cons.1 hc with rfl | hc
      · exact dg_digit _ _
      · rw [List.mem_singleton.1 hc]
        exact dg_digit _ _
theorem numD_short [Inhabited TabT] (u : Nat) (h : u ≤ 1000000) : (numD u).length ≤ 21 := by
  unfold numD
  have := Lib.itoa_length_le (u : Int) (by omega) (by omega)
  rw [Lib.itoa_nonneg] at this
  split
  · exact this
  · split
    · exact this
    · simp
end Go.Proofs.YtapnlnikeniomaaDoor.H
