/-
  PLAIN: what squirrel's DebugSqlizer comes to: values in apostrophes for question marks; two side by side are one; with too few, or too many values it says so.
-/
import Derived.Test.YtabaldpjahcilaaDoorHKinds
import Derived.Lib.ItoaLen
namespace Go.Proofs.YtabaldpjahcilaaDoor.H
open Go.RowKit Go.Proofs.YtabaldpjahcilaaDoorW.PrintWords Go.Proofs.YtabaldpjahcilaaDoorW.PrintLast Go.Proofs.YtabaldpjahcilaaDoorW.PrintMore Go.Proofs.YtabaldpjahcilaaDoor.QD
set_option linter.unusedVariables false
set_option linter.unusedSimpArgs false

/-- A value as people read it. -/
def shw (x : S27) : List UInt8 := if x.f0 = 1 then Lib.itoa x.f1 else if x.f0 = 2 then x.f2.data.toList else if x.f0 = 3 then [116, 114, 117, 101] else if x.f0 = 4 then [102, 97, 108, 115, 101] else [60, 110, 105, 108, 62]
def quoL (x : S27) : List UInt8 := 39 :: shw x ++ [39]
def tooM : List UInt8 := [91, 68, 101, 98, 117, 103, 83, 113, 108, 105, 122, 101, 114, 32, 101, 114, 114, 111, 114, 58, 32, 116, 111, 111, 32, 109, 97, 110, 121, 32, 112, 108, 97, 99, 101, 104, 111, 108, 100, 101, 114, 115, 93]
def notE : List UInt8 := [91, 68, 101, 98, 117, 103, 83, 113, 108, 105, 122, 101, 114, 32, 101, 114, 114, 111, 114, 58, 32, 110, 111, 116, 32, 101, 110, 111, 117, 103, 104, 32, 112, 108, 97, 99, 101, 104, 111, 108, 100, 101, 114, 115, 93]
def dbgL : List UInt8 → List S27 → List UInt8 → List UInt8
  | [], l, acc => if l = [] then acc else notE
  | [c], l, acc => if c = 63 then (match l with
      | [] => tooM
      | x :: xs => if xs = [] then acc ++ quoL x else notE) else (if l = [] then acc ++ [c] else notE)
  | c :: d :: t, l, acc => if c = 63 then (if d = 63 then dbgL t l (acc ++ [63]) else (match l with
      | [] => tooM
      | x :: xs => dbgL (d :: t) xs (acc ++ quoL x))) else dbgL (d :: t) l (acc ++ [c])
theorem dbg_other {c : UInt8} (h : c ≠ 63) (t : List UInt8) (l : List S27) (acc : List UInt8) : dbgL (c :: t) l acc = dbgL t l (acc ++ [c]) := by
  cases t <;> simp [dbgL, h]
theorem dbg_two (t : List UInt8) (l : List S27) (acc : List UInt8) : dbgL (63 :: 63 :: t) l acc = dbgL t l (acc ++ [63]) := by
  simp [dbgL]
theorem dbg_one (t : List UInt8) (h : t.head? ≠ some 63) (x : S27) (xs : List S27) (acc : List UInt8) : dbgL (63 :: t) (x :: xs) acc = dbgL t xs (acc ++ quoL x) := by
  cases t with
  | nil => simp [dbgL]
  | cons d u =>
    have hd : d ≠ 63 := by simpa using h
    simp [dbgL, hd]
theorem dbg_none (t : List UInt8) (h : t.head? ≠ some 63) (acc : List UInt8) : dbgL (63 :: t) [] acc = tooM := by
  cases t with
  | nil => simp [dbgL]
  | cons d u =>
    have hd : d ≠ 63 := by simpa using h
    simp [dbgL, hd]
theorem dbg_pre (l : List S27) : ∀ (pre rest acc : List UInt8), (∀ c ∈ pre, c ≠ 63) → dbgL (pre ++ rest) l acc = dbgL rest l (acc ++ pre)
  | [], rest, acc, h => by rw [List.append_nil]; rfl
  | c :: t, rest, acc, h => by
    have h1 := List.forall_mem_cons.1 h
    rw [List.cons_append, dbg_other h1.1, dbg_pre l t rest _ h1.2, List.append_assoc]
    rfl
theorem dbg_end (l : List S27) (rest acc : List UInt8) (h : ∀ c ∈ rest, c ≠ 63) : dbgL rest l acc = if l = [] then acc ++ rest else notE := by
  have := dbg_pre l rest [] acc h
  rw [List.append_nil] at this
  rw [this]
  simp [dbgL]
theorem shw_len (x : S27) (hf : -9223372036854775808 ≤ x.f1) (hf2 : x.f1 ≤ 9223372036854775807) : (shw x).length ≤ 21 + x.f2.size := by
  unfold shw
  have hi := Lib.itoa_length_le x.f1 hf hf2
  have hl : x.f2.data.toList.length = x.f2.size := Array.length_toList
  split
  · omega
  · split
    · omega
    · split
      · show 4 ≤ _
        omega
      · split
        · show 5 ≤ _
          omega
        · show 5 ≤ _
          omega
end Go.Proofs.YtabaldpjahcilaaDoor.H
