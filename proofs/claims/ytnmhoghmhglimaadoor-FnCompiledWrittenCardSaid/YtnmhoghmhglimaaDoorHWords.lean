/-
  PLAIN WORDS over a text's bytes: white space, a letter in any case, a word; what sqlx's zzSpace and zzFold come to (texts of at most 2^20 bytes).
-/
import Derived.Test.YtnmhoghmhglimaaDoorQL1
import Derived.Test.YtnmhoghmhglimaaDoorQL2
namespace Go.Proofs.YtnmhoghmhglimaaDoor.H
open Go.RowKit Go.Proofs.YtnmhoghmhglimaaDoorW.PrintWords Go.Proofs.YtnmhoghmhglimaaDoorW.PrintLast Go.Proofs.YtnmhoghmhglimaaDoorW.PrintMore Go.Proofs.YtnmhoghmhglimaaDoor.QL
set_option linter.unusedVariables false
set_option linter.unusedSimpArgs false

theorem w64 (x : Int) (h : -1099511627776 ≤ x ∧ x ≤ 1099511627776) : wrap64 x = x := IntWalk.wrap64_in x (by omega)
def isSp (b : Int) : Bool := decide (b = 32 ∨ b = 9 ∨ b = 10 ∨ b = 12 ∨ b = 13)
/-- The place behind white space, f rounds at most. -/
def spN (s : ByteArray) : Nat → Nat → Nat
  | 0, i => i
  | f + 1, i => if i < s.size then (if isSp (bt s i) = true then spN s f (i + 1) else i) else i
def spc (s : ByteArray) (i : Nat) : Nat := spN s (s.size - i) i
theorem spN_le (s : ByteArray) : ∀ f i, i ≤ spN s f i ∧ spN s f i ≤ i + f
  | 0, i => by simp [spN]
  | f + 1, i => by
    have h := spN_le s f (i + 1)
    rw [spN]
    split
    · split
      · omega
      · omega
    · omega
theorem spc_le (s : ByteArray) (i : Nat) : i ≤ spc s i ∧ (i ≤ s.size → spc s i ≤ s.size) := by
  have h := spN_le s (s.size - i) i
  exact ⟨h.1, fun hi => by have := h.2; unfold spc; omega⟩
/-- How many bytes at place i are the letter c in any case (s: the long one, too). -/
def foldN (s : ByteArray) (i : Nat) (c : Int) : Nat :=
  if i < s.size ∧ (bt s i = c ∨ bt s i = c - 32) then 1 else if c = 115 ∧ i + 1 < s.size ∧ bt s i = 197 ∧ bt s ((i + 1 : Nat) : Int) = 191 then 2 else 0
/-- The place behind a word; none where it does not stand there. -/
def wordN (s : ByteArray) : List Int → Nat → Option Nat
  | [], p => some p
  | c :: cs, p => if foldN s p c = 0 then none else wordN s cs (p + foldN s p c)

theorem space_ev (s : ByteArray) (hs : s.size ≤ 1048576) : ∀ (d i : Nat), s.size - i = d → i ≤ 2 * 1048576 → Ev (fun k => sqlx_zzSpace.f k s i) ((spN s d i : Nat) : Int) := by
  have key : ∀ (d i : Nat), s.size - i = d → i ≤ 2 * 1048576 → Ev (fun k => sqlx_zzSpace.l0 k s i) ((spN s d i : Nat) : Int) := by
    intro d
    induction d with
    | zero =>
      intro i hd hi
      exact Ev.step (f := fun _ => some (i : Int)) (fun k => by simp only [sqlx_zzSpace.l0]; rw [if_neg (by omega)]) (Ev.now _)
    | succ d ih =>
      intro i hd hi
      have h1 : (i : Int) < (s.size : Int) := by omega
      have e1 : wrap64 ((i : Int) + 1) = ((i + 1 : Nat) : Int) := by rw [w64 _ (by omega)]; omega
      have hstep : ∀ k, sqlx_zzSpace.l0 (k + 1) s i = if isSp (bt s i) = true then sqlx_zzSpace.l0 k s ((i + 1 : Nat) : Int) else some (i : Int) := by
        intro k
        simp only [sqlx_zzSpace.l0]
        rw [if_pos h1, if_pos (by omega), e1]
        unfold isSp
        by_cases a1 : bt s i = 32
        · rw [if_pos a1, if_pos (by simp [a1])]
        by_cases a2 : bt s i = 9
        · rw [if_neg a1, if_pos a2, if_pos (by simp [a2])]
        by_cases a3 : bt s i = 10
        · rw [if_neg a1, if_neg a2, if_pos a3, if_pos (by simp [a3])]
        by_cases a4 : bt s i = 12
        · rw [if_neg a1, if_neg a2, if_neg a3, if_pos a4, if_pos (by simp [a4])]
        by_cases a5 : bt s i = 13
        · rw [if_neg a1, if_neg a2, if_neg a3, if_neg a4, if_pos a5, if_pos (by simp [a5])]
        · rw [if_neg a1, if_neg a2, if_neg a3, if_neg a4, if_neg a5, if_neg (by simp [a1, a2, a3, a4, a5])]
      rw [spN, if_pos (by omega)]
      by_cases hb : isSp (bt s i) = true
      · rw [if_pos hb]
        exact Ev.step (fun k => by rw [hstep, if_pos hb]) (ih (i + 1) (by omega) (by omega))
      · rw [if_neg hb]
        exact Ev.step (f := fun _ => some (i : Int)) (fun k => by rw [hstep, if_neg hb]) (Ev.now _)
  exact key
theorem space_is (s : ByteArray) (hs : s.size ≤ 1048576) (i : Nat) (hi : i ≤ 2 * 1048576) : ∃ k, sqlx_zzSpace.f k s i = some ((spc s i : Nat) : Int) := (space_ev s hs _ i rfl hi).rounds

theorem toList_two (s : ByteArray) (i : Nat) (h : i + 1 < s.size) : (s.extract i (i + 2)).toList = [s[i]'(by omega), s[i + 1]'h] := by
  rw [ByteArray.toList_eq]
  apply List.ext_getElem
  · simp
    omega
  · intro j h1 h2
    simp at h2
    have : j = 0 ∨ j = 1 := by omega
    rcases this with rfl | rfl
    · simp
      rfl
    · simp
      rfl
theorem fold_is (s : ByteArray) (hs : s.size ≤ 1048576) (i : Nat) (hi : i ≤ 2 * 1048576) (c : Int) (hc : 97 ≤ c ∧ c ≤ 122) : ∃ k, sqlx_zzFold.f k s i c = some ((foldN s i c : Nat) : Int) := by
  refine ⟨2, ?_⟩
  have e1 : wrap64 ((i : Int) + 1) = ((i + 1 : Nat) : Int) := by rw [w64 _ (by omega)]; omega
  have e2 : wrap64 ((i : Int) + 2) = ((i + 2 : Nat) : Int) := by rw [w64 _ (by omega)]; omega
  have em : (((c - 97) % 256) + 65) % 256 = c - 32 := by omega
  have tail : ∀ b : Bool, b = false → sqlx_zzFold.j0 2 s i c b = some ((if c = 115 ∧ i + 1 < s.size ∧ bt s i = 197 ∧ bt s ((i + 1 : Nat) : Int) = 191 then 2 else 0 : Nat) : Int) := by
    intro b hb
    subst hb
    simp only [sqlx_zzFold.j0, Bool.false_eq_true, if_false, e1, e2]
    by_cases h1 : c = 115
    · rw [if_pos h1]
      by_cases h2 : i + 1 < s.size
      · rw [if_pos (by omega), if_pos (by omega), if_pos (by omega), if_pos (by omega)]
        simp only [Int.toNat_natCast]
        have hL := toList_two s i h2
        have b0 : bt s i = ((s[i]'(by omega)).toNat : Int) := by simp [bt, show i < s.size by omega]
        have b1 : bt s ((i + 1 : Nat) : Int) = ((s[i + 1]'h2).toNat : Int) := by simp only [bt, Int.toNat_natCast, h2, dif_pos]
        by_cases h3 : s[i]'(by omega) = 197
        · by_cases h4 : s[i + 1]'h2 = 191
          · rw [if_pos (by rw [hL, h3, h4]), if_pos ⟨h1, h2, by rw [b0, h3]; rfl, by rw [b1, h4]; rfl⟩]
            rfl
          · rw [if_neg (by rw [hL]; simp [h4]), if_neg]
            · rfl
            · rintro ⟨_, _, _, h⟩
              rw [b1] at h
              exact h4 (UInt8.toNat_inj.1 (by show (s[i + 1]'h2).toNat = 191; omega))
        · rw [if_neg (by rw [hL]; simp [h3]), if_neg]
          · rfl
          · rintro ⟨_, _, h, _⟩
            rw [b0] at h
            exact h3 (UInt8.toNat_inj.1 (by show (s[i]'(by omega)).toNat = 197; omega))
      · rw [if_neg (by omega), if_neg (by omega)]
        rfl
    · rw [if_neg h1, if_neg (by omega)]
      rfl
  unfold sqlx_zzFold.f foldN
  by_cases hlt : i < s.size
  · rw [if_pos (by omega), if_pos (by omega)]
    by_cases hc1 : bt s i = c
    · rw [if_pos hc1, if_pos ⟨hlt, .inl hc1⟩]
      simp [sqlx_zzFold.j0]
    · rw [if_neg hc1, em]
      by_cases hc2 : bt s i = c - 32
      · rw [if_pos ⟨hlt, .inr hc2⟩]
        simp [sqlx_zzFold.j0, hc2]
      · rw [if_neg (by rintro ⟨_, h | h⟩ <;> contradiction)]
        exact tail _ (by rw [beq_eq_false_iff_ne]; exact hc2)
  · rw [if_neg (by omega), if_neg (by omega)]
    exact tail false rfl
end Go.Proofs.YtnmhoghmhglimaaDoor.H
