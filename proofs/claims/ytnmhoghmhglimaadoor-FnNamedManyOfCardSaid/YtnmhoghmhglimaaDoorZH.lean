/-
  MERGED BY A PROGRAM OF THIS SESSION (wip/pack.py): SClosing, SValues, SMany.
-/
import Derived.Test.YtnmhoghmhglimaaDoorZB
import Derived.Test.YtnmhoghmhglimaaDoorZQ
import Derived.Test.YtnmhoghmhglimaaDoorZF
import Derived.Test.YtnmhoghmhglimaaDoorZG
import Derived.Test.YtnmhoghmhglimaaDoorZD
import Derived.Test.YtnmhoghmhglimaaDoorZE
/-
  PLAIN: the reference's Closing, against the search of HFind, also in the text's tail.
-/
namespace Go.Proofs.YtnmhoghmhglimaaDoor.S
open Go.RowKit Go.Proofs.YtnmhoghmhglimaaDoor.QB Go.Proofs.YtnmhoghmhglimaaDoor.H Go.Proofs.YtnmhoghmhglimaaDoorW.PrintWords Go.Proofs.YtnmhoghmhglimaaDoorW.PrintLast Go.Proofs.YtnmhoghmhglimaaDoorW.PrintMore
set_option linter.unusedVariables false
set_option linter.unusedSimpArgs false

theorem cl_w64 (x : Int) (h : -1099511627776 ≤ x ∧ x ≤ 1099511627776) : wrap64 x = x := IntWalk.wrap64_in x (by omega)

/-- The reference's loop from place i on, c brackets open, against the search. -/
theorem closing_ev (s : ByteArray) (hs : s.size ≤ 1048576) : ∀ (d i : Nat) (c : Int), s.size - i = d → i ≤ s.size → -(i : Int) ≤ c → c ≤ i →
    ∃ r, Ev (fun k => QB.spec_Closing.l0 k s c i) r ∧ (r = -1 ∧ findC s d i c = 0 ∨ (i : Int) ≤ r ∧ r < s.size ∧ findC s d i c = r) := by
  intro d
  induction d with
  | zero =>
    intro i c hd hi h1 h2
    refine ⟨-1, Ev.step (f := fun _ => some (-1)) (fun k => ?_) (Ev.now _), ?_⟩
    · simp only [QB.spec_Closing.l0]
      rw [if_neg (by omega)]
    · simp [findC]
  | succ d ih =>
    intro i c hd hi h1 h2
    have hlt : i < s.size := by omega
    have hlt' : (i : Int) < (s.size : Int) := by omega
    have e1 : wrap64 ((i : Int) + 1) = ((i + 1 : Nat) : Int) := by rw [cl_w64 _ (by omega)]; omega
    have ep : wrap64 (c + 1) = c + 1 := cl_w64 _ (by omega)
    have em : wrap64 (c - 1) = c - 1 := cl_w64 _ (by omega)
    have hstep : ∀ k, QB.spec_Closing.l0 (k + 1) s c i = if (bt s i) = 40 then (QB.spec_Closing.l0 k s (c + 1) ((i + 1 : Nat) : Int)) else (if (bt s i) = 41 then (if (c - 1) = 0 then (some (i : Int)) else (QB.spec_Closing.l0 k s (c - 1) ((i + 1 : Nat) : Int))) else (QB.spec_Closing.l0 k s c ((i + 1 : Nat) : Int))) := by
      intro k
      simp only [QB.spec_Closing.l0]
      rw [if_pos hlt', if_pos (by omega), e1, ep, em]
    rw [findC, if_pos hlt]
    by_cases h40 : bt s i = 40
    · obtain ⟨r, hr, he⟩ := ih (i + 1) (c + 1) (by omega) (by omega) (by omega) (by omega)
      exact ⟨r, Ev.step (fun k => by rw [hstep, if_pos h40]) hr, by rw [if_pos h40]; omega⟩
    · by_cases h41 : bt s i = 41
      · by_cases hz : c - 1 = 0
        · exact ⟨i, Ev.step (f := fun _ => some (i : Int)) (fun k => by rw [hstep, if_neg h40, if_pos h41, if_pos hz]) (Ev.now _), by rw [if_neg h40, if_pos h41, if_pos hz]; omega⟩
        · obtain ⟨r, hr, he⟩ := ih (i + 1) (c - 1) (by omega) (by omega) (by omega) (by omega)
          exact ⟨r, Ev.step (fun k => by rw [hstep, if_neg h40, if_pos h41, if_neg hz]) hr, by rw [if_neg h40, if_pos h41, if_neg hz]; omega⟩
      · obtain ⟨r, hr, he⟩ := ih (i + 1) c (by omega) (by omega) (by omega) (by omega)
        exact ⟨r, Ev.step (fun k => by rw [hstep, if_neg h40, if_neg h41]) hr, by rw [if_neg h40, if_neg h41]; omega⟩


theorem bt_tail (s : ByteArray) (y j : Nat) (h : y + j < s.size) : bt (tailOf s y) (j : Int) = bt s ((y + j : Nat) : Int) := by
  have hj : j < (tailOf s y).size := by rw [tail_size s y (by omega)]; omega
  rw [bt_nat (tailOf s y) j hj, bt_nat s (y + j) h]
  congr 2
  simp [tailOf, ByteArray.getElem_extract]
/-- The search in the tail: from place j on (behind its first sign). -/
theorem findC_tail (s : ByteArray) (y : Nat) (hy : y ≤ s.size) : ∀ (d j : Nat) (c : Int), 1 ≤ j → j + d = s.size - y → findC s d (y + j) c = (if findC (tailOf s y) d j c = 0 then 0 else y + findC (tailOf s y) d j c) ∧ (findC (tailOf s y) d j c = 0 ∨ 1 ≤ findC (tailOf s y) d j c)
  | 0, j, c, hj, hd => by simp [findC]
  | d + 1, j, c, hj, hd => by
    have hts := tail_size s y hy
    have h1 : y + j < s.size := by omega
    have h2 : j < (tailOf s y).size := by omega
    have hb := bt_tail s y j h1
    have ih := fun c => findC_tail s y hy d (j + 1) c (by omega) (by omega)
    have e : y + j + 1 = y + (j + 1) := by omega
    rw [findC, findC, if_pos h1, if_pos h2, hb, e]
    by_cases h40 : bt s ((y + j : Nat) : Int) = 40
    · rw [if_pos h40, if_pos h40]; exact ih (c + 1)
    · rw [if_neg h40, if_neg h40]
      by_cases h41 : bt s ((y + j : Nat) : Int) = 41
      · rw [if_pos h41, if_pos h41]
        by_cases hz : c - 1 = 0
        · rw [if_pos hz, if_pos hz, if_neg (by omega)]; omega
        · rw [if_neg hz, if_neg hz]; exact ih (c - 1)
      · rw [if_neg h41, if_neg h41]; exact ih c
/-- Where the bracket at y closes: nowhere, for both; or behind y, at the same place. -/
theorem closing_is (s : ByteArray) (hs : s.size ≤ 1048576) (y : Nat) (hy1 : 1 ≤ y) (hy : y < s.size) (h40 : bt s (y : Int) = 40) :
    Ev (fun k => QB.spec_Closing.f k s (y : Int)) (-1) ∧ idxOf s y = 0 ∨ (1 ≤ idxOf s y ∧ y + idxOf s y < s.size ∧ Ev (fun k => QB.spec_Closing.f k s (y : Int)) (y + idxOf s y)) := by
  obtain ⟨r, hr, he⟩ := closing_ev s hs (s.size - y) y 0 rfl (by omega) (by omega) (by omega)
  have hts := tail_size s y (by omega)
  obtain ⟨d, hd⟩ : ∃ d, s.size - y = d + 1 := ⟨s.size - y - 1, by omega⟩
  have hb := bt_tail s y 0 (by omega)
  rw [Nat.add_zero] at hb
  have hi : idxOf s y = findC (tailOf s y) d 1 1 := by
    unfold idxOf
    rw [hts, hd, findC, if_pos (by omega), hb, if_pos h40]
    rfl
  have hf : findC s (s.size - y) y 0 = findC s d (y + 1) 1 := by
    rw [hd, findC, if_pos hy, if_pos h40]
    rfl
  obtain ⟨t1, t2⟩ := findC_tail s y (by omega) d 1 1 (by omega) (by omega)
  rw [hf, t1, ← hi] at he
  rw [← hi] at t2
  rcases t2 with h0 | h1
  · rw [if_pos h0] at he
    have : r = -1 := by omega
    subst this
    exact .inl ⟨hr, h0⟩
  · rw [if_neg (by omega)] at he
    have : r = y + idxOf s y := by omega
    subst this
    exact .inr ⟨h1, by omega, hr⟩
end Go.Proofs.YtnmhoghmhglimaaDoor.S
/-
  PLAIN: the reference's spaces, isWord, LongS, ValuesAt and Ahead, against the words of HWords and HValues (texts of at most 1000 bytes).
-/
namespace Go.Proofs.YtnmhoghmhglimaaDoor.S
open Go.RowKit Go.Proofs.YtnmhoghmhglimaaDoorW.PrintWords Go.Proofs.YtnmhoghmhglimaaDoorW.PrintLast Go.Proofs.YtnmhoghmhglimaaDoorW.PrintMore Go.Proofs.YtnmhoghmhglimaaDoor.QB Go.Proofs.YtnmhoghmhglimaaDoor.H
set_option linter.unusedVariables false
set_option linter.unusedSimpArgs false

theorem isSpace_is (b : Int) : spec_isSpace.f b = some (isSp b) := by
  unfold spec_isSpace.f isSp
  by_cases a1 : b = 32
  · rw [if_pos a1]; simp [a1]
  by_cases a2 : b = 9
  · rw [if_neg a1, if_pos a2]; simp [a2]
  by_cases a3 : b = 10
  · rw [if_neg a1, if_neg a2, if_pos a3]; simp [a3]
  by_cases a4 : b = 13
  · rw [if_neg a1, if_neg a2, if_neg a3, if_pos a4]; simp [a4]
  · rw [if_neg a1, if_neg a2, if_neg a3, if_neg a4]
    by_cases a5 : b = 12 <;> simp [a1, a2, a3, a4, a5]
theorem spaces_ev (s : ByteArray) (hs : s.size ≤ 1048576) : ∀ (d i : Nat), s.size - i = d → i ≤ 2 * 1048576 → Ev (fun k => spec_spaces.l0 k s i) ((spN s d i : Nat) : Int) := by
  intro d
  induction d with
  | zero =>
    intro i hd hi
    exact Ev.step (f := fun _ => some (i : Int)) (fun k => by simp only [spec_spaces.l0]; rw [if_neg (by omega)]) (Ev.now _)
  | succ d ih =>
    intro i hd hi
    have h1 : (i : Int) < (s.size : Int) := by omega
    have e1 : wrap64 ((i : Int) + 1) = ((i + 1 : Nat) : Int) := by rw [w64 _ (by omega)]; omega
    have hstep : ∀ k, spec_spaces.l0 (k + 1) s i = if isSp (bt s i) = true then spec_spaces.l0 k s ((i + 1 : Nat) : Int) else some (i : Int) := by
      intro k
      simp only [spec_spaces.l0]
      rw [if_pos h1, if_pos (by omega), e1, isSpace_is]
      rfl
    rw [spN, if_pos (by omega)]
    by_cases hb : isSp (bt s i) = true
    · rw [if_pos hb]
      exact Ev.step (fun k => by rw [hstep, if_pos hb]) (ih (i + 1) (by omega) (by omega))
    · rw [if_neg hb]
      exact Ev.step (f := fun _ => some (i : Int)) (fun k => by rw [hstep, if_neg hb]) (Ev.now _)
theorem spaces_is (s : ByteArray) (hs : s.size ≤ 1048576) (i : Nat) (hi : i ≤ 2 * 1048576) : Ev (fun k => spec_spaces.f k s i) ((spc s i : Nat) : Int) := spaces_ev s hs _ i rfl hi

/-- No long s. -/
def NoLong (s : ByteArray) : Prop := ∀ i : Nat, i + 1 < s.size → bt s i = 197 → bt s ((i + 1 : Nat) : Int) ≠ 191
theorem long_ev (s : ByteArray) (hs : s.size ≤ 1048576) : ∀ (d i : Nat), s.size - i = d → i ≤ 2 * 1048576 → ∃ b, Ev (fun k => QB.spec_LongS.l0 k s i) b ∧ (b = false → ∀ j : Nat, i ≤ j → j + 1 < s.size → bt s j = 197 → bt s ((j + 1 : Nat) : Int) ≠ 191) ∧
    (b = true → ∃ j : Nat, i ≤ j ∧ j + 1 < s.size ∧ bt s j = 197 ∧ bt s ((j + 1 : Nat) : Int) = 191) := by
  intro d
  induction d with
  | zero =>
    intro i hd hi
    have e1 : wrap64 ((i : Int) + 1) = ((i + 1 : Nat) : Int) := by rw [w64 _ (by omega)]; omega
    exact ⟨false, Ev.step (f := fun _ => some false) (fun k => by simp only [QB.spec_LongS.l0]; rw [e1, if_neg (by omega)]) (Ev.now _), fun _ j h1 h2 => by omega, fun h => by cases h⟩
  | succ d ih =>
    intro i hd hi
    have e1 : wrap64 ((i : Int) + 1) = ((i + 1 : Nat) : Int) := by rw [w64 _ (by omega)]; omega
    by_cases hl : i + 1 < s.size
    · have hstep : ∀ k, QB.spec_LongS.l0 (k + 1) s i = if bt s i = 197 then (if bt s ((i + 1 : Nat) : Int) = 191 then some true else QB.spec_LongS.l0 k s ((i + 1 : Nat) : Int)) else QB.spec_LongS.l0 k s ((i + 1 : Nat) : Int) := by
        intro k
        simp only [QB.spec_LongS.l0]
        rw [e1, if_pos (by omega), if_pos (by omega), if_pos (by omega), if_pos (show (0 : Int) ≤ ((i + 1 : Nat) : Int) by omega)]
      obtain ⟨b, hb, hf, ht⟩ := ih (i + 1) (by omega) (by omega)
      by_cases h1 : bt s i = 197
      · by_cases h2 : bt s ((i + 1 : Nat) : Int) = 191
        · exact ⟨true, Ev.step (f := fun _ => some true) (fun k => by rw [hstep, if_pos h1, if_pos h2]) (Ev.now _), (fun h => by cases h), fun _ => ⟨i, Nat.le_refl _, hl, h1, h2⟩⟩
        · refine ⟨b, Ev.step (fun k => by rw [hstep, if_pos h1, if_neg h2]) hb, fun h j hj h3 h4 => ?_, fun h => ?_⟩
          · rcases Nat.lt_or_ge i j with hj' | hj'
            · exact hf h j hj' h3 h4
            · obtain rfl : j = i := by omega
              exact h2
          · obtain ⟨j, a, b, c⟩ := ht h
            exact ⟨j, by omega, b, c⟩
      · refine ⟨b, Ev.step (fun k => by rw [hstep, if_neg h1]) hb, fun h j hj h3 h4 => ?_, fun h => ?_⟩
        · rcases Nat.lt_or_ge i j with hj' | hj'
          · exact hf h j hj' h3 h4
          · obtain rfl : j = i := by omega
            exact absurd h4 h1
        · obtain ⟨j, a, b, c⟩ := ht h
          exact ⟨j, by omega, b, c⟩
    · exact ⟨false, Ev.step (f := fun _ => some false) (fun k => by simp only [QB.spec_LongS.l0]; rw [e1, if_neg (by omega)]) (Ev.now _), fun _ j h1 h2 => by omega, fun h => by cases h⟩
theorem long_is (s : ByteArray) (hs : s.size ≤ 1048576) : ∃ b, Ev (fun k => QB.spec_LongS.f k s) b ∧ (b = false → NoLong s) ∧ (b = true → ¬ NoLong s) := by
  obtain ⟨b, hb, hf, ht⟩ := long_ev s hs s.size 0 (by omega) (by omega)
  refine ⟨b, hb, fun h i h1 h2 => hf h i (by omega) h1 h2, fun h hn => ?_⟩
  obtain ⟨j, _, h1, h2, h3⟩ := ht h
  exact hn j h1 h2 h3

/-- Letters in any case from place p on. -/
def isW (s : ByteArray) : List Int → Nat → Bool
  | [], _ => true
  | c :: cs, p => decide (bt s p = c ∨ bt s p = c - 32) && isW s cs (p + 1)
theorem foldN_no (s : ByteArray) (hn : NoLong s) (p : Nat) (c : Int) : foldN s p c = if p < s.size ∧ (bt s p = c ∨ bt s p = c - 32) then 1 else 0 := by
  unfold foldN
  split
  · rfl
  · rw [if_neg]
    rintro ⟨_, h1, h2, h3⟩
    exact hn p h1 h2 h3
theorem wordN_no (s : ByteArray) (hn : NoLong s) : ∀ (cs : List Int) (p : Nat), p ≤ s.size → wordN s cs p = if p + cs.length ≤ s.size ∧ isW s cs p = true then some (p + cs.length) else none
  | [], p, hp => by simp [wordN, isW, hp]
  | c :: cs, p, hp => by
    rw [wordN, foldN_no s hn]
    by_cases h : p < s.size ∧ (bt s p = c ∨ bt s p = c - 32)
    · rw [if_pos h, if_neg (by omega), wordN_no s hn cs (p + 1) (by omega)]
      have e : p + 1 + cs.length = p + (c :: cs).length := by simp; omega
      have ei : isW s (c :: cs) p = isW s cs (p + 1) := by simp [isW, h.2]
      rw [e, ei]
    · rw [if_neg h, if_pos rfl, if_neg]
      rintro ⟨h1, h2⟩
      simp [isW] at h2
      exact h ⟨by simp at h1; omega, h2.1⟩
def VT : ByteArray := ⟨#[86, 65, 76, 85, 69, 83]⟩
theorem letterU (j : Nat) (h : j < 6) : ∃ c : Int, 97 ≤ c ∧ c ≤ 122 ∧ bt VT (j : Int) = c - 32 ∧ word_values.drop j = c :: word_values.drop (j + 1) := by
  have : j = 0 ∨ j = 1 ∨ j = 2 ∨ j = 3 ∨ j = 4 ∨ j = 5 := by omega
  rcases this with rfl | rfl | rfl | rfl | rfl | rfl
  · exact ⟨118, by omega, by omega, rfl, rfl⟩
  · exact ⟨97, by omega, by omega, rfl, rfl⟩
  · exact ⟨108, by omega, by omega, rfl, rfl⟩
  · exact ⟨117, by omega, by omega, rfl, rfl⟩
  · exact ⟨101, by omega, by omega, rfl, rfl⟩
  · exact ⟨115, by omega, by omega, rfl, rfl⟩
theorem isWord_ev (s : ByteArray) (p : Nat) (hp : p + 6 ≤ s.size) (hs : s.size ≤ 1048576) : ∀ (d j : Nat), j + d = 6 → Ev (fun k => spec_isWord.l0 k s p VT j) (isW s (word_values.drop j) (p + j)) := by
  have hz : (VT.size : Int) = 6 := rfl
  intro d
  induction d with
  | zero =>
    intro j hd
    obtain rfl : j = 6 := by omega
    exact Ev.step (f := fun _ => some true) (fun k => by simp only [spec_isWord.l0]; rw [hz, if_neg (by omega)]) (Ev.now _)
  | succ d ih =>
    intro j hd
    obtain ⟨c, hc1, hc2, hbt, hdr⟩ := letterU j (by omega)
    have e1 : wrap64 ((j : Int) + 1) = ((j + 1 : Nat) : Int) := by rw [w64 _ (by omega)]; omega
    have e2 : wrap64 ((p : Int) + (j : Int)) = ((p + j : Nat) : Int) := by rw [w64 _ (by omega)]; omega
    have em : (((c - 32) + 97) % 256 - 65) % 256 = c := by omega
    have hstep : ∀ k, spec_isWord.l0 (k + 1) s p VT j = if bt s ((p + j : Nat) : Int) = c - 32 then spec_isWord.l0 k s p VT ((j + 1 : Nat) : Int) else if bt s ((p + j : Nat) : Int) = c then spec_isWord.l0 k s p VT ((j + 1 : Nat) : Int) else some false := by
      intro k
      simp only [spec_isWord.l0]
      rw [hz, if_pos (by omega), e2, if_pos (by omega), if_pos (by omega), if_pos (by omega), e1, hbt, em]
    have hih := ih (j + 1) (by omega)
    rw [hdr, isW]
    by_cases h1 : bt s ((p + j : Nat) : Int) = c - 32
    · have e : (decide (bt s ((p + j : Nat) : Int) = c ∨ bt s ((p + j : Nat) : Int) = c - 32) && isW s (word_values.drop (j + 1)) (p + j + 1)) = isW s (word_values.drop (j + 1)) (p + (j + 1)) := by rw [decide_eq_true (.inr h1)]; rfl
      rw [e]
      exact Ev.step (fun k => by rw [hstep, if_pos h1]) hih
    · by_cases h2 : bt s ((p + j : Nat) : Int) = c
      · have e : (decide (bt s ((p + j : Nat) : Int) = c ∨ bt s ((p + j : Nat) : Int) = c - 32) && isW s (word_values.drop (j + 1)) (p + j + 1)) = isW s (word_values.drop (j + 1)) (p + (j + 1)) := by rw [decide_eq_true (.inl h2)]; rfl
        rw [e]
        exact Ev.step (fun k => by rw [hstep, if_neg h1, if_pos h2]) hih
      · have e : (decide (bt s ((p + j : Nat) : Int) = c ∨ bt s ((p + j : Nat) : Int) = c - 32) && isW s (word_values.drop (j + 1)) (p + j + 1)) = false := by rw [decide_eq_false (fun h => h.elim h2 h1)]; rfl
        rw [e]
        exact Ev.step (f := fun _ => some false) (fun k => by rw [hstep, if_neg h1, if_neg h2]) (Ev.now _)
theorem isWord_is (s : ByteArray) (p : Nat) (hp : p ≤ s.size) (hs : s.size ≤ 1048576) : Ev (fun k => spec_isWord.f k s p VT) (decide (p + 6 ≤ s.size) && isW s word_values p) := by
  have hz : (VT.size : Int) = 6 := rfl
  have e2 : wrap64 ((p : Int) + 6) = ((p + 6 : Nat) : Int) := by rw [w64 _ (by omega)]; omega
  by_cases h : p + 6 ≤ s.size
  · have := isWord_ev s p h hs 6 0 rfl
    simp only [h, decide_true, Bool.true_and]
    exact Ev.congr (fun k => by simp only [spec_isWord.f]; rw [hz, e2, if_neg (by omega)]; rfl) this
  · simp only [h, decide_false, Bool.false_and]
    exact Ev.congr (f := fun _ => some false) (fun k => by simp only [spec_isWord.f]; rw [hz, e2, if_pos (by omega)]) (Ev.now _)

def atOf : List Int → Int
  | [_, t] => t - 1
  | _ => -1
/-- The reference's search from place i on. -/
theorem valuesAt_ev (s : ByteArray) (hs : s.size ≤ 1048576) (hn : NoLong s) : ∀ (d i : Nat), s.size - i = d → i ≤ s.size → Ev (fun k => QB.spec_ValuesAt.l0 k s i) (atOf (valN s d i)) := by
  intro d
  induction d with
  | zero =>
    intro i hd hi
    exact Ev.step (f := fun _ => some (-1)) (fun k => by simp only [QB.spec_ValuesAt.l0]; rw [if_neg (by omega)]) (Ev.now _)
  | succ d ih =>
    intro i hd hi
    have e1 : wrap64 ((i : Int) + 1) = ((i + 1 : Nat) : Int) := by rw [w64 _ (by omega)]; omega
    have hih := ih (i + 1) (by omega) (by omega)
    rw [valN]
    by_cases hb : bt s i = 41
    · rw [if_pos hb]
      have hstep : ∀ k, QB.spec_ValuesAt.l0 (k + 1) s i = (spec_spaces.f k s ((i + 1 : Nat) : Int)).bind fun t115 => ((spec_isWord.f k s t115 VT).bind fun t116 => (if t116 = true then ((spec_spaces.f k s (wrap64 (t115 + 6))).bind fun t117 => (if t117 < (s.size : Int) then (if 0 ≤ t117 then (if (bt s t117) = 40 then (some t117) else (QB.spec_ValuesAt.l0 k s ((i + 1 : Nat) : Int))) else (none)) else (QB.spec_ValuesAt.l0 k s ((i + 1 : Nat) : Int)))) else (QB.spec_ValuesAt.l0 k s ((i + 1 : Nat) : Int)))) := by
        intro k
        simp only [QB.spec_ValuesAt.l0]
        rw [if_pos (by omega), if_pos (by omega), if_pos hb, e1]
        rfl
      refine Ev.step hstep ?_
      have hp := (spc_le s (i + 1)).2 (by omega)
      refine Ev.bind (spaces_is s hs (i + 1) (by omega)) ?_
      generalize spc s (i + 1) = p at hp ⊢
      refine Ev.bind (isWord_is s p hp hs) ?_
      rw [wordN_no s hn word_values p hp]
      have hl : word_values.length = 6 := rfl
      rw [hl]
      by_cases hw : p + 6 ≤ s.size ∧ isW s word_values p = true
      · rw [if_pos hw]
        dsimp only
        have eb : (decide (p + 6 ≤ s.size) && isW s word_values p) = true := by simp [hw.1, hw.2]
        rw [eb]
        have e2 : wrap64 ((p : Int) + 6) = ((p + 6 : Nat) : Int) := by rw [w64 _ (by omega)]; omega
        refine Ev.congr (fun k => by rw [if_pos rfl, e2]) (Ev.bind (spaces_is s hs (p + 6) (by omega)) ?_)
        have hq := spc_le s (p + 6)
        generalize spc s (p + 6) = q at hq ⊢
        by_cases h1 : ((q : Nat) : Int) < (s.size : Int)
        · by_cases h2 : bt s ((q : Nat) : Int) = 40
          · rw [if_pos ⟨h1, h2⟩]
            exact Ev.congr (f := fun _ => some ((q : Nat) : Int)) (fun k => by rw [if_pos h1, if_pos (by omega), if_pos h2]) (by
              have e : atOf [(i : Int), ((q : Nat) : Int) + 1] = ((q : Nat) : Int) := by simp [atOf]
              rw [e]
              exact Ev.now _)
          · rw [if_neg (fun h => h2 h.2)]
            exact Ev.congr (fun k => by rw [if_pos h1, if_pos (by omega), if_neg h2]) hih
        · rw [if_neg (fun h => h1 h.1)]
          exact Ev.congr (fun k => by rw [if_neg h1]) hih
      · rw [if_neg hw]
        have eb : (decide (p + 6 ≤ s.size) && isW s word_values p) = false := by
          rw [Bool.and_eq_false_iff]
          by_cases h : p + 6 ≤ s.size
          · exact .inr (by simpa using fun h' => hw ⟨h, h'⟩)
          · exact .inl (by simp [h])
        rw [eb]
        exact Ev.congr (fun k => by rw [if_neg (by simp)]) hih
    · rw [if_neg hb]
      exact Ev.step (fun k => by simp only [QB.spec_ValuesAt.l0]; rw [if_pos (by omega), if_pos (by omega), if_neg hb, e1]) hih
theorem valuesAt_is (s : ByteArray) (hs : s.size ≤ 1048576) (hn : NoLong s) : Ev (fun k => QB.spec_ValuesAt.f k s) (atOf (valN s s.size 0)) := valuesAt_ev s hs hn s.size 0 (by omega) (by omega)

/-- What is found: nothing; or a closing bracket at a, an opening one at y, behind which, and ahead of y, no closing one stands. -/
theorem spN_sp (s : ByteArray) : ∀ (f i j : Nat), i ≤ j → j < spN s f i → bt s j ≠ 41
  | 0, i, j, h1, h2 => by simp [spN] at h2; omega
  | f + 1, i, j, h1, h2 => by
    rw [spN] at h2
    split at h2
    · split at h2
      · rename_i hb
        rcases Nat.lt_or_ge i j with h | h
        · exact spN_sp s f (i + 1) j h h2
        · obtain rfl : j = i := by omega
          intro h41
          rw [h41] at hb
          simp [isSp] at hb
      · omega
    · omega
theorem isW_no (s : ByteArray) : ∀ (cs : List Int) (p j : Nat), (∀ c ∈ cs, 97 ≤ c ∧ c ≤ 122) → isW s cs p = true → p ≤ j → j < p + cs.length → bt s j ≠ 41
  | [], p, j, _, _, h1, h2 => by simp at h2; omega
  | c :: cs, p, j, hc, h, h1, h2 => by
    simp only [isW, Bool.and_eq_true, decide_eq_true_eq] at h
    rcases Nat.lt_or_ge p j with hj | hj
    · exact isW_no s cs (p + 1) j (fun c' h' => hc c' (List.mem_cons_of_mem _ h')) h.2 hj (by simp at h2; omega)
    · obtain rfl : j = p := by omega
      have := hc c List.mem_cons_self
      omega
theorem valN_found (s : ByteArray) (hn : NoLong s) : ∀ (d i : Nat), s.size - i = d → i ≤ s.size → valN s d i = [] ∨ ∃ a y : Nat, valN s d i = [(a : Int), (y : Int) + 1] ∧ i ≤ a ∧ a < y ∧ y < s.size ∧ bt s a = 41 ∧ bt s y = 40 ∧ ∀ j : Nat, a < j → j ≤ y → bt s j ≠ 41 := by
  intro d
  induction d with
  | zero => intro i _ _; exact .inl rfl
  | succ d ih =>
    intro i hd hi
    have hih := ih (i + 1) (by omega) (by omega)
    have up : valN s d (i + 1) = [] ∨ ∃ a y : Nat, valN s d (i + 1) = [(a : Int), (y : Int) + 1] ∧ i ≤ a ∧ a < y ∧ y < s.size ∧ bt s a = 41 ∧ bt s y = 40 ∧ ∀ j : Nat, a < j → j ≤ y → bt s j ≠ 41 := by
      rcases hih with h | ⟨a, y, h1, h2, h3⟩
      · exact .inl h
      · exact .inr ⟨a, y, h1, by omega, h3⟩
    rw [valN]
    by_cases hb : bt s i = 41
    · rw [if_pos hb]
      have hp0 := spc_le s (i + 1)
      have hp := hp0.2 (by omega)
      have hsp : ∀ j, i + 1 ≤ j → j < spc s (i + 1) → bt s j ≠ 41 := fun j h1 h2 => spN_sp s _ (i + 1) j h1 h2
      generalize spc s (i + 1) = p at hp hp0 hsp ⊢
      rw [wordN_no s hn word_values p hp]
      have hl : word_values.length = 6 := rfl
      rw [hl]
      by_cases hw : p + 6 ≤ s.size ∧ isW s word_values p = true
      · rw [if_pos hw]
        dsimp only
        have hq := spc_le s (p + 6)
        have hsq : ∀ j, p + 6 ≤ j → j < spc s (p + 6) → bt s j ≠ 41 := fun j h1 h2 => spN_sp s _ (p + 6) j h1 h2
        generalize spc s (p + 6) = q at hq hsq ⊢
        by_cases h1 : ((q : Nat) : Int) < (s.size : Int) ∧ bt s ((q : Nat) : Int) = 40
        · rw [if_pos h1]
          refine .inr ⟨i, q, rfl, Nat.le_refl _, by omega, by omega, hb, h1.2, fun j hj1 hj2 => ?_⟩
          rcases Nat.lt_or_ge j p with h | h
          · exact hsp j (by omega) h
          · rcases Nat.lt_or_ge j (p + 6) with h' | h'
            · exact isW_no s word_values p j (by decide) hw.2 h (by rw [hl]; exact h')
            · rcases Nat.lt_or_ge j q with h'' | h''
              · exact hsq j h' h''
              · obtain rfl : j = q := by omega
                rw [h1.2]
                omega
        · rw [if_neg h1]
          exact up
      · rw [if_neg hw]
        exact up
    · rw [if_neg hb]
      exact up
end Go.Proofs.YtnmhoghmhglimaaDoor.S
/-
  PLAIN: the reference's NamedMany; and that NamedManyOf of the program answers the same, where the reference is sure (texts of at most 4096 bytes).
-/
namespace Go.Proofs.YtnmhoghmhglimaaDoor.SN
open Go.RowKit Go.Proofs.YtnmhoghmhglimaaDoor.QN Go.Proofs.YtnmhoghmhglimaaDoor.H Go.Proofs.YtnmhoghmhglimaaDoor.SC Go.Proofs.YtnmhoghmhglimaaDoor.S Go.Proofs.YtnmhoghmhglimaaDoorW.PrintWords Go.Proofs.YtnmhoghmhglimaaDoorW.PrintLast Go.Proofs.YtnmhoghmhglimaaDoorW.PrintMore
set_option linter.unusedVariables false
set_option linter.unusedSimpArgs false

/-! no long s comes into a text by its names -/
def noL (l : List UInt8) : Prop := ¬ [(197 : UInt8), 191] <:+: l
theorem noL_left {x y : List UInt8} (h : noL (x ++ y)) : noL x := fun hx => h (hx.trans (List.prefix_append x y).isInfix)
theorem noL_right {x y : List UInt8} (h : noL (x ++ y)) : noL y := fun hx => h (hx.trans (List.suffix_append x y).isInfix)
theorem noL_join {x y : List UInt8} {c : UInt8} (hx : noL x) (hy : noL y) (h1 : c ≠ 197) (h2 : c ≠ 191) : noL (x ++ c :: y) := by
  rintro ⟨p, q, h⟩
  rw [List.append_assoc] at h
  rcases List.append_eq_append_iff.1 h with ⟨a, e1, e2⟩ | ⟨a, e1, e2⟩
  · match a with
    | [] =>
      injection e2 with e3 _
      exact h1 e3.symm
    | [a0] =>
      injection e2 with _ e3
      injection e3 with e4 _
      exact h2 e4.symm
    | a0 :: a1 :: a2 =>
      injection e2 with e3 e4
      injection e4 with e5 e6
      subst e3 e5
      exact hx ⟨p, a2, by rw [e1]; simp⟩
  · match a with
    | [] =>
      injection e2 with e3 _
      exact h1 e3
    | a0 :: a2 =>
      injection e2 with e3 e4
      exact hy ⟨a2, q, by rw [e4]; simp⟩
theorem noL_cons {y : List UInt8} {c : UInt8} (hy : noL y) (h1 : c ≠ 197) : noL (c :: y) := by
  rintro ⟨p, q, h⟩
  match p with
  | [] =>
    injection h with h2 _
    exact h1 h2.symm
  | p0 :: p1 =>
    injection h with _ h3
    exact hy ⟨p1, q, h3⟩
theorem run_noL : ∀ (l : List UInt8) (inN : Bool) (nm : List UInt8) (nms : List (List UInt8)) (out : List UInt8) (r : List (List UInt8) × List UInt8), runC 1 l inN nm nms out = some r → (inN = false → noL (out ++ l)) → (inN = true → noL out ∧ noL l) → noL r.2
  | [], inN, nm, nms, out, r, h, h1, h2 => by
    injection h with h
    subst h
    cases inN with
    | true => exact (h2 rfl).1
    | false =>
      have := h1 rfl
      rwa [List.append_nil] at this
  | b :: t, inN, nm, nms, out, r, h, h1, h2 => by
    have hm : ∀ n y, markC 1 n y = [63] := fun n y => rfl
    rw [runC] at h
    simp only [hm] at h
    cases inN with
    | true =>
      obtain ⟨ho, hl⟩ := h2 rfl
      have ht : noL t := noL_right (x := [b]) hl
      simp only [if_true] at h
      split at h
      · split at h
        · refine run_noL t _ _ _ _ r h (fun _ => ?_) (fun h => by cases h)
          rw [List.append_assoc]
          exact noL_join ho ht (by decide) (by decide)
        · cases h
      · split at h
        · refine run_noL t _ _ _ _ r h (fun _ => ?_) (fun h => by cases h)
          rw [List.append_assoc]
          exact noL_join ho (noL_cons ht (by decide)) (by decide) (by decide)
        · split at h
          · exact run_noL t _ _ _ _ r h (fun h => by cases h) (fun _ => ⟨ho, ht⟩)
          · split at h
            · refine run_noL t _ _ _ _ r h (fun _ => ?_) (fun h => by cases h)
              rw [List.append_assoc]
              exact noL_join ho ht (by decide) (by decide)
            · refine run_noL t _ _ _ _ r h (fun _ => ?_) (fun h => by cases h)
              rw [List.append_assoc, List.append_assoc]
              exact noL_join ho hl (by decide) (by decide)
    | false =>
      have ho := h1 rfl
      simp only [Bool.false_eq_true, if_false] at h
      split at h
      · exact run_noL t _ _ _ _ r h (fun h => by cases h) (fun _ => ⟨noL_left ho, noL_right (x := [b]) (noL_right ho)⟩)
      · refine run_noL t _ _ _ _ r h (fun _ => ?_) (fun h => by cases h)
        rw [List.append_assoc]
        exact ho
theorem noL_of (s : ByteArray) (h : NoLong s) : noL s.data.toList := by
  rintro ⟨p, q, e⟩
  have hl : s.data.toList.length = s.size := Array.length_toList
  rw [List.append_assoc] at e
  have h1 : p.length + 1 < s.size := by
    rw [← hl, ← e]
    simp only [List.length_append, List.length_cons, List.length_nil]
    omega
  have g0 : s[p.length]'(by omega) = 197 := by
    have : s.data.toList[p.length]'(by omega) = 197 := by simp [← e]
    rw [← this, Array.getElem_toList]
    rfl
  have g1 : s[p.length + 1]'h1 = 191 := by
    have : s.data.toList[p.length + 1]'(by omega) = 191 := by simp [← e]
    rw [← this, Array.getElem_toList]
    rfl
  refine h p.length h1 ?_ ?_
  · rw [bt_n s p.length (by omega), g0]
    rfl
  · rw [bt_n s (p.length + 1) h1, g1]
    rfl
theorem of_noL (s : ByteArray) (h : noL s.data.toList) : NoLong s := by
  intro i hi h0 h1
  have hl : s.data.toList.length = s.size := Array.length_toList
  rw [bt_n s i (by omega)] at h0
  rw [bt_n s (i + 1) hi] at h1
  have g0 : s[i]'(by omega) = 197 := UInt8.toNat_inj.1 (by have : (197 : UInt8).toNat = 197 := rfl; omega)
  have g1 : s[i + 1]'hi = 191 := UInt8.toNat_inj.1 (by have : (191 : UInt8).toNat = 191 := rfl; omega)
  have e0 : s.data.toList[i]'(by omega) = 197 := by
    rw [Array.getElem_toList]
    exact g0
  have e1 : s.data.toList[i + 1]'(by omega) = 191 := by
    rw [Array.getElem_toList]
    exact g1
  refine h ⟨s.data.toList.take i, s.data.toList.drop (i + 2), ?_⟩
  conv => rhs; rw [← List.take_append_drop i s.data.toList, List.drop_eq_getElem_cons (show i < s.data.toList.length by omega), List.drop_eq_getElem_cons (show i + 1 < s.data.toList.length by omega), e0, e1]
  simp
/-! the reference's ValuesAt and Repeated come to an end, whatever the text -/
theorem valuesAt_end (s : ByteArray) (hs : s.size ≤ 1048576) : ∀ (d i : Nat), s.size - i = d → i ≤ s.size → ∃ y : Int, Ev (fun k => QB.spec_ValuesAt.l0 k s i) y ∧ (y = -1 ∨ ∃ n : Nat, y = n ∧ 1 ≤ n ∧ n < s.size ∧ bt s (n : Int) = 40) := by
  intro d
  induction d with
  | zero =>
    intro i hd hi
    exact ⟨-1, Ev.step (f := fun _ => some (-1)) (fun k => by simp only [QB.spec_ValuesAt.l0]; rw [if_neg (by omega)]) (Ev.now _), .inl rfl⟩
  | succ d ih =>
    intro i hd hi
    have e1 : wrap64 ((i : Int) + 1) = ((i + 1 : Nat) : Int) := w64s i (by omega)
    have c1 : (i : Int) < (s.size : Int) := by omega
    have c0 : (0 : Int) ≤ (i : Int) := by omega
    obtain ⟨y, hE, hy0⟩ := ih (i + 1) (by omega) (by omega)
    have HY := Lib.hid hy0
    clear hy0
    by_cases hb : bt s i = 41
    · have hstep : ∀ k, QB.spec_ValuesAt.l0 (k + 1) s i = (QB.spec_spaces.f k s ((i + 1 : Nat) : Int)).bind fun t115 => ((QB.spec_isWord.f k s t115 VT).bind fun t116 => (if t116 = true then ((QB.spec_spaces.f k s (wrap64 (t115 + 6))).bind fun t117 => (if t117 < (s.size : Int) then (if 0 ≤ t117 then (if (bt s t117) = 40 then (some t117) else (QB.spec_ValuesAt.l0 k s ((i + 1 : Nat) : Int))) else (none)) else (QB.spec_ValuesAt.l0 k s ((i + 1 : Nat) : Int)))) else (QB.spec_ValuesAt.l0 k s ((i + 1 : Nat) : Int)))) := by
        intro k
        simp only [QB.spec_ValuesAt.l0]
        rw [if_pos c1, if_pos c0, if_pos hb, e1]
        rfl
      have hp := (spc_le s (i + 1)).2 (by omega)
      have hsp := spaces_is s hs (i + 1) (by omega)
      generalize spc s (i + 1) = p at hp hsp
      have hw := isWord_is s p hp hs
      generalize (decide (p + 6 ≤ s.size) && isW s word_values p) = b at hw
      cases b with
      | false => exact ⟨y, Ev.step hstep (Ev.bind hsp (Ev.bind hw (Ev.congr (fun k => by rw [if_neg (by decide)]) hE))), HY.out⟩
      | true =>
        have e2 : wrap64 ((p : Int) + 6) = ((p + 6 : Nat) : Int) := by
          rw [IntWalk.wrap64_in _ (by omega)]
          omega
        have hsp2 := spaces_is s hs (p + 6) (by omega)
        have hq := (spc_le s (p + 6)).1
        generalize spc s (p + 6) = q at hq hsp2
        by_cases h1 : ((q : Nat) : Int) < (s.size : Int)
        · by_cases h2 : bt s ((q : Nat) : Int) = 40
          · refine ⟨q, Ev.step hstep (Ev.bind hsp (Ev.bind hw (Ev.congr (fun k => by rw [if_pos rfl, e2]) (Ev.bind hsp2 (Ev.congr (f := fun _ => some ((q : Nat) : Int)) (fun k => by rw [if_pos h1, if_pos (Int.natCast_nonneg _), if_pos h2]) (Ev.now _)))))), .inr ⟨q, rfl, by omega, by omega, h2⟩⟩
          · exact ⟨y, Ev.step hstep (Ev.bind hsp (Ev.bind hw (Ev.congr (fun k => by rw [if_pos rfl, e2]) (Ev.bind hsp2 (Ev.congr (fun k => by rw [if_pos h1, if_pos (Int.natCast_nonneg _), if_neg h2]) hE))))), HY.out⟩
        · exact ⟨y, Ev.step hstep (Ev.bind hsp (Ev.bind hw (Ev.congr (fun k => by rw [if_pos rfl, e2]) (Ev.bind hsp2 (Ev.congr (fun k => by rw [if_neg h1]) hE))))), HY.out⟩
    · exact ⟨y, Ev.step (fun k => by simp only [QB.spec_ValuesAt.l0]; rw [if_pos c1, if_pos c0, if_neg hb, e1]) hE, HY.out⟩
theorem repeated_end (s : ByteArray) (hs : s.size ≤ 1048576) (n : Int) (h0 : 0 ≤ n) (h1 : n ≤ 1048576) : ∃ r, Ev (fun k => H.spec_Repeated.f k s n) r := by
  obtain ⟨y, hE, hy⟩ := valuesAt_end s hs s.size 0 (by omega) (by omega)
  have hE' : Ev (fun k => H.spec_ValuesAt.f k s) y := hE
  rcases hy with rfl | ⟨m, rfl, hm1, hm2, h40⟩
  · exact ⟨s, Ev.congr (fun k => rfl) (Ev.bind hE' (Ev.congr (f := fun _ => some s) (fun k => by rw [if_pos (by decide)]) (Ev.now _)))⟩
  · rcases closing_is s hs m hm1 hm2 h40 with ⟨hc, hz⟩ | ⟨hz, hlt, hc⟩
    · have hc' : Ev (fun k => H.spec_Closing.f k s (m : Int)) (-1) := hc
      exact ⟨s, Ev.congr (fun k => rfl) (Ev.bind hE' (Ev.congr (fun k => by rw [if_neg (by omega)]) (Ev.bind hc' (Ev.congr (f := fun _ => some s) (fun k => by rw [if_pos (by decide)]) (Ev.now _)))))⟩
    · have hc' : Ev (fun k => H.spec_Closing.f k s (m : Int)) (m + idxOf s m) := hc
      exact ⟨_, Ev.congr (fun k => rfl) (Ev.bind hE' (Ev.congr (fun k => by rw [if_neg (by omega)]) (Ev.bind hc' (Ev.congr (fun k => by rw [if_neg (by omega), if_pos (by omega)]) (Ev.now _)))))⟩
theorem rep_is (s : ByteArray) (hs : s.size ≤ 1048576) (hn : NoLong s) (n : Int) (h0 : 0 ≤ n) (h1 : n ≤ 1048576) : Ev (fun k => H.spec_Repeated.f k s n) (fixF s n) := by
  have hat : Ev (fun k => H.spec_ValuesAt.f k s) (atOf (valN s s.size 0)) := valuesAt_is s hs hn
  unfold H.spec_Repeated.f
  refine Ev.bind hat ?_
  unfold fixF
  rcases valN_found s hn s.size 0 (by omega) (by omega) with hv | ⟨a, y, hv, _, hay, hy, _, h40, _⟩
  · rw [hv]
    exact Ev.congr (f := fun _ => some s) (fun k => by rw [if_pos (by simp [atOf])]) (Ev.now _)
  · rw [hv]
    have e : atOf [(a : Int), (y : Int) + 1] = (y : Int) := by simp [atOf]
    have e2 : ((y : Int) + 1 - 1).toNat = y := by omega
    rw [e]
    simp only [e2]
    rcases closing_is s hs y (by omega) hy h40 with ⟨hc, hz⟩ | ⟨hz, hlt, hc⟩
    · rw [if_pos hz]
      have hc' : Ev (fun k => H.spec_Closing.f k s (y : Int)) (-1) := hc
      refine Ev.congr (f := fun k => (H.spec_Closing.f k s (y : Int)).bind fun to_ => if to_ < 0 then some s else if 0 ≤ (y : Int) ∧ (y : Int) ≤ to_ ∧ to_ < s.size ∧ s.size ≤ 1048576 ∧ n ≤ 1048576 ∧ -1048576 ≤ n then some (fixL s (y : Int).toNat (to_.toNat + 1) (n - 1).toNat) else none) (fun k => by rw [if_neg (by omega)]) (Ev.bind hc' ?_)
      exact Ev.congr (f := fun _ => some s) (fun k => by rw [if_pos (by omega)]) (Ev.now _)
    · rw [if_neg (by omega)]
      have hc' : Ev (fun k => H.spec_Closing.f k s (y : Int)) (y + idxOf s y) := hc
      refine Ev.congr (f := fun k => (H.spec_Closing.f k s (y : Int)).bind fun to_ => if to_ < 0 then some s else if 0 ≤ (y : Int) ∧ (y : Int) ≤ to_ ∧ to_ < s.size ∧ s.size ≤ 1048576 ∧ n ≤ 1048576 ∧ -1048576 ≤ n then some (fixL s (y : Int).toNat (to_.toNat + 1) (n - 1).toNat) else none) (fun k => by rw [if_neg (by omega)]) (Ev.bind hc' ?_)
      have e3 : ((y : Int) + idxOf s y).toNat + 1 = y + (idxOf s y).toNat + 1 := by omega
      exact Ev.congr (f := fun _ => some (fixL s y (y + (idxOf s y).toNat + 1) (n - 1).toNat)) (fun k => by rw [if_neg (by omega), if_pos (by omega), e3, Int.toNat_natCast]) (Ev.now _)
/-! the rows -/
theorem rdL (rows : List (List S54)) (i : Nat) (h : i < rows.length) : rd_L7 rows (i : Int) = rows[i] := by
  unfold rd_L7
  rw [Int.toNat_natCast, List.getD_eq_getElem?_getD, List.getElem?_eq_getElem h]
  rfl
theorem rows_l0 (rows : List (List S54)) (hl : rows.length ≤ 2147483647) (hr : ∀ r ∈ rows, r.length ≤ 9223372036854775807) : ∀ (d i : Nat), rows.length - i = d → i ≤ rows.length → ∃ b, Ev (fun k => laws_rows9.l0 k rows i) b ∧ (b = true → rows.length ≤ 6 ∧ ∀ r ∈ rows.drop i, ArgsOk r ∧ r.length ≤ 20) := by
  intro d
  induction d with
  | zero =>
    intro i hd hi
    have c1 : ¬ (i : Int) < (rows.length : Int) := by omega
    refine ⟨decide ((rows.length : Int) ≤ 6), Ev.step (fun k => by simp only [laws_rows9.l0]; rw [if_neg c1]) (Ev.now _), fun h => ⟨by have := of_decide_eq_true h; omega, ?_⟩⟩
    rw [List.drop_eq_nil_of_le (by omega)]
    intro r hr
    cases hr
  | succ d ih =>
    intro i hd hi
    have hlt : i < rows.length := by omega
    have c1 : (i : Int) < (rows.length : Int) := by omega
    have c0 : (0 : Int) ≤ (i : Int) := by omega
    have e1 := w64s i (by omega)
    have hrd := rdL rows i hlt
    obtain ⟨b, hE, hb⟩ := args_is rows[i] (hr _ (List.getElem_mem hlt))
    obtain ⟨b2, hE2, hb2⟩ := ih (i + 1) (by omega) (by omega)
    have hstep : ∀ k, laws_rows9.l0 (k + 1) rows i = (spec_ArgsRight.f k rows[i]).bind fun t => if t = true then laws_rows9.l0 k rows ((i + 1 : Nat) : Int) else some false := by
      intro k
      simp only [laws_rows9.l0]
      rw [if_pos c1, if_pos c0, hrd, e1]
    cases b with
    | false => exact ⟨false, Ev.step hstep (Ev.bind hE (Ev.congr (f := fun _ => some false) (fun k => by rw [if_neg (by decide)]) (Ev.now _))), fun h => by cases h⟩
    | true =>
      refine ⟨b2, Ev.step hstep (Ev.bind hE (Ev.congr (fun k => by rw [if_pos rfl]) hE2)), fun h => ⟨(hb2 h).1, ?_⟩⟩
      rw [List.drop_eq_getElem_cons hlt]
      exact List.forall_mem_cons.2 ⟨hb rfl, (hb2 h).2⟩
theorem rows9_is (rows : List (List S54)) (hl : rows.length ≤ 2147483647) (hr : ∀ r ∈ rows, r.length ≤ 9223372036854775807) : ∃ b, Ev (fun k => laws_rows9.f k rows) b ∧ (b = true → rows.length ≤ 6 ∧ ∀ r ∈ rows, ArgsOk r ∧ r.length ≤ 20) := by
  obtain ⟨b, hE, hb⟩ := rows_l0 rows hl hr rows.length 0 (by omega) (by omega)
  exact ⟨b, hE, hb⟩
def manyP (X : ByteArray) (acc : List S52) (long : Bool) : Option (List S52) → ByteArray × List S52 × Bool × Bool
  | some vs => (X, acc ++ vs, true, !long)
  | none => (⟨#[]⟩, [], false, true)
theorem many_l0 (s : ByteArray) (rows : List (List S54)) (out : ByteArray) (names : List ByteArray) (X : ByteArray) (long : Bool) (hrows : ∀ r ∈ rows, r.length ≤ 2147483647) (hn : names.length ≤ 1048576) (hrl : rows.length ≤ 64)
    (hX : 1 < rows.length → Ev (fun k => H.spec_Repeated.f k out (rows.length : Int)) X) (hX1 : ¬ 1 < rows.length → X = out) (hL : Ev (fun k => H.spec_LongS.f k s) long) :
    ∀ (d i : Nat) (acc : List S52), rows.length - i = d → i ≤ rows.length → acc.length ≤ i * 1048576 → Ev (fun k => spec_NamedMany.l0 k s rows out acc names i) (manyP X acc long (allOf names (rows.drop i))) := by
  intro d
  induction d with
  | zero =>
    intro i acc hd hi ha
    have c1 : ¬ (i : Int) < (rows.length : Int) := by omega
    rw [List.drop_eq_nil_of_le (by omega), allOf, manyP, List.append_nil]
    by_cases h1 : 1 < rows.length
    · refine Ev.step (f := fun k => (H.spec_Repeated.f k out (rows.length : Int)).bind fun t => (H.spec_LongS.f k s).bind fun u => some (t, acc, true, !u)) (fun k => ?_) (Ev.bind (hX h1) (Ev.bind hL (Ev.now _)))
      simp only [spec_NamedMany.l0]
      rw [if_neg c1, if_pos (by omega)]
    · rw [hX1 h1]
      refine Ev.step (f := fun k => (H.spec_LongS.f k s).bind fun u => some (out, acc, true, !u)) (fun k => ?_) (Ev.bind hL (Ev.now _))
      simp only [spec_NamedMany.l0]
      rw [if_neg c1, if_neg (by omega)]
  | succ d ih =>
    intro i acc hd hi ha
    have hlt : i < rows.length := by omega
    have c1 : (i : Int) < (rows.length : Int) := by omega
    have c0 : (0 : Int) ≤ (i : Int) := by omega
    have e1 := w64s i (by omega)
    have hrd := rdL rows i hlt
    have hv := values_is names rows[i] (hrows _ (List.getElem_mem hlt)) (by omega)
    have hstep : ∀ k, spec_NamedMany.l0 (k + 1) s rows out acc names i = (spec_ValuesOf.f k names rows[i]).bind fun bt255 => (if bt255.2 = true then (if acc.length + bt255.1.length < 2513169434916 then (spec_NamedMany.l0 k s rows out (acc ++ bt255.1) names ((i + 1 : Nat) : Int)) else (none)) else (some ((⟨#[]⟩ : ByteArray), ([] : List S52), false, true))) := by
      intro k
      simp only [spec_NamedMany.l0]
      rw [if_pos c1, if_pos c0, hrd, e1]
    rw [List.drop_eq_getElem_cons hlt, allOf]
    cases hf : valsOf names rows[i] with
    | none =>
      rw [hf] at hv
      exact Ev.step hstep (Ev.bind hv (Ev.congr (f := fun _ => some (⟨#[]⟩, [], false, true)) (fun k => rfl) (Ev.now _)))
    | some vs =>
      rw [hf] at hv
      have hl2 := valsOf_len _ _ _ hf
      have h2 := ih (i + 1) (acc ++ vs) (by omega) (by omega) (by rw [List.length_append, hl2, Nat.succ_mul]; omega)
      have e : manyP X (acc ++ vs) long (allOf names (rows.drop (i + 1))) = manyP X acc long ((allOf names (rows.drop (i + 1))).map (vs ++ ·)) := by
        cases allOf names (rows.drop (i + 1)) <;> simp [manyP]
      rw [e] at h2
      have hm : i * 1048576 ≤ 64 * 1048576 := Nat.mul_le_mul (by omega) (Nat.le_refl _)
      have c2 : acc.length + vs.length < 2513169434916 := by omega
      refine Ev.step hstep (Ev.bind hv (Ev.congr (fun k => ?_) h2))
      show (if (true : Bool) = true then (if acc.length + ([] ++ vs).length < 2513169434916 then spec_NamedMany.l0 k s rows out (acc ++ ([] ++ vs)) names ((i + 1 : Nat) : Int) else none) else _) = _
      rw [if_pos rfl, List.nil_append, if_pos c2]
theorem manyF_kind (kind : Int) (s : ByteArray) (rows : List (List S54)) : manyF kind s rows = (manyF 1 s rows).map fun r => (reText kind r.1, r.2) := by
  unfold manyF
  cases runC 1 s.data.toList false [] [] [] with
  | none => rfl
  | some q =>
    show (if rows = [] then none else (allOf (textsL q.1) rows).map fun vs => (reText kind (if 1 < rows.length then fixF ⟨q.2.toArray⟩ rows.length else ⟨q.2.toArray⟩), vs)) = (if rows = [] then none else (allOf (textsL q.1) rows).map fun vs => (reText 1 (if 1 < rows.length then fixF ⟨q.2.toArray⟩ rows.length else ⟨q.2.toArray⟩), vs)).map fun r => (reText kind r.1, r.2)
    split
    · rfl
    · rw [Option.map_map]
      rfl
theorem namedMany_is (s : ByteArray) (hs : s.size ≤ 4096) (rows : List (List S54)) (hrl : rows.length ≤ 64) (hrows : ∀ r ∈ rows, r.length ≤ 2147483647) :
    ∃ res, Ev (fun k => spec_NamedMany.f k s rows) res ∧ ((bitsOf s).2.2 = true → (manyF 1 s rows = none ∧ res = (⟨#[]⟩, [], false, true)) ∨ ∃ r, manyF 1 s rows = some r ∧ res.2.1 = r.2 ∧ res.2.2.1 = true ∧ (res.2.2.2 = true → res.1 = r.1)) ∧
      (¬ (bitsOf s).2.2 = true → res = (⟨#[]⟩, [], false, false)) := by
  have hc := compiled_is 1 s (by omega)
  have j0T : ∀ x4 x5 x7 x8, Ev (fun k => spec_NamedMany.j0 k s rows x4 x5 x7 x8 true) (⟨#[]⟩, [], false, x7) := fun x4 x5 x7 x8 => Ev.step (f := fun _ => some (⟨#[]⟩, [], false, x7)) (fun k => by simp only [spec_NamedMany.j0]; rw [if_pos trivial]) (Ev.now _)
  by_cases hsure : (bitsOf s).2.2 = true
  · rcases comp_sure 1 s hsure with ⟨more, hok, hmore, hrun⟩ | ⟨hok, hrun⟩
    · have e : compOf 1 s = (⟨(foldB 1 more [] []).2.toArray⟩, textsL (foldB 1 more [] []).1, true, true) := by
        unfold compOf
        rw [if_pos hok, hmore, hsure]
        rfl
      have hr0 := hrun 1 [] [] []
      have hfit := names_fit hr0 (show s.size ≤ 1048576 by omega)
      have hout := runC_out _ _ _ _ _ _ hr0
      have hl : s.data.toList.length = s.size := Array.length_toList
      have hos : (⟨(foldB 1 more [] []).2.toArray⟩ : ByteArray).size ≤ 1048576 := by
        show (foldB 1 more [] []).2.length ≤ _
        simp only [List.length_nil] at hout
        omega
      have hF : manyF 1 s rows = if rows = [] then none else (allOf (textsL (foldB 1 more [] []).1) rows).map fun vs => (reText 1 (if 1 < rows.length then fixF ⟨(foldB 1 more [] []).2.toArray⟩ rows.length else ⟨(foldB 1 more [] []).2.toArray⟩), vs) := by
        unfold manyF
        rw [hr0]
      have hnoL : NoLong s → NoLong ⟨(foldB 1 more [] []).2.toArray⟩ := fun h => of_noL _ (run_noL _ _ _ _ _ _ hr0 (fun _ => by rw [List.nil_append]; exact noL_of s h) (fun h => by cases h))
      rw [e] at hc
      generalize (⟨(foldB 1 more [] []).2.toArray⟩ : ByteArray) = out at hc hos hF hnoL
      generalize textsL (foldB 1 more [] []).1 = names at hc hfit hF
      by_cases hz : rows = []
      · rw [if_pos hz] at hF
        refine ⟨(⟨#[]⟩, [], false, true), Ev.congr (fun k => rfl) (Ev.bind hc (Ev.congr (f := fun k => spec_NamedMany.j0 k s rows out [] true names false) (fun k => rfl) (Ev.step (f := fun _ => some (⟨#[]⟩, [], false, true)) (fun k => ?_) (Ev.now _)))), fun _ => .inl ⟨hF, rfl⟩, fun h => absurd hsure h⟩
        simp only [spec_NamedMany.j0]
        rw [if_neg (by decide), if_pos (by rw [hz]; rfl)]
      · rw [if_neg hz] at hF
        have hpos : 0 < rows.length := List.length_pos_iff.2 hz
        obtain ⟨long, hL0, hL1, _⟩ := long_is s (by omega)
        have hL : Ev (fun k => H.spec_LongS.f k s) long := hL0
        obtain ⟨X, hX, hX1, hXr⟩ : ∃ X, (1 < rows.length → Ev (fun k => H.spec_Repeated.f k out (rows.length : Int)) X) ∧ (¬ 1 < rows.length → X = out) ∧ (long = false → X = if 1 < rows.length then fixF out rows.length else out) := by
          by_cases h1 : 1 < rows.length
          · cases long with
            | false => exact ⟨_, fun _ => rep_is out hos (hnoL (hL1 rfl)) (rows.length : Int) (by omega) (by omega), fun h => absurd h1 h, fun _ => by rw [if_pos h1]⟩
            | true =>
              obtain ⟨r, hr⟩ := repeated_end out hos (rows.length : Int) (by omega) (by omega)
              exact ⟨r, fun _ => hr, fun h => absurd h1 h, fun h => by cases h⟩
          · exact ⟨out, fun h => absurd h h1, fun _ => rfl, fun _ => by rw [if_neg h1]⟩
        have hm := many_l0 s rows out names X long hrows hfit.1 hrl hX hX1 hL rows.length 0 [] (by omega) (by omega) (by simp)
        rw [List.drop_zero] at hm
        refine ⟨_, Ev.congr (fun k => rfl) (Ev.bind hc (Ev.congr (f := fun k => spec_NamedMany.j0 k s rows out [] true names false) (fun k => rfl) (Ev.step (fun k => ?_) hm))), fun _ => ?_, fun h => absurd hsure h⟩
        · simp only [spec_NamedMany.j0]
          rw [if_neg (by decide), if_neg (by omega)]
          rfl
        · cases ha : allOf names rows with
          | none =>
            rw [ha] at hF
            exact .inl ⟨hF, rfl⟩
          | some vs =>
            rw [ha] at hF
            refine .inr ⟨_, hF, rfl, rfl, fun h => ?_⟩
            have hlo : long = false := by
              have h' : (!long) = true := h
              cases long
              · rfl
              · cases h'
            have e1 : ∀ t, reText 1 t = t := fun t => if_pos (.inl rfl)
            exact (hXr hlo).trans (e1 _).symm
    · have e : compOf 1 s = (⟨#[]⟩, [], false, true) := by
        unfold compOf
        rw [if_neg (by rw [hok]; decide), hsure]
      have hF : manyF 1 s rows = none := by
        unfold manyF
        rw [hrun]
      rw [e] at hc
      exact ⟨(⟨#[]⟩, [], false, true), Ev.congr (fun k => rfl) (Ev.bind hc (Ev.congr (f := fun k => spec_NamedMany.j0 k s rows ⟨#[]⟩ [] true [] true) (fun k => rfl) (j0T _ _ _ _))), fun _ => .inl ⟨hF, rfl⟩, fun h => absurd hsure h⟩
  · have hu := comp_unsure 1 s hsure
    generalize compOf 1 s = c at hu hc
    obtain ⟨c1, c2, c3, c4⟩ := c
    have hu' : c4 = false := hu
    subst hu'
    refine ⟨(⟨#[]⟩, [], false, false), Ev.congr (fun k => rfl) (Ev.bind hc (Ev.congr (f := fun k => spec_NamedMany.j0 k s rows c1 [] false c2 true) (fun k => ?_) (j0T _ _ _ _))), fun h => absurd h hsure, fun _ => rfl⟩
    cases c3 <;> rfl
/-- Where it is sure: the program's answer. -/
theorem many_law (kind : Int) (k0 : 0 ≤ kind) (k4 : kind ≤ 4) (s : ByteArray) (hs : s.size ≤ 4096) (rows : List (List S54)) (hrl : rows.length ≤ 64) (hrows : ∀ r ∈ rows, ArgsOk r) :
    impl_NamedManyOf.f kind s rows = some (match manyF 1 s rows with
      | some r => (reText kind r.1, r.2, true)
      | none => (⟨#[]⟩, [], false)) := by
  unfold impl_NamedManyOf.f
  rw [if_pos ⟨hs, k0, k4, hrl, List.all_eq_true.2 fun r hr => (argsB_iff r).2 (hrows r hr)⟩, manyF_kind]
  cases manyF 1 s rows <;> rfl
theorem many_deep {s : ByteArray} (hs : s.size ≤ 4096) {rows : List (List S54)} (hrl : rows.length ≤ 64) (hrows : ∀ r ∈ rows, ArgsOk r) {r : ByteArray × List S52} (h : manyF 1 s rows = some r) : ∀ x ∈ r.2, deep 2 x := fun x hx => right_deep ((manyF_good h hs hrl hrows).2 x hx).1
end Go.Proofs.YtnmhoghmhglimaaDoor.SN
