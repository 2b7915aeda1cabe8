/-
  PLAIN: the reference's spaces, isWord, LongS, ValuesAt and Ahead, against the words of HWords and HValues (texts of at most 1000 bytes).
-/
import Derived.Test.YtnmhoghmhglimaaDoorHValues
import Derived.Test.YtnmhoghmhglimaaDoorQB2
import Derived.Test.YtnmhoghmhglimaaDoorQB3
import Derived.Test.YtnmhoghmhglimaaDoorQB1
namespace Go.Proofs.YtnmhoghmhglimaaDoor.S
open Go.RowKit Go.Proofs.YtnmhoghmhglimaaDoorW.PrintWords Go.Proofs.YtnmhoghmhglimaaDoorW.PrintLast Go.Proofs.YtnmhoghmhglimaaDoorW.PrintMore Go.Proofs.YtnmhoghmhglimaaDoor.QB Go.Proofs.YtnmhoghmhglimaaDoor.H
set_option linter.unusedVariables false
set_option linter.unusedSimpArgs false

theorem isSpace_is (b : Int) : spec_isSpace.f b = some (isSp b) := by
  unfold spec_isSpace.f isSp
  by_cases a1 : b = 32
  · rw [if_pos a1]; simp [a1]
  by_cases a2 : b = 9
  · rw [if_neg a1, if_pos a2]; simp [a2]
  by_cases a3 : b = 10
  · rw [if_neg a1, if_neg a2, if_pos a3]; simp [a3]
  by_cases a4 : b = 13
  · rw [if_neg a1, if_neg a2, if_neg a3, if_pos a4]; simp [a4]
  · rw [if_neg a1, if_neg a2, if_neg a3, if_neg a4]
    by_cases a5 : b = 12 <;> simp [a1, a2, a3, a4, a5]
theorem spaces_ev (s : ByteArray) (hs : s.size ≤ 1048576) : ∀ (d i : Nat), s.size - i = d → i ≤ 2 * 1048576 → Ev (fun k => spec_spaces.l0 k s i) ((spN s d i : Nat) : Int) := by
  intro d
  induction d with
  | zero =>
    intro i hd hi
    exact Ev.step (f := fun _ => some (i : Int)) (fun k => by simp only [spec_spaces.l0]; rw [if_neg (by omega)]) (Ev.now _)
  | succ d ih =>
    intro i hd hi
    have h1 : (i : Int) < (s.size : Int) := by omega
    have e1 : wrap64 ((i : Int) + 1) = ((i + 1 : Nat) : Int) := by rw [w64 _ (by omega)]; omega
    have hstep : ∀ k, spec_spaces.l0 (k + 1) s i = if isSp (bt s i) = true then spec_spaces.l0 k s ((i + 1 : Nat) : Int) else some (i : Int) := by
      intro k
      simp only [spec_spaces.l0]
      rw [if_pos h1, if_pos (by omega), e1, isSpace_is]
      rfl
    rw [spN, if_pos (by omega)]
    by_cases hb : isSp (bt s i) = true
    · rw [if_pos hb]
      exact Ev.step (fun k => by rw [hstep, if_pos hb]) (ih (i + 1) (by omega) (by omega))
    · rw [if_neg hb]
      exact Ev.step (f := fun _ => some (i : Int)) (fun k => by rw [hstep, if_neg hb]) (Ev.now _)
theorem spaces_is (s : ByteArray) (hs : s.size ≤ 1048576) (i : Nat) (hi : i ≤ 2 * 1048576) : Ev (fun k => spec_spaces.f k s i) ((spc s i : Nat) : Int) := spaces_ev s hs _ i rfl hi

/-- No long s. -/
def NoLong (s : ByteArray) : Prop := ∀ i : Nat, i + 1 < s.size → bt s i = 197 → bt s ((i + 1 : Nat) : Int) ≠ 191
theorem long_ev (s : ByteArray) (hs : s.size ≤ 1048576) : ∀ (d i : Nat), s.size - i = d → i ≤ 2 * 1048576 → ∃ b, Ev (fun k => spec_LongS.l0 k s i) b ∧ (b = false → ∀ j : Nat, i ≤ j → j + 1 < s.size → bt s j = 197 → bt s ((j + 1 : Nat) : Int) ≠ 191) ∧
    (b = true → ∃ j : Nat, i ≤ j ∧ j + 1 < s.size ∧ bt s j = 197 ∧ bt s ((j + 1 : Nat) : Int) = 191) := by
  intro d
  induction d with
  | zero =>
    intro i hd hi
    have e1 : wrap64 ((i : Int) + 1) = ((i + 1 : Nat) : Int) := by rw [w64 _ (by omega)]; omega
    exact ⟨false, Ev.step (f := fun _ => some false) (fun k => by simp only [spec_LongS.l0]; rw [e1, if_neg (by omega)]) (Ev.now _), fun _ j h1 h2 => by omega, fun h => by cases h⟩
  | succ d ih =>
    intro i hd hi
    have e1 : wrap64 ((i : Int) + 1) = ((i + 1 : Nat) : Int) := by rw [w64 _ (by omega)]; omega
    by_cases hl : i + 1 < s.size
    · have hstep : ∀ k, spec_LongS.l0 (k + 1) s i = if bt s i = 197 then (if bt s ((i + 1 : Nat) : Int) = 191 then some true else spec_LongS.l0 k s ((i + 1 : Nat) : Int)) else spec_LongS.l0 k s ((i + 1 : Nat) : Int) := by
        intro k
        simp only [spec_LongS.l0]
        rw [e1, if_pos (by omega), if_pos (by omega), if_pos (by omega), if_pos (show (0 : Int) ≤ ((i + 1 : Nat) : Int) by omega)]
      obtain ⟨b, hb, hf, ht⟩ := ih (i + 1) (by omega) (by omega)
      by_cases h1 : bt s i = 197
      · by_cases h2 : bt s ((i + 1 : Nat) : Int) = 191
        · exact ⟨true, Ev.step (f := fun _ => some true) (fun k => by rw [hstep, if_pos h1, if_pos h2]) (Ev.now _), (fun h => by cases h), fun _ => ⟨i, Nat.le_refl _, hl, h1, h2⟩⟩
        · refine ⟨b, Ev.step (fun k => by rw [hstep, if_pos h1, if_neg h2]) hb, fun h j hj h3 h4 => ?_, fun h => ?_⟩
          · rcases Nat.lt_or_ge i j with hj' | hj'
            · exact hf h j hj' h3 h4
            · obtain rfl : j = i := by omega
              exact h2
          · obtain ⟨j, a, b, c⟩ := ht h
            exact ⟨j, by omega, b, c⟩
      · refine ⟨b, Ev.step (fun k => by rw [hstep, if_neg h1]) hb, fun h j hj h3 h4 => ?_, fun h => ?_⟩
        · rcases Nat.lt_or_ge i j with hj' | hj'
          · exact hf h j hj' h3 h4
          · obtain rfl : j = i := by omega
            exact absurd h4 h1
        · obtain ⟨j, a, b, c⟩ := ht h
          exact ⟨j, by omega, b, c⟩
    · exact ⟨false, Ev.step (f := fun _ => some false) (fun k => by simp only [spec_LongS.l0]; rw [e1, if_neg (by omega)]) (Ev.now _), fun _ j h1 h2 => by omega, fun h => by cases h⟩
theorem long_is (s : ByteArray) (hs : s.size ≤ 1048576) : ∃ b, Ev (fun k => spec_LongS.f k s) b ∧ (b = false → NoLong s) ∧ (b = true → ¬ NoLong s) := by
  obtain ⟨b, hb, hf, ht⟩ := long_ev s hs s.size 0 (by omega) (by omega)
  refine ⟨b, hb, fun h i h1 h2 => hf h i (by omega) h1 h2, fun h hn => ?_⟩
  obtain ⟨j, _, h1, h2, h3⟩ := ht h
  exact hn j h1 h2 h3

/-- Letters in any case from place p on. -/
def isW (s : ByteArray) : List Int → Nat → Bool
  | [], _ => true
  | c :: cs, p => decide (bt s p = c ∨ bt s p = c - 32) && isW s cs (p + 1)
theorem foldN_no (s : ByteArray) (hn : NoLong s) (p : Nat) (c : Int) : foldN s p c = if p < s.size ∧ (bt s p = c ∨ bt s p = c - 32) then 1 else 0 := by
  unfold foldN
  split
  · rfl
  · rw [if_neg]
    rintro ⟨_, h1, h2, h3⟩
    exact hn p h1 h2 h3
theorem wordN_no (s : ByteArray) (hn : NoLong s) : ∀ (cs : List Int) (p : Nat), p ≤ s.size → wordN s cs p = if p + cs.length ≤ s.size ∧ isW s cs p = true then some (p + cs.length) else none
  | [], p, hp => by simp [wordN, isW, hp]
  | c :: cs, p, hp => by
    rw [wordN, foldN_no s hn]
    by_cases h : p < s.size ∧ (bt s p = c ∨ bt s p = c - 32)
    · rw [if_pos h, if_neg (by omega), wordN_no s hn cs (p + 1) (by omega)]
      have e : p + 1 + cs.length = p + (c :: cs).length := by simp; omega
      have ei : isW s (c :: cs) p = isW s cs (p + 1) := by simp [isW, h.2]
      rw [e, ei]
    · rw [if_neg h, if_pos rfl, if_neg]
      rintro ⟨h1, h2⟩
      simp [isW] at h2
      exact h ⟨by simp at h1; omega, h2.1⟩
def VT : ByteArray := ⟨#[86, 65, 76, 85, 69, 83]⟩
theorem letterU (j : Nat) (h : j < 6) : ∃ c : Int, 97 ≤ c ∧ c ≤ 122 ∧ bt VT (j : Int) = c - 32 ∧ word_values.drop j = c :: word_values.drop (j + 1) := by
  have : j = 0 ∨ j = 1 ∨ j = 2 ∨ j = 3 ∨ j = 4 ∨ j = 5 := by omega
  rcases this with rfl | rfl | rfl | rfl | rfl | rfl
  · exact ⟨118, by omega, by omega, rfl, rfl⟩
  · exact ⟨97, by omega, by omega, rfl, rfl⟩
  · exact ⟨108, by omega, by omega, rfl, rfl⟩
  · exact ⟨117, by omega, by omega, rfl, rfl⟩
  · exact ⟨101, by omega, by omega, rfl, rfl⟩
  · exact ⟨115, by omega, by omega, rfl, rfl⟩
theorem isWord_ev (s : ByteArray) (p : Nat) (hp : p + 6 ≤ s.size) (hs : s.size ≤ 1048576) : ∀ (d j : Nat), j + d = 6 → Ev (fun k => spec_isWord.l0 k s p VT j) (isW s (word_values.drop j) (p + j)) := by
  have hz : (VT.size : Int) = 6 := rfl
  intro d
  induction d with
  | zero =>
    intro j hd
    obtain rfl : j = 6 := by omega
    exact Ev.step (f := fun _ => some true) (fun k => by simp only [spec_isWord.l0]; rw [hz, if_neg (by omega)]) (Ev.now _)
  | succ d ih =>
    intro j hd
    obtain ⟨c, hc1, hc2, hbt, hdr⟩ := letterU j (by omega)
    have e1 : wrap64 ((j : Int) + 1) = ((j + 1 : Nat) : Int) := by rw [w64 _ (by omega)]; omega
    have e2 : wrap64 ((p : Int) + (j : Int)) = ((p + j : Nat) : Int) := by rw [w64 _ (by omega)]; omega
    have em : (((c - 32) + 97) % 256 - 65) % 256 = c := by omega
    have hstep : ∀ k, spec_isWord.l0 (k + 1) s p VT j = if bt s ((p + j : Nat) : Int) = c - 32 then spec_isWord.l0 k s p VT ((j + 1 : Nat) : Int) else if bt s ((p + j : Nat) : Int) = c then spec_isWord.l0 k s p VT ((j + 1 : Nat) : Int) else some false := by
      intro k
      simp only [spec_isWord.l0]
      rw [hz, if_pos (by omega), e2, if_pos (by omega), if_pos (by omega), if_pos (by omega), e1, hbt, em]
    have hih := ih (j + 1) (by omega)
    rw [hdr, isW]
    by_cases h1 : bt s ((p + j : Nat) : Int) = c - 32
    · have e : (decide (bt s ((p + j : Nat) : Int) = c ∨ bt s ((p + j : Nat) : Int) = c - 32) && isW s (word_values.drop (j + 1)) (p + j + 1)) = isW s (word_values.drop (j + 1)) (p + (j + 1)) := by rw [decide_eq_true (.inr h1)]; rfl
      rw [e]
      exact Ev.step (fun k => by rw [hstep, if_pos h1]) hih
    · by_cases h2 : bt s ((p + j : Nat) : Int) = c
      · have e : (decide (bt s ((p + j : Nat) : Int) = c ∨ bt s ((p + j : Nat) : Int) = c - 32) && isW s (word_values.drop (j + 1)) (p + j + 1)) = isW s (word_values.drop (j + 1)) (p + (j + 1)) := by rw [decide_eq_true (.inl h2)]; rfl
        rw [e]
        exact Ev.step (fun k => by rw [hstep, if_neg h1, if_pos h2]) hih
      · have e : (decide (bt s ((p + j : Nat) : Int) = c ∨ bt s ((p + j : Nat) : Int) = c - 32) && isW s (word_values.drop (j + 1)) (p + j + 1)) = false := by rw [decide_eq_false (fun h => h.elim h2 h1)]; rfl
        rw [e]
        exact Ev.step (f := fun _ => some false) (fun k => by rw [hstep, if_neg h1, if_neg h2]) (Ev.now _)
theorem isWord_is (s : ByteArray) (p : Nat) (hp : p ≤ s.size) (hs : s.size ≤ 1048576) : Ev (fun k => spec_isWord.f k s p VT) (decide (p + 6 ≤ s.size) && isW s word_values p) := by
  have hz : (VT.size : Int) = 6 := rfl
  have e2 : wrap64 ((p : Int) + 6) = ((p + 6 : Nat) : Int) := by rw [w64 _ (by omega)]; omega
  by_cases h : p + 6 ≤ s.size
  · have := isWord_ev s p h hs 6 0 rfl
    simp only [h, decide_true, Bool.true_and]
    exact Ev.congr (fun k => by simp only [spec_isWord.f]; rw [hz, e2, if_neg (by omega)]; rfl) this
  · simp only [h, decide_false, Bool.false_and]
    exact Ev.congr (f := fun _ => some false) (fun k => by simp only [spec_isWord.f]; rw [hz, e2, if_pos (by omega)]) (Ev.now _)

def atOf : List Int → Int
  | [_, t] => t - 1
  | _ => -1
/-- The reference's search from place i on. -/
theorem valuesAt_ev (s : ByteArray) (hs : s.size ≤ 1048576) (hn : NoLong s) : ∀ (d i : Nat), s.size - i = d → i ≤ s.size → Ev (fun k => spec_ValuesAt.l0 k s i) (atOf (valN s d i)) := by
  intro d
  induction d with
  | zero =>
    intro i hd hi
    exact Ev.step (f := fun _ => some (-1)) (fun k => by simp only [spec_ValuesAt.l0]; rw [if_neg (by omega)]) (Ev.now _)
  | succ d ih =>
    intro i hd hi
    have e1 : wrap64 ((i : Int) + 1) = ((i + 1 : Nat) : Int) := by rw [w64 _ (by omega)]; omega
    have hih := ih (i + 1) (by omega) (by omega)
    rw [valN]
    by_cases hb : bt s i = 41
    · rw [if_pos hb]
      have hstep : ∀ k, spec_ValuesAt.l0 (k + 1) s i = (spec_spaces.f k s ((i + 1 : Nat) : Int)).bind fun t115 => ((spec_isWord.f k s t115 VT).bind fun t116 => (if t116 = true then ((spec_spaces.f k s (wrap64 (t115 + 6))).bind fun t117 => (if t117 < (s.size : Int) then (if 0 ≤ t117 then (if (bt s t117) = 40 then (some t117) else (spec_ValuesAt.l0 k s ((i + 1 : Nat) : Int))) else (none)) else (spec_ValuesAt.l0 k s ((i + 1 : Nat) : Int)))) else (spec_ValuesAt.l0 k s ((i + 1 : Nat) : Int)))) := by
        intro k
        simp only [spec_ValuesAt.l0]
        rw [if_pos (by omega), if_pos (by omega), if_pos hb, e1]
        rfl
      refine Ev.step hstep ?_
      have hp := (spc_le s (i + 1)).2 (by omega)
      refine Ev.bind (spaces_is s hs (i + 1) (by omega)) ?_
      generalize spc s (i + 1) = p at hp ⊢
      refine Ev.bind (isWord_is s p hp hs) ?_
      rw [wordN_no s hn word_values p hp]
      have hl : word_values.length = 6 := rfl
      rw [hl]
      by_cases hw : p + 6 ≤ s.size ∧ isW s word_values p = true
      · rw [if_pos hw]
        dsimp only
        have eb : (decide (p + 6 ≤ s.size) && isW s word_values p) = true := by simp [hw.1, hw.2]
        rw [eb]
        have e2 : wrap64 ((p : Int) + 6) = ((p + 6 : Nat) : Int) := by rw [w64 _ (by omega)]; omega
        refine Ev.congr (fun k => by rw [if_pos rfl, e2]) (Ev.bind (spaces_is s hs (p + 6) (by omega)) ?_)
        have hq := spc_le s (p + 6)
        generalize spc s (p + 6) = q at hq ⊢
        by_cases h1 : ((q : Nat) : Int) < (s.size : Int)
        · by_cases h2 : bt s ((q : Nat) : Int) = 40
          · rw [if_pos ⟨h1, h2⟩]
            exact Ev.congr (f := fun _ => some ((q : Nat) : Int)) (fun k => by rw [if_pos h1, if_pos (by omega), if_pos h2]) (by
              have e : atOf [(i : Int), ((q : Nat) : Int) + 1] = ((q : Nat) : Int) := by simp [atOf]
              rw [e]
              exact Ev.now _)
          · rw [if_neg (fun h => h2 h.2)]
            exact Ev.congr (fun k => by rw [if_pos h1, if_pos (by omega), if_neg h2]) hih
        · rw [if_neg (fun h => h1 h.1)]
          exact Ev.congr (fun k => by rw [if_neg h1]) hih
      · rw [if_neg hw]
        have eb : (decide (p + 6 ≤ s.size) && isW s word_values p) = false := by
          rw [Bool.and_eq_false_iff]
          by_cases h : p + 6 ≤ s.size
          · exact .inr (by simpa using fun h' => hw ⟨h, h'⟩)
          · exact .inl (by simp [h])
        rw [eb]
        exact Ev.congr (fun k => by rw [if_neg (by simp)]) hih
    · rw [if_neg hb]
      exact Ev.step (fun k => by simp only [spec_ValuesAt.l0]; rw [if_pos (by omega), if_pos (by omega), if_neg hb, e1]) hih
theorem valuesAt_is (s : ByteArray) (hs : s.size ≤ 1048576) (hn : NoLong s) : Ev (fun k => spec_ValuesAt.f k s) (atOf (valN s s.size 0)) := valuesAt_ev s hs hn s.size 0 (by omega) (by omega)

/-- What is found: nothing; or a closing bracket at a, an opening one at y, behind which, and ahead of y, no closing one stands. -/
theorem spN_sp (s : ByteArray) : ∀ (f i j : Nat), i ≤ j → j < spN s f i → bt s j ≠ 41
  | 0, i, j, h1, h2 => by simp [spN] at h2; omega
  | f + 1, i, j, h1, h2 => by
    rw [spN] at h2
    split at h2
    · split at h2
      · rename_i hb
        rcases Nat.lt_or_ge i j with h | h
        · exact spN_sp s f (i + 1) j h h2
        · obtain rfl : j = i := by omega
          intro h41
          rw [h41] at hb
          simp [isSp] at hb
      · omega
    · omega
theorem isW_no (s : ByteArray) : ∀ (cs : List Int) (p j : Nat), (∀ c ∈ cs, 97 ≤ c ∧ c ≤ 122) → isW s cs p = true → p ≤ j → j < p + cs.length → bt s j ≠ 41
  | [], p, j, _, _, h1, h2 => by simp at h2; omega
  | c :: cs, p, j, hc, h, h1, h2 => by
    simp only [isW, Bool.and_eq_true, decide_eq_true_eq] at h
    rcases Nat.lt_or_ge p j with hj | hj
    · exact isW_no s cs (p + 1) j (fun c' h' => hc c' (List.mem_cons_of_mem _ h')) h.2 hj (by simp at h2; omega)
    · obtain rfl : j = p := by omega
      have := hc c List.mem_cons_self
      omega
theorem valN_found (s : ByteArray) (hn : NoLong s) : ∀ (d i : Nat), s.size - i = d → i ≤ s.size → valN s d i = [] ∨ ∃ a y : Nat, valN s d i = [(a : Int), (y : Int) + 1] ∧ i ≤ a ∧ a < y ∧ y < s.size ∧ bt s a = 41 ∧ bt s y = 40 ∧ ∀ j : Nat, a < j → j ≤ y → bt s j ≠ 41 := by
  intro d
  induction d with
  | zero => intro i _ _; exact .inl rfl
  | succ d ih =>
    intro i hd hi
    have hih := ih (i + 1) (by omega) (by omega)
    have up : valN s d (i + 1) = [] ∨ ∃ a y : Nat, valN s d (i + 1) = [(a : Int), (y : Int) + 1] ∧ i ≤ a ∧ a < y ∧ y < s.size ∧ bt s a = 41 ∧ bt s y = 40 ∧ ∀ j : Nat, a < j → j ≤ y → bt s j ≠ 41 := by
      rcases hih with h | ⟨a, y, h1, h2, h3⟩
      · exact .inl h
      · exact .inr ⟨a, y, h1, by omega, h3⟩
    rw [valN]
    by_cases hb : bt s i = 41
    · rw [if_pos hb]
      have hp0 := spc_le s (i + 1)
      have hp := hp0.2 (by omega)
      have hsp : ∀ j, i + 1 ≤ j → j < spc s (i + 1) → bt s j ≠ 41 := fun j h1 h2 => spN_sp s _ (i + 1) j h1 h2
      generalize spc s (i + 1) = p at hp hp0 hsp ⊢
      rw [wordN_no s hn word_values p hp]
      have hl : word_values.length = 6 := rfl
      rw [hl]
      by_cases hw : p + 6 ≤ s.size ∧ isW s word_values p = true
      · rw [if_pos hw]
        dsimp only
        have hq := spc_le s (p + 6)
        have hsq : ∀ j, p + 6 ≤ j → j < spc s (p + 6) → bt s j ≠ 41 := fun j h1 h2 => spN_sp s _ (p + 6) j h1 h2
        generalize spc s (p + 6) = q at hq hsq ⊢
        by_cases h1 : ((q : Nat) : Int) < (s.size : Int) ∧ bt s ((q : Nat) : Int) = 40
        · rw [if_pos h1]
          refine .inr ⟨i, q, rfl, Nat.le_refl _, by omega, by omega, hb, h1.2, fun j hj1 hj2 => ?_⟩
          rcases Nat.lt_or_ge j p with h | h
          · exact hsp j (by omega) h
          · rcases Nat.lt_or_ge j (p + 6) with h' | h'
            · exact isW_no s word_values p j (by decide) hw.2 h (by rw [hl]; exact h')
            · rcases Nat.lt_or_ge j q with h'' | h''
              · exact hsq j h' h''
              · obtain rfl : j = q := by omega
                rw [h1.2]
                omega
        · rw [if_neg h1]
          exact up
      · rw [if_neg hw]
        exact up
    · rw [if_neg hb]
      exact up
end Go.Proofs.YtnmhoghmhglimaaDoor.S
