/-
  PLAIN: the reference's Closing, against the search of HFind, also in the text's tail.
-/
import Derived.Test.YtnmhoghmhglimaaDoorHFix
import Derived.Test.YtnmhoghmhglimaaDoorQB2
namespace Go.Proofs.YtnmhoghmhglimaaDoor.S
open Go.RowKit Go.Proofs.YtnmhoghmhglimaaDoor.QB Go.Proofs.YtnmhoghmhglimaaDoor.H Go.Proofs.YtnmhoghmhglimaaDoorW.PrintWords Go.Proofs.YtnmhoghmhglimaaDoorW.PrintLast Go.Proofs.YtnmhoghmhglimaaDoorW.PrintMore
set_option linter.unusedVariables false
set_option linter.unusedSimpArgs false

theorem cl_w64 (x : Int) (h : -1099511627776 ≤ x ∧ x ≤ 1099511627776) : wrap64 x = x := IntWalk.wrap64_in x (by omega)

/-- The reference's loop from place i on, c brackets open, against the search. -/
theorem closing_ev (s : ByteArray) (hs : s.size ≤ 1048576) : ∀ (d i : Nat) (c : Int), s.size - i = d → i ≤ s.size → -(i : Int) ≤ c → c ≤ i →
    ∃ r, Ev (fun k => spec_Closing.l0 k s c i) r ∧ (r = -1 ∧ findC s d i c = 0 ∨ (i : Int) ≤ r ∧ r < s.size ∧ findC s d i c = r) := by
  intro d
  induction d with
  | zero =>
    intro i c hd hi h1 h2
    refine ⟨-1, Ev.step (f := fun _ => some (-1)) (fun k => ?_) (Ev.now _), ?_⟩
    · simp only [spec_Closing.l0]
      rw [if_neg (by omega)]
    · simp [findC]
  | succ d ih =>
    intro i c hd hi h1 h2
    have hlt : i < s.size := by omega
    have hlt' : (i : Int) < (s.size : Int) := by omega
    have e1 : wrap64 ((i : Int) + 1) = ((i + 1 : Nat) : Int) := by rw [cl_w64 _ (by omega)]; omega
    have ep : wrap64 (c + 1) = c + 1 := cl_w64 _ (by omega)
    have em : wrap64 (c - 1) = c - 1 := cl_w64 _ (by omega)
    have hstep : ∀ k, spec_Closing.l0 (k + 1) s c i = if (bt s i) = 40 then (spec_Closing.l0 k s (c + 1) ((i + 1 : Nat) : Int)) else (if (bt s i) = 41 then (if (c - 1) = 0 then (some (i : Int)) else (spec_Closing.l0 k s (c - 1) ((i + 1 : Nat) : Int))) else (spec_Closing.l0 k s c ((i + 1 : Nat) : Int))) := by
      intro k
      simp only [spec_Closing.l0]
      rw [if_pos hlt', if_pos (by omega), e1, ep, em]
    rw [findC, if_pos hlt]
    by_cases h40 : bt s i = 40
    · obtain ⟨r, hr, he⟩ := ih (i + 1) (c + 1) (by omega) (by omega) (by omega) (by omega)
      exact ⟨r, Ev.step (fun k => by rw [hstep, if_pos h40]) hr, by rw [if_pos h40]; omega⟩
    · by_cases h41 : bt s i = 41
      · by_cases hz : c - 1 = 0
        · exact ⟨i, Ev.step (f := fun _ => some (i : Int)) (fun k => by rw [hstep, if_neg h40, if_pos h41, if_pos hz]) (Ev.now _), by rw [if_neg h40, if_pos h41, if_pos hz]; omega⟩
        · obtain ⟨r, hr, he⟩ := ih (i + 1) (c - 1) (by omega) (by omega) (by omega) (by omega)
          exact ⟨r, Ev.step (fun k => by rw [hstep, if_neg h40, if_pos h41, if_neg hz]) hr, by rw [if_neg h40, if_pos h41, if_neg hz]; omega⟩
      · obtain ⟨r, hr, he⟩ := ih (i + 1) c (by omega) (by omega) (by omega) (by omega)
        exact ⟨r, Ev.step (fun k => by rw [hstep, if_neg h40, if_neg h41]) hr, by rw [if_neg h40, if_neg h41]; omega⟩


theorem bt_tail (s : ByteArray) (y j : Nat) (h : y + j < s.size) : bt (tailOf s y) (j : Int) = bt s ((y + j : Nat) : Int) := by
  have hj : j < (tailOf s y).size := by rw [tail_size s y (by omega)]; omega
  rw [bt_nat (tailOf s y) j hj, bt_nat s (y + j) h]
  congr 2
  simp [tailOf, ByteArray.getElem_extract]
/-- The search in the tail: from place j on (behind its first sign). -/
theorem findC_tail (s : ByteArray) (y : Nat) (hy : y ≤ s.size) : ∀ (d j : Nat) (c : Int), 1 ≤ j → j + d = s.size - y → findC s d (y + j) c = (if findC (tailOf s y) d j c = 0 then 0 else y + findC (tailOf s y) d j c) ∧ (findC (tailOf s y) d j c = 0 ∨ 1 ≤ findC (tailOf s y) d j c)
  | 0, j, c, hj, hd => by simp [findC]
  | d + 1, j, c, hj, hd => by
    have hts := tail_size s y hy
    have h1 : y + j < s.size := by omega
    have h2 : j < (tailOf s y).size := by omega
    have hb := bt_tail s y j h1
    have ih := fun c => findC_tail s y hy d (j + 1) c (by omega) (by omega)
    have e : y + j + 1 = y + (j + 1) := by omega
    rw [findC, findC, if_pos h1, if_pos h2, hb, e]
    by_cases h40 : bt s ((y + j : Nat) : Int) = 40
    · rw [if_pos h40, if_pos h40]; exact ih (c + 1)
    · rw [if_neg h40, if_neg h40]
      by_cases h41 : bt s ((y + j : Nat) : Int) = 41
      · rw [if_pos h41, if_pos h41]
        by_cases hz : c - 1 = 0
        · rw [if_pos hz, if_pos hz, if_neg (by omega)]; omega
        · rw [if_neg hz, if_neg hz]; exact ih (c - 1)
      · rw [if_neg h41, if_neg h41]; exact ih c
/-- Where the bracket at y closes: nowhere, for both; or behind y, at the same place. -/
theorem closing_is (s : ByteArray) (hs : s.size ≤ 1048576) (y : Nat) (hy1 : 1 ≤ y) (hy : y < s.size) (h40 : bt s (y : Int) = 40) :
    Ev (fun k => spec_Closing.f k s (y : Int)) (-1) ∧ idxOf s y = 0 ∨ (1 ≤ idxOf s y ∧ y + idxOf s y < s.size ∧ Ev (fun k => spec_Closing.f k s (y : Int)) (y + idxOf s y)) := by
  obtain ⟨r, hr, he⟩ := closing_ev s hs (s.size - y) y 0 rfl (by omega) (by omega) (by omega)
  have hts := tail_size s y (by omega)
  obtain ⟨d, hd⟩ : ∃ d, s.size - y = d + 1 := ⟨s.size - y - 1, by omega⟩
  have hb := bt_tail s y 0 (by omega)
  rw [Nat.add_zero] at hb
  have hi : idxOf s y = findC (tailOf s y) d 1 1 := by
    unfold idxOf
    rw [hts, hd, findC, if_pos (by omega), hb, if_pos h40]
    rfl
  have hf : findC s (s.size - y) y 0 = findC s d (y + 1) 1 := by
    rw [hd, findC, if_pos hy, if_pos h40]
    rfl
  obtain ⟨t1, t2⟩ := findC_tail s y (by omega) d 1 1 (by omega) (by omega)
  rw [hf, t1, ← hi] at he
  rw [← hi] at t2
  rcases t2 with h0 | h1
  · rw [if_pos h0] at he
    have : r = -1 := by omega
    subst this
    exact .inl ⟨hr, h0⟩
  · rw [if_neg (by omega)] at he
    have : r = y + idxOf s y := by omega
    subst this
    exact .inr ⟨h1, by omega, hr⟩
end Go.Proofs.YtnmhoghmhglimaaDoor.S
