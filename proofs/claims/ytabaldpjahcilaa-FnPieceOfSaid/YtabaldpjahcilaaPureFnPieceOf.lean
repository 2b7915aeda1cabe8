/-
  PROVED: 'laws.FnPieceOf': a text with arguments, as a column, a table or a condition, is itself. No condition.
-/
import Derived.Test.YtabaldpjahcilaaHPiece
import Derived.Test.YtabaldpjahcilaaHSame
import Derived.Lib.Strings
import Derived.Handy
import Derived.Test.YtabaldpjahcilaaQP1
import Derived.Test.YtabaldpjahcilaaQP3
import Derived.Test.YtabaldpjahcilaaQP2
import Derived.Test.YtabaldpjahcilaaQP4
namespace Go.Proofs.Ytabaldpjahcilaa.Pure
open Go.RowKit Go.Proofs.Ytabaldpjahcilaa.QP Go.Proofs.Ytabaldpjahcilaa.H Go.Proofs.YtabaldpjahcilaaW.PrintWords Go.Proofs.YtabaldpjahcilaaW.PrintLast Go.Proofs.YtabaldpjahcilaaW.PrintMore
set_option linter.unusedVariables false
set_option linter.unusedSimpArgs false

theorem list_eq {a b : ByteArray} : a.toList = b.toList ↔ a = b := by
  rw [Lib.toList_data, Lib.toList_data, Array.toList_inj]
  exact ⟨fun h => ByteArray.ext h, fun h => by rw [h]⟩
theorem list_nil {a : ByteArray} (h : a.toList = ([] : List UInt8)) : a = ⟨#[]⟩ := by
  rw [Lib.toList_data] at h
  exact ByteArray.ext (Array.toList_inj.1 h)
theorem w64s (i : Nat) (h : i < 9223372036854775807) : wrap64 ((i : Int) + 1) = ((i + 1 : Nat) : Int) := by
  rw [IntWalk.wrap64_in _ (by omega)]
  omega
theorem rdV (l : List S30) (j : Nat) (h : j < l.length) : rd_T30 l (j : Int) = l[j] := by
  unfold rd_T30
  rw [Int.toNat_natCast, List.getD_eq_getElem?_getD, List.getElem?_eq_getElem h]
  rfl
theorem eta_val (x : S30) : (⟨x.f0, x.f1, x.f2, x.f3⟩ : S30) = x := by
  cases x
  rfl
theorem right_deep {x : S30} (h : rightR x) : deep 2 x := by
  rcases h with h | h
  · intro y hy
    rw [h.2.2.1] at hy
    cases hy
  · intro y hy z hz
    rw [(h.2.2.2 y hy).2.2.1] at hz
    cases hz
theorem len_nil {l : List S30} (h : ((l.length : Int) == 0) = true) : l = [] := by
  have h1 : (l.length : Int) = 0 := by simpa using h
  exact List.eq_nil_of_length_eq_zero (by omega)
theorem ar_zero (x : S30) (hk : x.f0 = 0 ∨ x.f0 = 3 ∨ x.f0 = 4) : ∃ b, Ev (fun k => spec_argumentRight.j0 k x.f0 true x.f0 x.f1 x.f2 x.f3) b ∧ (b = true → atomR x) := by
  by_cases h1 : x.f1 = 0
  · by_cases h2 : x.f2.toList = ([] : List UInt8)
    · refine ⟨((x.f3.length : Int) == 0), Ev.step (f := fun _ => some ((x.f3.length : Int) == 0)) (fun k => ?_) (Ev.now _), fun h => ⟨by omega, by omega, len_nil h, .inl h1, .inl (list_nil h2)⟩⟩
      simp only [spec_argumentRight.j0]
      rw [if_pos trivial, if_pos h1, if_pos h2]
    · refine ⟨false, Ev.step (f := fun _ => some false) (fun k => ?_) (Ev.now _), fun h => by cases h⟩
      simp only [spec_argumentRight.j0]
      rw [if_pos trivial, if_pos h1, if_neg h2]
  · refine ⟨false, Ev.step (f := fun _ => some false) (fun k => ?_) (Ev.now _), fun h => by cases h⟩
    simp only [spec_argumentRight.j0]
    rw [if_pos trivial, if_neg h1]
theorem ar_one (x : S30) (hk : x.f0 = 1) : ∃ b, Ev (fun k => spec_argumentRight.j0 k x.f0 false x.f0 x.f1 x.f2 x.f3) b ∧ (b = true → atomR x) := by
  by_cases h2 : x.f2.toList = ([] : List UInt8)
  · refine ⟨((x.f3.length : Int) == 0), Ev.step (f := fun _ => some ((x.f3.length : Int) == 0)) (fun k => ?_) (Ev.now _), fun h => ⟨by omega, by omega, len_nil h, .inr hk, .inl (list_nil h2)⟩⟩
    simp only [spec_argumentRight.j0]
    rw [if_neg (by decide), if_pos hk, if_pos h2]
  · refine ⟨false, Ev.step (f := fun _ => some false) (fun k => ?_) (Ev.now _), fun h => by cases h⟩
    simp only [spec_argumentRight.j0]
    rw [if_neg (by decide), if_pos hk, if_neg h2]
theorem ar_two (x : S30) (hk : x.f0 = 2) : ∃ b, Ev (fun k => spec_argumentRight.j0 k x.f0 false x.f0 x.f1 x.f2 x.f3) b ∧ (b = true → atomR x) := by
  by_cases h1 : x.f1 = 0
  · by_cases h3 : (x.f3.length : Int) = 0
    · refine ⟨decide ((x.f2.size : Int) ≤ 200), Ev.step (f := fun _ => some (decide ((x.f2.size : Int) ≤ 200))) (fun k => ?_) (Ev.now _), fun h => ⟨by omega, by omega, List.eq_nil_of_length_eq_zero (by omega), .inl h1, .inr hk⟩⟩
      simp only [spec_argumentRight.j0]
      rw [if_neg (by decide), if_neg (by omega), if_pos hk, if_pos h1, if_pos h3]
    · refine ⟨false, Ev.step (f := fun _ => some false) (fun k => ?_) (Ev.now _), fun h => by cases h⟩
      simp only [spec_argumentRight.j0]
      rw [if_neg (by decide), if_neg (by omega), if_pos hk, if_pos h1, if_neg h3]
  · refine ⟨false, Ev.step (f := fun _ => some false) (fun k => ?_) (Ev.now _), fun h => by cases h⟩
    simp only [spec_argumentRight.j0]
    rw [if_neg (by decide), if_neg (by omega), if_pos hk, if_neg h1]
theorem ar_else (x : S30) (h1 : x.f0 ≠ 1) (h2 : x.f0 ≠ 2) (h5 : x.f0 ≠ 5) : Ev (fun k => spec_argumentRight.j0 k x.f0 false x.f0 x.f1 x.f2 x.f3) false := by
  refine Ev.step (f := fun _ => some false) (fun k => ?_) (Ev.now _)
  simp only [spec_argumentRight.j0]
  rw [if_neg (by decide), if_neg h1, if_neg h2, if_neg h5]
theorem ar_f (x : S30) (h5 : x.f0 ≠ 5) : ∃ b, Ev (fun k => spec_argumentRight.f k x.f0 x.f1 x.f2 x.f3) b ∧ (b = true → atomR x) := by
  by_cases h0 : x.f0 = 0
  · obtain ⟨b, hE, hb⟩ := ar_zero x (.inl h0)
    refine ⟨b, Ev.step (fun k => ?_) hE, hb⟩
    simp only [spec_argumentRight.f]
    rw [if_pos h0, beq_iff_eq.2 h0]
  by_cases h3 : x.f0 = 3
  · obtain ⟨b, hE, hb⟩ := ar_zero x (.inr (.inl h3))
    refine ⟨b, Ev.step (fun k => ?_) hE, hb⟩
    simp only [spec_argumentRight.f]
    rw [if_neg h0, if_pos h3, beq_iff_eq.2 h3]
  by_cases h4 : x.f0 = 4
  · obtain ⟨b, hE, hb⟩ := ar_zero x (.inr (.inr h4))
    refine ⟨b, Ev.step (fun k => ?_) hE, hb⟩
    simp only [spec_argumentRight.f]
    rw [if_neg h0, if_neg h3, beq_iff_eq.2 h4]
  have hf : ∀ {b : Bool}, Ev (fun k => spec_argumentRight.j0 k x.f0 false x.f0 x.f1 x.f2 x.f3) b → Ev (fun k => spec_argumentRight.f k x.f0 x.f1 x.f2 x.f3) b := fun h => Ev.step (fun k => by
    simp only [spec_argumentRight.f]
    rw [if_neg h0, if_neg h3, beq_eq_false_iff_ne.2 h4]) h
  by_cases h1 : x.f0 = 1
  · obtain ⟨b, hE, hb⟩ := ar_one x h1
    exact ⟨b, hf hE, hb⟩
  by_cases h2 : x.f0 = 2
  · obtain ⟨b, hE, hb⟩ := ar_two x h2
    exact ⟨b, hf hE, hb⟩
  · exact ⟨false, hf (ar_else x h1 h2 h5), fun h => by cases h⟩
theorem word_l (s : ByteArray) (hs : s.size ≤ 2147483647) : ∀ (d i : Nat), s.size - i = d → i ≤ s.size → ∃ b, Ev (fun k => spec_WordRight.l0 k s i) b := by
  intro d
  induction d with
  | zero =>
    intro i hd hi
    have c1 : ¬ (i : Int) < (s.size : Int) := by omega
    by_cases h0 : (s.size : Int) > 0
    · have hw : wrap64 ((s.size : Int) - 1) = (s.size : Int) - 1 := IntWalk.wrap64_in _ (by omega)
      by_cases h200 : (s.size : Int) ≤ 200
      · by_cases h32 : bt s 0 = 32
        · refine ⟨false, Ev.step (f := fun _ => some false) (fun k => ?_) (Ev.now _)⟩
          simp only [spec_WordRight.l0]
          rw [if_neg c1, if_pos h0, if_pos h200, if_pos (by omega), if_pos h32]
        · refine ⟨_, Ev.step (f := fun _ => some (bt s ((s.size : Int) - 1) != 32)) (fun k => ?_) (Ev.now _)⟩
          simp only [spec_WordRight.l0]
          rw [if_neg c1, if_pos h0, if_pos h200, if_pos (by omega), if_neg h32, hw, if_pos (by omega), if_pos (by omega)]
      · refine ⟨false, Ev.step (f := fun _ => some false) (fun k => ?_) (Ev.now _)⟩
        simp only [spec_WordRight.l0]
        rw [if_neg c1, if_pos h0, if_neg h200]
    · refine ⟨false, Ev.step (f := fun _ => some false) (fun k => ?_) (Ev.now _)⟩
      simp only [spec_WordRight.l0]
      rw [if_neg c1, if_neg h0]
  | succ d ih =>
    intro i hd hi
    have c1 : (i : Int) < (s.size : Int) := by omega
    have c0 : (0 : Int) ≤ (i : Int) := by omega
    by_cases h1 : bt s (i : Int) < 32
    · refine ⟨false, Ev.step (f := fun _ => some false) (fun k => ?_) (Ev.now _)⟩
      simp only [spec_WordRight.l0]
      rw [if_pos c1, if_pos c0, if_pos h1]
    · by_cases h2 : bt s (i : Int) > 126
      · refine ⟨false, Ev.step (f := fun _ => some false) (fun k => ?_) (Ev.now _)⟩
        simp only [spec_WordRight.l0]
        rw [if_pos c1, if_pos c0, if_neg h1, if_pos h2]
      · obtain ⟨b, hE⟩ := ih (i + 1) (by omega) (by omega)
        refine ⟨b, Ev.step (fun k => ?_) hE⟩
        simp only [spec_WordRight.l0]
        rw [if_pos c1, if_pos c0, if_neg h1, if_neg h2, w64s i (by omega)]
theorem values_l (l : List S30) (hl : l.length ≤ 2147483647) (h5 : ∀ j, (h : j < l.length) → (l[j]'h).f0 ≠ 5) : ∀ (d i : Nat), l.length - i = d → i ≤ l.length → ∃ b, Ev (fun k => spec_valuesRight.l0 k l i) b ∧ (b = true → l.length ≤ 50 ∧ ∀ j, i ≤ j → (h : j < l.length) → atomR (l[j]'h)) := by
  intro d
  induction d with
  | zero =>
    intro i hd hi
    have c1 : ¬ (i : Int) < (l.length : Int) := by omega
    exact ⟨decide ((l.length : Int) ≤ 50), Ev.step (f := fun _ => some (decide ((l.length : Int) ≤ 50))) (fun k => by simp only [spec_valuesRight.l0]; rw [if_neg c1]) (Ev.now _), fun h => ⟨by have := of_decide_eq_true h; omega, fun j h1 h2 => by omega⟩⟩
  | succ d ih =>
    intro i hd hi
    have hlt : i < l.length := by omega
    have c1 : (i : Int) < (l.length : Int) := by omega
    have c0 : (0 : Int) ≤ (i : Int) := by omega
    have hr := rdV l i hlt
    obtain ⟨b, hE, hb⟩ := ar_f l[i] (h5 i hlt)
    obtain ⟨b2, hE2, hb2⟩ := ih (i + 1) (by omega) (by omega)
    have hstep : ∀ {r : Bool}, Ev (fun k => (spec_argumentRight.f k l[i].f0 l[i].f1 l[i].f2 l[i].f3).bind fun t106 => (if t106 = true then (spec_valuesRight.l0 k l ((i + 1 : Nat) : Int)) else (some false))) r → Ev (fun k => spec_valuesRight.l0 k l i) r := fun h => Ev.step (fun k => by
      simp only [spec_valuesRight.l0]
      rw [if_pos c1, if_pos c0, hr, w64s i (by omega)]) h
    cases b with
    | false => exact ⟨false, hstep (Ev.bind hE (Ev.congr (f := fun _ => some false) (fun k => by rw [if_neg (by decide)]) (Ev.now _))), fun h => by cases h⟩
    | true =>
      refine ⟨b2, hstep (Ev.bind hE (Ev.congr (fun k => by rw [if_pos rfl]) hE2)), fun h => ⟨(hb2 h).1, fun j h1 h2 => ?_⟩⟩
      rcases Nat.eq_or_lt_of_le h1 with h3 | h3
      · subst h3
        exact hb rfl
      · exact (hb2 h).2 j h3 h2
theorem plain_l (l : List S30) (hl : l.length ≤ 2147483647) : ∀ (d i : Nat), l.length - i = d → i ≤ l.length → (∀ j, j < i → (h : j < l.length) → (l[j]'h).f0 ≠ 5) → ∃ b, Ev (fun k => spec_PlainValues.l0 k l i) b ∧ (b = true → l.length ≤ 50 ∧ ∀ x ∈ l, atomR x) := by
  intro d
  induction d with
  | zero =>
    intro i hd hi h5
    have c1 : ¬ (i : Int) < (l.length : Int) := by omega
    obtain ⟨b, hE, hb⟩ := values_l l hl (fun j hj => h5 j (by omega) hj) l.length 0 (by omega) (by omega)
    refine ⟨b, Ev.step (f := fun k => (spec_valuesRight.f k l).bind fun t108 => (some t108)) (fun k => by simp only [spec_PlainValues.l0]; rw [if_neg c1]) (Ev.bind hE (Ev.now _)), fun h => ⟨(hb h).1, fun x hx => ?_⟩⟩
    obtain ⟨j, hj, rfl⟩ := List.mem_iff_getElem.1 hx
    exact (hb h).2 j (by omega) hj
  | succ d ih =>
    intro i hd hi h5
    have hlt : i < l.length := by omega
    have c1 : (i : Int) < (l.length : Int) := by omega
    have c0 : (0 : Int) ≤ (i : Int) := by omega
    have hr := rdV l i hlt
    by_cases h : l[i].f0 = 5
    · refine ⟨false, Ev.step (f := fun _ => some false) (fun k => ?_) (Ev.now _), fun h => by cases h⟩
      simp only [spec_PlainValues.l0]
      rw [if_pos c1, if_pos c0, hr, if_pos h]
    · obtain ⟨b, hE, hb⟩ := ih (i + 1) (by omega) (by omega) (fun j hj hlj => by
        rcases Nat.lt_succ_iff_lt_or_eq.1 hj with h1 | h1
        · exact h5 j h1 hlj
        · subst h1
          exact h)
      refine ⟨b, Ev.step (fun k => ?_) hE, hb⟩
      simp only [spec_PlainValues.l0]
      rw [if_pos c1, if_pos c0, hr, if_neg h, w64s i (by omega)]
theorem FnPieceOf (s : ByteArray) (l : List S30) : ∃ k, laws_FnPieceOf.f k s l = some true := by
  have j0T : Ev (fun k => laws_FnPieceOf.j0 k s l true) true := Ev.step (f := fun _ => some true) (fun k => by simp only [laws_FnPieceOf.j0]; rw [if_pos trivial]) (Ev.now _)
  have j1T : Ev (fun k => laws_FnPieceOf.j1 k s l true) true := Ev.step (f := fun _ => some true) (fun k => by simp only [laws_FnPieceOf.j1]; rw [if_pos trivial]) (Ev.now _)
  refine Ev.rounds (g := fun k => laws_FnPieceOf.f k s l) ?_
  by_cases h1 : (s.size : Int) > 2147483647
  · exact Ev.congr (fun k => by simp only [laws_FnPieceOf.f]; rw [if_pos h1]) j0T
  by_cases h2 : (l.length : Int) > 2147483647
  · exact Ev.congr (fun k => by simp only [laws_FnPieceOf.f]; rw [if_neg h1, decide_eq_true h2]) j0T
  refine Ev.congr (f := fun k => laws_FnPieceOf.j0 k s l false) (fun k => by simp only [laws_FnPieceOf.f]; rw [if_neg h1, decide_eq_false h2]) ?_
  obtain ⟨b, hW⟩ := word_l s (by omega) s.size 0 (by omega) (by omega)
  obtain ⟨b2, hP, hp⟩ := plain_l l (by omega) l.length 0 (by omega) (by omega) (fun j hj => by omega)
  have hW' : Ev (fun k => spec_WordRight.f k s) b := hW
  have hP' : Ev (fun k => spec_PlainValues.f k l) b2 := hP
  refine Ev.step (f := fun k => (spec_WordRight.f k s).bind fun t109 => (if t109 = true then ((spec_PlainValues.f k l).bind fun t110 => (laws_FnPieceOf.j1 k s l (!t110))) else (laws_FnPieceOf.j1 k s l true))) (fun k => ?_) (Ev.bind hW' ?_)
  · simp only [laws_FnPieceOf.j0]
    rw [if_neg (by decide)]
  cases b with
  | false => exact Ev.congr (fun k => by rw [if_neg (by decide)]) j1T
  | true =>
    refine Ev.congr (f := fun k => (spec_PlainValues.f k l).bind fun t110 => (laws_FnPieceOf.j1 k s l (!t110))) (fun k => by rw [if_pos rfl]) (Ev.bind hP' ?_)
    cases b2 with
    | false => exact j1T
    | true =>
      obtain ⟨hl, ha⟩ := hp rfl
      have e : pieceF s l = some (s, l, true) := by
        unfold pieceF
        rw [if_pos ⟨by omega, List.all_eq_true.2 (fun x hx => by
          rw [Bool.and_eq_true]
          exact ⟨(rightB_iff x).2 (.inl (ha x hx)), decide_eq_true (by rw [(ha x hx).2.2.1]; simp)⟩)⟩]
      have e1 : impl_PieceOf.f s l = some (s, l, true) := e
      have e2 : impl_WhereOf.f s l = some (s, l, true) := e
      have hd : ∀ x ∈ l, deep 2 x := fun x hx => right_deep (.inl (ha x hx))
      refine Ev.step (f := fun _ => some true) (fun k => ?_) (Ev.now _)
      simp only [laws_FnPieceOf.j1]
      rw [Bool.not_true, if_neg (by decide), e1, Option.bind_some, e2, Option.bind_some, if_pos rfl, if_pos rfl, if_pos rfl, if_pos rfl, equal_self l hd, Option.bind_some, if_pos rfl, Option.bind_some]
end Go.Proofs.Ytabaldpjahcilaa.Pure
