/-
  PROVED: 'laws.FnCompiledAgain': compiled with names for placeholders a text is itself, and so again. No condition.
-/
import Derived.Test.YtnmhoghmhglimaaDoorSLaw
import Derived.Test.YtnmhoghmhglimaaDoorQC6
namespace Go.Proofs.YtnmhoghmhglimaaDoor.Pure
open Go.RowKit Go.Proofs.YtnmhoghmhglimaaDoor.QC Go.Proofs.YtnmhoghmhglimaaDoor.H Go.Proofs.YtnmhoghmhglimaaDoor.SC Go.Proofs.YtnmhoghmhglimaaDoorW.PrintWords Go.Proofs.YtnmhoghmhglimaaDoorW.PrintLast Go.Proofs.YtnmhoghmhglimaaDoorW.PrintMore

theorem again_two (s : ByteArray) (hs : s.size ≤ 1000) : ∀ (d i : Nat), s.size - i = d → one58 (s.data.toList.drop i) = false → Ev (fun k => laws_FnCompiledAgain.l0 k s (i : Int)) true := by
  intro d
  induction d with
  | zero =>
    intro i hd h
    rw [drop_end s i (by omega)] at h
    cases h
  | succ d ih =>
    intro i hd h
    have hlt : i < s.size := by omega
    by_cases hl : i + 1 < s.size
    · have e1 : wrap64 ((i : Int) + 1) = ((i + 1 : Nat) : Int) := w64n i 1 (i + 1) (by omega) (by omega)
      have c0 : (0 : Int) ≤ (i : Int) := by omega
      have c1 : (i : Int) < (s.size : Int) := by omega
      have c2 : (0 : Int) ≤ ((i + 1 : Nat) : Int) := by omega
      have c3 : ((i + 1 : Nat) : Int) < (s.size : Int) := by omega
      have hih := ih (i + 1) (by omega)
      have hb := bt_n s i hlt
      have hb1 := bt_n s (i + 1) hl
      rw [drop_cons s i hlt, drop_cons s (i + 1) hl, one58] at h
      by_cases h58 : s[i]'hlt = 58
      · by_cases h59 : s[i + 1]'hl = 58
        · refine Ev.step (f := fun _ => some true) (fun k => ?_) (Ev.now _)
          simp only [laws_FnCompiledAgain.l0]
          rw [e1, if_pos c3, if_pos c0, if_pos c1, hb, if_pos ((byte_eq (c := 58) (k := 58) rfl).2 h58), if_pos c2, hb1, if_pos ((byte_eq (c := 58) (k := 58) rfl).2 h59)]
        · have e : (s[i + 1]'hl == 58) = false := beq_eq_false_iff_ne.2 h59
          rw [e, Bool.and_false, Bool.not_false, Bool.true_and, ← drop_cons s (i + 1) hl] at h
          refine Ev.step (fun k => ?_) (hih h)
          simp only [laws_FnCompiledAgain.l0]
          rw [e1, if_pos c3, if_pos c0, if_pos c1, hb, if_pos ((byte_eq (c := 58) (k := 58) rfl).2 h58), if_pos c2, hb1, if_neg (fun h => h59 ((byte_eq (c := 58) (k := 58) rfl).1 h))]
      · have e : (s[i]'hlt == 58) = false := beq_eq_false_iff_ne.2 h58
        rw [e, Bool.false_and, Bool.not_false, Bool.true_and, ← drop_cons s (i + 1) hl] at h
        refine Ev.step (fun k => ?_) (hih h)
        simp only [laws_FnCompiledAgain.l0]
        rw [e1, if_pos c3, if_pos c0, if_pos c1, hb, if_neg (fun h => h58 ((byte_eq (c := 58) (k := 58) rfl).1 h))]
    · rw [drop_cons s i hlt, drop_end s (i + 1) (by omega)] at h
      cases h
theorem again_one (s : ByteArray) (hs : s.size ≤ 1000) (hend : Ev (fun k => (spec_Compiled.f k 3 s).bind fun bt => (if bt.2.2.2 = true then (laws_FnCompiledAgain.j1 k s (!bt.2.2.1)) else (laws_FnCompiledAgain.j1 k s true))) true) :
    ∀ (d i : Nat), s.size - i = d → i ≤ s.size → one58 (s.data.toList.drop i) = true → Ev (fun k => laws_FnCompiledAgain.l0 k s (i : Int)) true := by
  intro d
  induction d with
  | zero =>
    intro i hd hi h
    have e1 : wrap64 ((i : Int) + 1) = ((i + 1 : Nat) : Int) := w64n i 1 (i + 1) (by omega) (by omega)
    have c3 : ¬ ((i + 1 : Nat) : Int) < (s.size : Int) := by omega
    refine Ev.step (fun k => ?_) hend
    simp only [laws_FnCompiledAgain.l0]
    rw [e1, if_neg c3]
  | succ d ih =>
    intro i hd hi h
    have hlt : i < s.size := by omega
    have e1 : wrap64 ((i : Int) + 1) = ((i + 1 : Nat) : Int) := w64n i 1 (i + 1) (by omega) (by omega)
    by_cases hl : i + 1 < s.size
    · have c0 : (0 : Int) ≤ (i : Int) := by omega
      have c1 : (i : Int) < (s.size : Int) := by omega
      have c2 : (0 : Int) ≤ ((i + 1 : Nat) : Int) := by omega
      have c3 : ((i + 1 : Nat) : Int) < (s.size : Int) := by omega
      have hih := ih (i + 1) (by omega) (by omega)
      have hb := bt_n s i hlt
      have hb1 := bt_n s (i + 1) hl
      rw [drop_cons s i hlt] at h
      have ht := one58_tail h
      rw [drop_cons s (i + 1) hl, one58, Bool.and_eq_true, Bool.not_eq_true'] at h
      by_cases h58 : s[i]'hlt = 58
      · have h59 : ¬ s[i + 1]'hl = 58 := by
          intro h2
          rw [h58, h2] at h
          cases h.1
        refine Ev.step (fun k => ?_) (hih ht)
        simp only [laws_FnCompiledAgain.l0]
        rw [e1, if_pos c3, if_pos c0, if_pos c1, hb, if_pos ((byte_eq (c := 58) (k := 58) rfl).2 h58), if_pos c2, hb1, if_neg (fun h => h59 ((byte_eq (c := 58) (k := 58) rfl).1 h))]
      · refine Ev.step (fun k => ?_) (hih ht)
        simp only [laws_FnCompiledAgain.l0]
        rw [e1, if_pos c3, if_pos c0, if_pos c1, hb, if_neg (fun h => h58 ((byte_eq (c := 58) (k := 58) rfl).1 h))]
    · have c3 : ¬ ((i + 1 : Nat) : Int) < (s.size : Int) := by omega
      refine Ev.step (fun k => ?_) hend
      simp only [laws_FnCompiledAgain.l0]
      rw [e1, if_neg c3]
theorem FnCompiledAgain : laws_FnCompiledAgain.Pure := by
  intro s _
  by_cases h1 : (s.size : Int) > 2147483647
  · exact ⟨0, by simp only [laws_FnCompiledAgain.f]; rw [if_pos h1]⟩
  by_cases h2 : (s.size : Int) > 1000
  · exact ⟨0, by simp only [laws_FnCompiledAgain.f]; rw [if_neg h1, if_pos h2]⟩
  have hs : s.size ≤ 1000 := by omega
  refine Ev.rounds (g := fun k => laws_FnCompiledAgain.f k s) ?_
  refine Ev.congr (f := fun k => laws_FnCompiledAgain.l0 k s ((0 : Nat) : Int)) (fun k => by simp only [laws_FnCompiledAgain.f]; rw [if_neg h1, if_neg h2]; rfl) ?_
  cases h58 : one58 s.data.toList with
  | false => exact again_two s hs s.size 0 (by omega) h58
  | true =>
    refine again_one s hs ?_ s.size 0 (by omega) (by omega) h58
    have hj : Ev (fun k => laws_FnCompiledAgain.j1 k s true) true := Ev.step (f := fun _ => some true) (fun k => by simp only [laws_FnCompiledAgain.j1]; rw [if_pos trivial]) (Ev.now _)
    refine Ev.bind (compiled_is 3 s (by omega)) ?_
    by_cases hsure : (bitsOf s).2.2 = true
    · rcases law_sure s (by omega) hsure with ⟨more, _, hml, _, _, hflat, h⟩ | h
      · obtain ⟨e1, e2⟩ := h 3 (by decide) (by decide)
        have hn := names_short more 1048576 (by omega)
        rw [tB_named, hflat h58] at e1 e2
        have es : (⟨s.data.toList.toArray⟩ : ByteArray) = s := rfl
        rw [es] at e1 e2
        rw [e1]
        refine Ev.congr (f := fun k => laws_FnCompiledAgain.j1 k s false) (fun k => by simp) ?_
        refine Ev.step (f := fun k => (laws_sameTexts9.f k (bytesL (nB more)) (bytesL (nB more))).bind fun t => some t) (fun k => ?_) (Ev.bind (same_ev _ hn) (Ev.now _))
        simp only [laws_FnCompiledAgain.j1]
        simp only [Bool.false_eq_true, if_false, e2, Option.bind_some, if_true]
      · obtain ⟨e1, e2⟩ := h 3 (by decide) (by decide)
        rw [e1]
        exact Ev.congr (fun k => by simp) hj
    · have hu := comp_unsure 3 s hsure
      refine Ev.congr (fun k => ?_) hj
      rw [hu, if_neg (by decide)]
end Go.Proofs.YtnmhoghmhglimaaDoor.Pure
