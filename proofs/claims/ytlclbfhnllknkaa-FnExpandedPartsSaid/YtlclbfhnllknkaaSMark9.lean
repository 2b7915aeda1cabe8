/-
  PLAIN: behind lists that are written out there are as many question marks as values, and none is a list.
-/
import Derived.Test.YtlclbfhnllknkaaSArg9
namespace Go.Proofs.Ytlclbfhnllknkaa.SX
open Go.RowKit Go.Proofs.Ytlclbfhnllknkaa.QE Go.Proofs.Ytlclbfhnllknkaa.H Go.Proofs.Ytlclbfhnllknkaa.SN Go.Proofs.YtlclbfhnllknkaaW.PrintWords Go.Proofs.YtlclbfhnllknkaaW.PrintLast Go.Proofs.YtlclbfhnllknkaaW.PrintMore
set_option linter.unusedVariables false
set_option linter.unusedSimpArgs false

theorem cntQ_rep : ∀ n, cntQ (repQ n) = n
  | 0 => rfl
  | n + 1 => by
    rw [repQ, cntQ_app, cntQ_rep n]
    rfl
theorem expL_marks : ∀ (t : List UInt8) (l : List S37) (out : List UInt8) (acc : List S37), cntQ t = l.length → (∀ x ∈ l, x.f0 = 5 → x.f3.length ≠ 0) → (∀ x ∈ l, x.f3.length ≤ 20) → cntQ out = acc.length →
    ∃ r, expL t l out acc = some r ∧ cntQ r.1 = r.2.length ∧ r.1.length ≤ out.length + t.length + 60 * l.length
  | [], l, out, acc, h1, h2, h3, h4 => by
    have hl : l = [] := by
      cases l with
      | nil => rfl
      | cons _ _ => cases h1
    subst hl
    exact ⟨(out, acc), rfl, h4, by simp⟩
  | c :: t, l, out, acc, h1, h2, h3, h4 => by
    rw [cntQ] at h1
    by_cases hc : c = 63
    · rw [if_pos hc] at h1
      cases l with
      | nil =>
        rw [List.length_nil] at h1
        omega
      | cons x xs =>
        rw [List.length_cons] at h1
        have g1 : cntQ t = xs.length := by omega
        have g2 : ∀ x ∈ xs, x.f0 = 5 → x.f3.length ≠ 0 := fun y hy => h2 y (List.mem_cons_of_mem _ hy)
        have g3 : ∀ x ∈ xs, x.f3.length ≤ 20 := fun y hy => h3 y (List.mem_cons_of_mem _ hy)
        rw [hc]
        by_cases h5 : x.f0 = 5
        · have hz := h2 x List.mem_cons_self h5
          have hn := h3 x List.mem_cons_self
          have hq : cntQ (63 :: repQ (x.f3.length - 1)) = x.f3.length := by
            rw [cntQ, if_pos rfl, cntQ_rep]
            omega
          have hlen : (63 :: repQ (x.f3.length - 1) : List UInt8).length = 1 + 3 * (x.f3.length - 1) := by
            rw [List.length_cons, repQ_len]
            omega
          obtain ⟨r, e1, e2, e3⟩ := expL_marks t xs (out ++ 63 :: repQ (x.f3.length - 1)) (acc ++ x.f3) g1 g2 g3 (by rw [cntQ_app, hq, List.length_append, h4])
          refine ⟨r, (expL_list t out x xs acc h5).trans e1, e2, ?_⟩
          rw [List.length_append, hlen] at e3
          rw [List.length_cons, List.length_cons]
          omega
        · obtain ⟨r, e1, e2, e3⟩ := expL_marks t xs (out ++ [63]) (acc ++ [x]) g1 g2 g3 (by rw [cntQ_app, h4, List.length_append]; rfl)
          refine ⟨r, (expL_val t out x xs acc h5).trans e1, e2, ?_⟩
          rw [List.length_append, List.length_singleton] at e3
          rw [List.length_cons, List.length_cons]
          omega
    · rw [if_neg hc, Nat.zero_add] at h1
      obtain ⟨r, e1, e2, e3⟩ := expL_marks t l (out ++ [c]) acc h1 h2 h3 (by rw [cntQ_app, h4, cntQ, if_neg hc]; rfl)
      refine ⟨r, (expL_other hc t out l acc).trans e1, e2, ?_⟩
      rw [List.length_append, List.length_singleton] at e3
      rw [List.length_cons]
      omega
theorem noE {l : List S37} (h : hasE l = false) : ∀ x ∈ l, x.f0 = 5 → x.f3.length ≠ 0 := fun x hx h5 hz => by
  have := List.any_eq_false.1 h x hx
  rw [decide_eq_true h5, List.isEmpty_iff_length_eq_zero.2 hz] at this
  exact this rfl
theorem hasE_of_hasL {l : List S37} (h : hasL l = false) : hasE l = false := List.any_eq_false.2 fun x hx => by
  have := List.any_eq_false.1 h x hx
  simp only [decide_eq_true_eq] at this
  simp [this]
theorem inF_flat {s : ByteArray} {l : List S37} (h : hasL l = false) : inF s l = some (s, l) := by
  rw [inF, hasE_of_hasL h, if_neg (by decide), if_pos h]
/-- As many marks as values, a list and none that is empty: written out. -/
theorem inF_marks {s : ByteArray} {l : List S37} (hs : s.size ≤ 4000) (hl : l.length ≤ 50) (hr : ∀ x ∈ l, rightR x ∧ x.f3.length ≤ 20) (hq : cntQ s.data.toList = l.length) (hE : hasE l = false) (hL : hasL l = true) :
    ∃ r, inF s l = some r ∧ cntQ r.1.data.toList = r.2.length ∧ r.1.size ≤ 8000 ∧ r.2.length ≤ 1000 ∧ hasL r.2 = false ∧ ∀ x ∈ r.2, rightR x ∧ x.f3.length ≤ 1024 := by
  obtain ⟨r, e1, e2, e3⟩ := expL_marks s.data.toList l [] [] hq (noE hE) (fun x hx => (hr x hx).2) rfl
  obtain ⟨h3, h4⟩ := expL_good _ _ _ _ _ e1
  have h5 := cntL_leM 20 (by omega) l (fun x hx => (hr x hx).2)
  have h6 := Nat.mul_le_mul hl (Nat.le_refl 20)
  have hat : ∀ y ∈ r.2, atomR y := fun y hy => by
    rcases h4 y hy with h7 | ⟨x, hx, rfl, h8⟩ | ⟨x, hx, h8, hyx⟩
    · cases h7
    · rcases (hr _ hx).1 with ha | ⟨h9, _⟩
      · exact ha
      · exact absurd h9 h8
    · rcases (hr x hx).1 with ha | ⟨_, _, _, ha⟩
      · exact absurd h8 (by have := ha.2.1; omega)
      · exact ha y hyx
  refine ⟨(⟨r.1.toArray⟩, r.2), ?_, by simpa using e2, ?_, ?_, List.any_eq_false.2 fun y hy => ?_, fun y hy => ⟨.inl (hat y hy), by rw [(hat y hy).2.2.1]; simp⟩⟩
  · rw [inF, hE, if_neg (by decide), if_neg (by rw [hL]; decide), e1]
    rfl
  · show r.1.toArray.size ≤ _
    rw [List.size_toArray]
    rw [List.length_nil, list_size] at e3
    omega
  · rw [List.length_nil] at h3
    show r.2.length ≤ _
    omega
  · have := (hat y hy).2.1
    rw [decide_eq_true_eq]
    omega
end Go.Proofs.Ytlclbfhnllknkaa.SX
