/-
  PROVED: 'laws.FnReplacedParts': what is replaced in a text is replaced in it with another one behind it, and ahead of it. No condition.
-/
import Derived.Test.YtapnlnikeniomaaDoorSRep
import Derived.Test.YtapnlnikeniomaaDoorQP3
namespace Go.Proofs.YtapnlnikeniomaaDoor.Pure
open Go.RowKit Go.Proofs.YtapnlnikeniomaaDoor.QP Go.Proofs.YtapnlnikeniomaaDoor.H Go.Proofs.YtapnlnikeniomaaDoor.S Go.Proofs.YtapnlnikeniomaaDoorW.PrintWords Go.Proofs.YtapnlnikeniomaaDoorW.PrintLast Go.Proofs.YtapnlnikeniomaaDoorW.PrintMore

theorem parts_ev [Inhabited TabT] (a0 fm : Int) (hf : laws_form9.f a0 = some fm) (hr : 1 ≤ fm ∧ fm ≤ 4) (s o : ByteArray) (hs : s.size ≤ 1000) (ho : o.size ≤ 1000) : ∀ (d i : Nat), o.size - i = d → i ≤ o.size → (∀ c ∈ o.data.toList.take i, c ≠ 63) → Ev (fun k => laws_FnReplacedParts.l0 k a0 s o (i : Int)) true := by
  have hl : o.data.toList.length = o.size := Array.length_toList
  intro d
  induction d with
  | zero =>
    intro i hd hi hno
    have c1 : ¬ (i : Int) < (o.size : Int) := by omega
    rw [List.take_of_length_le (by omega)] at hno
    have q1 : s.size + o.size ≤ 9223372036854775807 := by omega
    have q2 : o.size + s.size ≤ 9223372036854775807 := by omega
    have q3 : (repF fm s).size + o.size ≤ 9223372036854775807 := by have := rep_len fm s (by omega); omega
    have q4 : o.size + (repF fm s).size ≤ 9223372036854775807 := by omega
    refine Ev.step (f := fun _ => some true) (fun k => ?_) (Ev.now _)
    simp only [laws_FnReplacedParts.l0]
    rw [if_neg c1, hf, Option.bind_some, impl_rep fm s (by omega) hr (mk_1000 s hs), Option.bind_some, Option.bind_some, if_pos q1, impl_rep fm (s ++ o) (by rw [ByteArray.size_append]; omega) hr (by rw [H.bytes_app, mk_app _ hno _ _ (Nat.le_refl _)]; exact mk_1000 s hs), Option.bind_some, Option.bind_some, if_pos q2, impl_rep fm (o ++ s) (by rw [ByteArray.size_append]; omega) hr (by rw [H.bytes_app, mk_pre _ _ hno]; exact mk_1000 s hs), Option.bind_some, rep_behind fm s o hno, rep_ahead fm s o hno]
    simp only [if_true]
    rw [if_pos q3, if_pos q4, beq_self_eq_true]
  | succ d ih =>
    intro i hd hi hno
    have hlt : i < o.size := by omega
    have c1 : (i : Int) < (o.size : Int) := by omega
    have c0 : (0 : Int) ≤ (i : Int) := by omega
    have e1 : wrap64 ((i : Int) + 1) = ((i + 1 : Nat) : Int) := w64n i 1 (i + 1) (by omega) (by omega)
    have hih := ih (i + 1) (by omega) (by omega)
    have htk : o.data.toList.take (i + 1) = o.data.toList.take i ++ [o[i]'hlt] := by
      rw [List.take_add_one, List.getElem?_eq_getElem (by omega)]
      rfl
    have hb := bt_n o i hlt
    by_cases h : o[i]'hlt = 63
    · refine Ev.step (f := fun _ => some true) (fun k => ?_) (Ev.now _)
      simp only [laws_FnReplacedParts.l0]
      rw [if_pos c1, if_pos c0, hb, if_pos ((byte_eq (c := 63) (k := 63) rfl).2 h)]
    · refine Ev.step (fun k => ?_) (hih (by
        rw [htk]
        intro c hc
        rcases List.mem_append.1 hc with hc | hc
        · exact hno c hc
        · rw [List.mem_singleton.1 hc]
          exact h))
      simp only [laws_FnReplacedParts.l0]
      rw [if_pos c1, if_pos c0, hb, if_neg (fun h2 => h ((byte_eq (c := 63) (k := 63) rfl).1 h2)), e1]
theorem FnReplacedParts [Inhabited TabT] : laws_FnReplacedParts.Pure := by
  intro a0 s o h0 _ _
  obtain ⟨fm, hf, hr⟩ := form_is a0 h0
  have hj0 : Ev (fun k => laws_FnReplacedParts.j0 k a0 s o true) true := Ev.step (f := fun _ => some true) (fun k => by simp only [laws_FnReplacedParts.j0]; rw [if_pos trivial]) (Ev.now _)
  have hj1 : Ev (fun k => laws_FnReplacedParts.j1 k a0 s o true) true := Ev.step (f := fun _ => some true) (fun k => by simp only [laws_FnReplacedParts.j1]; rw [if_pos trivial]) (Ev.now _)
  refine Ev.rounds (g := fun k => laws_FnReplacedParts.f k a0 s o) ?_
  by_cases h1 : (s.size : Int) > 2147483647
  · exact Ev.congr (fun k => by simp only [laws_FnReplacedParts.f]; rw [if_pos h1]) hj0
  by_cases h2 : (o.size : Int) > 2147483647
  · exact Ev.congr (fun k => by simp only [laws_FnReplacedParts.f]; rw [if_neg h1, decide_eq_true h2]) hj0
  refine Ev.congr (f := fun k => laws_FnReplacedParts.j0 k a0 s o false) (fun k => by simp only [laws_FnReplacedParts.f]; rw [if_neg h1, decide_eq_false h2]) ?_
  by_cases h3 : (s.size : Int) > 1000
  · exact Ev.step (fun k => by simp only [laws_FnReplacedParts.j0]; rw [if_neg (by decide), if_pos h3]) hj1
  by_cases h4 : (o.size : Int) > 1000
  · exact Ev.step (fun k => by simp only [laws_FnReplacedParts.j0]; rw [if_neg (by decide), if_neg h3, decide_eq_true h4]) hj1
  refine Ev.step (f := fun k => laws_FnReplacedParts.j1 k a0 s o false) (fun k => by simp only [laws_FnReplacedParts.j0]; rw [if_neg (by decide), if_neg h3, decide_eq_false h4]) ?_
  refine Ev.step (fun k => ?_) (parts_ev a0 fm hf hr s o (by omega) (by omega) o.size 0 (by omega) (by omega) (by simp))
  simp only [laws_FnReplacedParts.j1]
  rw [if_neg (by decide)]
  rfl
end Go.Proofs.YtapnlnikeniomaaDoor.Pure
