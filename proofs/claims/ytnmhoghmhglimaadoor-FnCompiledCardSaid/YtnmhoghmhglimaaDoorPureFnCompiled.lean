/-
  PROVED: 'laws.FnCompiled': names become placeholders of a kind, as the reference says where it is sure. No condition.
-/
import Derived.Test.YtnmhoghmhglimaaDoorSLaw
import Derived.Test.YtnmhoghmhglimaaDoorQC5
namespace Go.Proofs.YtnmhoghmhglimaaDoor.Pure
open Go.RowKit Go.Proofs.YtnmhoghmhglimaaDoor.QC Go.Proofs.YtnmhoghmhglimaaDoor.H Go.Proofs.YtnmhoghmhglimaaDoor.SC Go.Proofs.YtnmhoghmhglimaaDoorW.PrintWords Go.Proofs.YtnmhoghmhglimaaDoorW.PrintLast Go.Proofs.YtnmhoghmhglimaaDoorW.PrintMore

theorem FnCompiled : laws_FnCompiled.Pure := by
  intro a0 s h0 _
  by_cases h1 : (s.size : Int) > 2147483647
  · exact ⟨0, by simp only [laws_FnCompiled.f]; rw [if_pos h1]⟩
  by_cases h2 : (s.size : Int) > 1000
  · exact ⟨0, by simp only [laws_FnCompiled.f]; rw [if_neg h1, if_pos h2]⟩
  have hs : s.size ≤ 1000 := by omega
  obtain ⟨kd, hk, k0, k4⟩ := kind_is a0 h0
  have hc := compiled_is kd s (by omega)
  refine Ev.rounds (g := fun k => laws_FnCompiled.f k a0 s) ?_
  refine Ev.congr (fun k => by simp only [laws_FnCompiled.f]; rw [if_neg h1, if_neg h2, hk, Option.bind_some]) (Ev.bind hc ?_)
  by_cases hsure : (bitsOf s).2.2 = true
  · rcases law_sure s (by omega) hsure with ⟨more, _, hml, _, _, _, h⟩ | h
    · obtain ⟨e1, e2⟩ := h kd k0 k4
      have hn := names_short more 1048576 (by omega)
      rw [e1]
      refine Ev.congr (f := fun k => (laws_sameTexts9.f k (bytesL (nB more)) (bytesL (nB more))).bind fun t => some t) (fun k => ?_) (Ev.bind (same_ev _ hn) (Ev.now _))
      simp only [if_true, e2, Option.bind_some, beq_self_eq_true]
    · obtain ⟨e1, e2⟩ := h kd k0 k4
      rw [e1]
      refine Ev.congr (f := fun _ => some true) (fun k => ?_) (Ev.now _)
      simp only [if_true, e2, Option.bind_some, beq_self_eq_true, Bool.false_eq_true, if_false]
  · have hu := comp_unsure kd s hsure
    refine Ev.congr (f := fun _ => some true) (fun k => ?_) (Ev.now _)
    rw [hu, if_neg (by decide)]
end Go.Proofs.YtnmhoghmhglimaaDoor.Pure
