/-
  PROVED: 'laws.FnPlaceholders': the package's row of question marks is the reference's. No condition.
-/
import Derived.Test.YtnofpojkajmfoaaHPlacesS
import Derived.Test.YtnofpojkajmfoaaQP3
namespace Go.Proofs.Ytnofpojkajmfoaa.Pure
open Go.RowKit Go.Proofs.Ytnofpojkajmfoaa.QP Go.Proofs.Ytnofpojkajmfoaa.H Go.Proofs.YtnofpojkajmfoaaW.PrintWords

theorem FnPlaceholders : laws_FnPlaceholders.Pure := by
  intro a0 _
  unfold laws_FnPlaceholders.f
  split
  · rfl
  · rename_i h
    have e : squirrel_Placeholders.f a0 = some ⟨(qm a0.toNat).toArray⟩ := by
      unfold squirrel_Placeholders.f
      by_cases h1 : a0 < 1
      · rw [if_pos h1, show a0.toNat = 0 by omega]; rfl
      · rw [if_neg h1, if_pos (by omega)]
    have es : spec_Placeholders.f a0 = some ⟨(qm a0.toNat).toArray⟩ := by
      unfold spec_Placeholders.f
      rw [if_pos (by omega)]
    have e2 : squirrel_Placeholders.f 2 = some ⟨(qm (Int.toNat 2)).toArray⟩ := by
      unfold squirrel_Placeholders.f
      rw [if_neg (by omega), if_pos (by omega)]
    simp only [impl_Placeholders.f, e, es, e2, Option.bind_some, if_true]
    simp
    rfl
end Go.Proofs.Ytnofpojkajmfoaa.Pure
