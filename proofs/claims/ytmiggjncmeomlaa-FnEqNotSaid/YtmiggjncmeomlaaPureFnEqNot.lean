/-
  PROVED: 'laws.FnEqNot': of one column NotEq says the contrary of Eq, with the same arguments. No condition.
-/
import Derived.Test.YtmiggjncmeomlaaSCond
import Derived.Test.YtmiggjncmeomlaaHNotEqI
import Derived.Test.YtmiggjncmeomlaaQS5
namespace Go.Proofs.Ytmiggjncmeomlaa.Pure
open Go.RowKit Go.Proofs.Ytmiggjncmeomlaa.QS Go.Proofs.Ytmiggjncmeomlaa.H Go.Proofs.Ytmiggjncmeomlaa.SD Go.Proofs.YtmiggjncmeomlaaW.PrintWords Go.Proofs.YtmiggjncmeomlaaW.PrintLast Go.Proofs.YtmiggjncmeomlaaW.PrintMore
set_option linter.unusedVariables false
set_option linter.unusedSimpArgs false

theorem eq_vals_deep {v : S24} (hv : rightR v) : ∀ x ∈ eqVals v, deep 2 x := by
  intro x hx
  unfold eqVals at hx
  split at hx
  · cases hx
  · split at hx
    · rcases hv with ha | ⟨_, _, _, ha⟩
      · exact absurd ‹v.f0 = 5› (by have := ha.2.1; omega)
      · exact right_deep (.inl (ha x hx))
    · rw [List.mem_singleton.1 hx]
      exact right_deep hv
theorem j3_true (k : Nat) (x y t T1 T2 : ByteArray) (vs : List S24) (hd : ∀ x ∈ vs, deep 2 x) (h1 : T1 = x ++ t) (h2 : T2 = y ++ t) : laws_FnEqNot.j3 (k + 1) T1 vs true T2 vs true x y = some true := by
  subst h1 h2
  have s1 : ((x ++ t).size : Int) ≥ (x.size : Int) := by rw [ByteArray.size_append]; omega
  have s2 : ((y ++ t).size : Int) ≥ (y.size : Int) := by rw [ByteArray.size_append]; omega
  simp only [laws_FnEqNot.j3]
  rw [if_pos trivial, if_pos trivial, equal_self vs hd, Option.bind_some, if_pos rfl, if_pos s1, if_pos s2, if_pos (by omega), if_pos s1, if_pos (list_eq.2 (by rw [Int.toNat_natCast]; exact ext_left x t)), if_pos (by omega), if_pos s2, if_pos (list_eq.2 (by rw [Int.toNat_natCast]; exact ext_left y t)), Int.toNat_natCast, Int.toNat_natCast, ext_right, ext_right]
  simp
theorem j3_ev (x y t T1 T2 : ByteArray) (vs : List S24) (hd : ∀ x ∈ vs, deep 2 x) (h1 : T1 = x ++ t) (h2 : T2 = y ++ t) : Ev (fun k => laws_FnEqNot.j3 k T1 vs true T2 vs true x y) true :=
  Ev.step (f := fun _ => some true) (fun k => j3_true k x y t T1 T2 vs hd h1 h2) (Ev.now _)
theorem FnEqNot (a : ByteArray) (v : S24) : ∃ k, laws_FnEqNot.f k a v.f0 v.f1 v.f2 v.f3 = some true := by
  have j0T : Ev (fun k => laws_FnEqNot.j0 k a true v.f0 v.f1 v.f2 v.f3) true := Ev.step (f := fun _ => some true) (fun k => by simp only [laws_FnEqNot.j0]; rw [if_pos trivial]) (Ev.now _)
  have j1T : Ev (fun k => laws_FnEqNot.j1 k a true v.f0 v.f1 v.f2 v.f3) true := Ev.step (f := fun _ => some true) (fun k => by simp only [laws_FnEqNot.j1]; rw [if_pos trivial]) (Ev.now _)
  refine Ev.rounds (g := fun k => laws_FnEqNot.f k a v.f0 v.f1 v.f2 v.f3) ?_
  by_cases h1 : (a.size : Int) > 2147483647
  · exact Ev.congr (fun k => by simp only [laws_FnEqNot.f]; rw [if_pos h1]) j0T
  have hz : ∃ b, laws_zzFits2.f v.f0 v.f1 v.f2 v.f3 = some b := by
    unfold laws_zzFits2.f
    split
    · exact ⟨_, rfl⟩
    · split <;> exact ⟨_, rfl⟩
  obtain ⟨z, hz⟩ := hz
  refine Ev.congr (f := fun k => laws_FnEqNot.j0 k a (!z) v.f0 v.f1 v.f2 v.f3) (fun k => by simp only [laws_FnEqNot.f]; rw [if_neg h1, hz, Option.bind_some]) ?_
  cases z with
  | false => exact j0T
  | true =>
    obtain ⟨b, hN, _⟩ := name_is a (by omega)
    obtain ⟨b2, hV, hv⟩ := value_right v
    refine Ev.step (f := fun k => (spec_NameOnly.f k a).bind fun t108 => (if t108 = true then ((spec_ValueRight.f k v.f0 v.f1 v.f2 v.f3 true).bind fun t109 => (if t109 = true then (laws_FnEqNot.j1 k a (decide ((a.size : Int) > 40)) v.f0 v.f1 v.f2 v.f3) else (laws_FnEqNot.j1 k a true v.f0 v.f1 v.f2 v.f3))) else (laws_FnEqNot.j1 k a true v.f0 v.f1 v.f2 v.f3))) (fun k => ?_) (Ev.bind hN ?_)
    · simp only [laws_FnEqNot.j0]
      rw [if_neg (by decide)]
    cases b with
    | false => exact Ev.congr (fun k => by rw [if_neg (by decide)]) j1T
    | true =>
      refine Ev.congr (f := fun k => (spec_ValueRight.f k v.f0 v.f1 v.f2 v.f3 true).bind fun t109 => (if t109 = true then (laws_FnEqNot.j1 k a (decide ((a.size : Int) > 40)) v.f0 v.f1 v.f2 v.f3) else (laws_FnEqNot.j1 k a true v.f0 v.f1 v.f2 v.f3))) (fun k => by rw [if_pos rfl]) (Ev.bind hV ?_)
      cases b2 with
      | false => exact Ev.congr (fun k => by rw [if_neg (by decide)]) j1T
      | true =>
        by_cases h40 : (a.size : Int) > 40
        · exact Ev.congr (fun k => by rw [if_pos rfl, decide_eq_true h40]) j1T
        obtain ⟨hr, hl⟩ := hv rfl
        have e1 : impl_EqOf.f [a] [v] = some (eqTxt false a v, eqVals v, true) := by
          show eqF false [a] [v] = _
          simp only [eqF]
          rw [if_pos ⟨by omega, (rightB_iff v).2 hr, by omega⟩]
        have e2 : impl_NotEqOf.f [a] [v] = some (eqTxt true a v, eqVals v, true) := by
          show eqF true [a] [v] = _
          simp only [eqF]
          rw [if_pos ⟨by omega, (rightB_iff v).2 hr, by omega⟩]
        have hd := eq_vals_deep hr
        refine Ev.congr (f := fun k => laws_FnEqNot.j1 k a false v.f0 v.f1 v.f2 v.f3) (fun k => by rw [if_pos rfl, decide_eq_false h40]) ?_
        by_cases c0 : v.f0 = 0
        · have t1 : eqTxt false a v = (a ++ ⟨#[32, 73, 83, 32, 78, 85, 76, 76]⟩) ++ ⟨#[]⟩ := by
            unfold eqTxt
            rw [if_pos c0, if_neg (by decide)]
            apply ByteArray.ext
            simp
          have t2 : eqTxt true a v = (a ++ ⟨#[32, 73, 83, 32, 78, 79, 84, 32, 78, 85, 76, 76]⟩) ++ ⟨#[]⟩ := by
            unfold eqTxt
            rw [if_pos c0, if_pos rfl]
            apply ByteArray.ext
            simp
          refine Ev.step (fun k => ?_) (j3_ev _ _ _ _ _ _ hd t1 t2)
          simp only [laws_FnEqNot.j1]
          rw [if_neg (by decide), eta_val, e1, Option.bind_some, e2, Option.bind_some, if_pos (by omega), if_pos (by omega), if_pos c0, if_pos (by omega), if_pos (by omega)]
        by_cases c5 : v.f0 = 5
        · refine Ev.step (f := fun k => laws_FnEqNot.j2 k a (eqTxt false a v) (eqVals v) true (eqTxt true a v) (eqVals v) true (a ++ (⟨#[32, 61, 32, 63]⟩ : ByteArray)) (a ++ (⟨#[32, 60, 62, 32, 63]⟩ : ByteArray)) ((v.f3.length : Int) == 0) v.f0 v.f1 v.f2 v.f3) (fun k => ?_) ?_
          · simp only [laws_FnEqNot.j1]
            rw [if_neg (by decide), eta_val, e1, Option.bind_some, e2, Option.bind_some, if_pos (by omega), if_pos (by omega), if_neg c0, if_pos c5]
          by_cases hn : v.f3 = []
          · have hb : ((v.f3.length : Int) == 0) = true := by rw [hn]; rfl
            have t1 : eqTxt false a v = (⟨#[40, 49, 61, 48, 41]⟩ : ByteArray) ++ ⟨#[]⟩ := by
              unfold eqTxt
              rw [if_neg c0, if_pos c5, if_pos hn, if_neg (by decide)]
              apply ByteArray.ext
              simp
            have t2 : eqTxt true a v = (⟨#[40, 49, 61, 49, 41]⟩ : ByteArray) ++ ⟨#[]⟩ := by
              unfold eqTxt
              rw [if_neg c0, if_pos c5, if_pos hn, if_pos rfl]
              apply ByteArray.ext
              simp
            refine Ev.step (fun k => ?_) (j3_ev _ _ _ _ _ _ hd t1 t2)
            simp only [laws_FnEqNot.j2]
            rw [if_pos hb]
          · have hb : ¬ ((v.f3.length : Int) == 0) = true := fun h => hn (len_nil h)
            have t1 : eqTxt false a v = (a ++ ⟨#[32, 73, 78, 32, 40]⟩) ++ (⟨(qm v.f3.length).toArray⟩ ++ ⟨#[41]⟩) := by
              unfold eqTxt
              rw [if_neg c0, if_pos c5, if_neg hn, if_neg (by decide)]
              apply ByteArray.ext
              simp
            have t2 : eqTxt true a v = (a ++ ⟨#[32, 78, 79, 84, 32, 73, 78, 32, 40]⟩) ++ (⟨(qm v.f3.length).toArray⟩ ++ ⟨#[41]⟩) := by
              unfold eqTxt
              rw [if_neg c0, if_pos c5, if_neg hn, if_pos rfl]
              apply ByteArray.ext
              simp
            refine Ev.step (fun k => ?_) (j3_ev _ _ _ _ _ _ hd t1 t2)
            simp only [laws_FnEqNot.j2]
            rw [if_neg hb, if_pos c5, if_pos (by omega), if_pos (by omega)]
        · refine Ev.step (f := fun k => laws_FnEqNot.j2 k a (eqTxt false a v) (eqVals v) true (eqTxt true a v) (eqVals v) true (a ++ (⟨#[32, 61, 32, 63]⟩ : ByteArray)) (a ++ (⟨#[32, 60, 62, 32, 63]⟩ : ByteArray)) false v.f0 v.f1 v.f2 v.f3) (fun k => ?_) ?_
          · simp only [laws_FnEqNot.j1]
            rw [if_neg (by decide), eta_val, e1, Option.bind_some, e2, Option.bind_some, if_pos (by omega), if_pos (by omega), if_neg c0, if_neg c5]
          have t1 : eqTxt false a v = (a ++ ⟨#[32, 61, 32, 63]⟩) ++ ⟨#[]⟩ := by
            unfold eqTxt
            rw [if_neg c0, if_neg c5, if_neg (by decide)]
            apply ByteArray.ext
            simp
          have t2 : eqTxt true a v = (a ++ ⟨#[32, 60, 62, 32, 63]⟩) ++ ⟨#[]⟩ := by
            unfold eqTxt
            rw [if_neg c0, if_neg c5, if_pos rfl]
            apply ByteArray.ext
            simp
          refine Ev.step (fun k => ?_) (j3_ev _ _ _ _ _ _ hd t1 t2)
          simp only [laws_FnEqNot.j2]
          rw [if_neg (by decide), if_neg c5]
end Go.Proofs.Ytmiggjncmeomlaa.Pure
