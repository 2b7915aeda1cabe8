-- WRITTEN BY A PROGRAM OF THIS SESSION (wip/rowtexts.py). Not trusted: Lean checks it.
import Derived.Test.YtabaldpjahcilaaRows
import Derived.Test.YtabaldpjahcilaaQP4
import Derived.Test.YtabaldpjahcilaaPureFnPieceOf
import Derived.Test.YtabaldpjahcilaaOpen
import Derived.Test.YtabaldpjahcilaaOpen3
import Derived.WalkKit
import Derived.ProofKit
import Derived.OpenShut
import Derived.ShutString
import Derived.ChangeOld
import Derived.Below
import Derived.SizedLaws
import Derived.SliceStrings
import Derived.Below
namespace Go.Proofs.Ytabaldpjahcilaa.fnPieceOf
open Go.ChangeShapes Go.WideShapes Go.ChangeAt Go.RowKit
open Go.ChangeMaps (open_string shut_string)
open Go.Proofs.YtabaldpjahcilaaW.PrintWords
set_option linter.unusedVariables false
/-- A list of texts, as an argument's cells hold it. -/
theorem texts_C {W : World} {a : Addr} {len c : Nat} {ss : List ByteArray} (hl : len ≤ c) (hm : c ≤ maxLen) (hz : ss.length = c) (hc : ∀ i, i < ss.length → W.cell? (a.add i) = some (.string (ss.getD i ByteArray.empty))) : Kd.C Kd.string W (some a) len (ss.take len) := by
  refine ⟨by rw [List.length_take]; omega, by simp only [maxLen] at hm; omega, fun _ => ⟨a, rfl, fun j p hj => ⟨[.string p], rfl, rfl, fun i u hu => ?_⟩⟩⟩
  obtain ⟨hj2, hj3⟩ := List.getElem?_eq_some_iff.1 hj
  have hj4 : j < ss.length := by rw [List.length_take] at hj2; omega
  have hp : ss.getD j ByteArray.empty = p := by
    rw [← hj3, List.getElem_take]
    simp [List.getD, hj4]
  cases i with
  | zero =>
    simp at hu
    subst hu
    rw [← hp]
    show W.cell? (a.add (j * 1 + 0)) = _
    rw [Nat.mul_one, Nat.add_zero]
    exact hc j hj4
  | succ i => simp at hu
theorem laidOut : laidOutB Try.prog = true := by kernel_rfl
theorem own : ownKnob Try.prog.godebug = none := by kernel_rfl
set_option maxRecDepth 100000 in
theorem lifted (os : Os) (started : os.Started) (H : Type) (enc : TypeId × Value → H) :
    ReturnsInHanded {} Try.checked os 3 .any (Rows.fnPieceOfSpec.pre6 enc Try.prog Try.f3 Rows.fnPieceOfRow.domain false) (Rows.fnPieceOfSpec.post enc Try.prog Try.f3 false true false false) := by
  refine returnsInHanded_of_change_sized (C := Try.checked) own started (by kernel_rfl) Try.func3
    (ChangeSpec.witness6 (enc := enc) (C := Try.checked) false ⟨#[], #[.string ByteArray.empty, .slice none 0 0], []⟩ 8 (by kernel_rfl) (by kernel_rfl) (by kernel_rfl) (by kernel_rfl)) ?_
  intro W base args ds gs before hval0 hW hcnd hsz0 _
  have hsz : (DataW.weightsEach Try.prog (Try.f3.params.toList ++ Rows.fnPieceOfSpec.plain.varTypes Try.prog) (ds ++ gs)).all (· ≤ reachBytes) = true := hsz0
  have hval : ∀ (j : Nat) t v, Try.f3.params[j]? = some t → args[j]? = some v → Value.okWide Try.prog W .any base t v := hval0
  have hW' := hW
  obtain ⟨p, q, hA0, hV, rfl, hfz, hnd⟩ := hW
  have hA : DataW.TrodAll enc Try.prog W 0 (fun _ => true) true Try.f3.params.toList args.toList ds p := hA0
  rw [Try.params3] at hA hval hsz
  obtain ⟨v0, vs0, d0, ds0, p0, q0, hargs, rfl, rfl, h0, r0⟩ := trodAll_cons hA
  obtain ⟨v1, vs1, d1, ds1, p1, q1, rfl, rfl, rfl, h1, r1⟩ := trodAll_cons r0
  obtain ⟨rfl, rfl, rfl⟩ := trodAll_nil r1
  obtain rfl : args = #[v0, v1] := by cases args; simp_all
  obtain ⟨rfl, rfl⟩ := trodVars_none hV
  obtain ⟨a0, rfl, rfl, rfl, y0⟩ := open_string Try.underlying9 (hval 0 9 v0 rfl rfl) h0
  obtain ⟨A1, n1, c1, rfl⟩ := okWide_slice Try.underlying22 (hval 1 22 v1 rfl rfl)
  have k1 := h1
  have lt1 : ∀ x ∈ p1, x.block < W.heap.size := by obtain ⟨m, hm⟩ := k1; exact DataW.trod_lt m _ _ _ hm
  obtain ⟨l1, e1, w1, u1⟩ : ∃ l : List (QP.S30), n1 = l.length ∧ Kd.C QP.k30 W A1 l.length l ∧ l.length ≤ c1 := by
    obtain ⟨fuel, hf⟩ := h1
    obtain ⟨l, A, c, hcs, hl, hC⟩ := Go.Proofs.Ytabaldpjahcilaa.H.opens_vals hf
    simp [Value.cells] at hcs
    obtain ⟨rfl, rfl, rfl⟩ := hcs
    exact ⟨l, rfl, hC, hl⟩
  subst e1
  clear hA0 hval0 hsz0 hsz
  obtain ⟨k, hk⟩ := Pure.FnPieceOf a0 l1 
  refine (QP.laws_FnPieceOf.calls k a0 A1 c1 l1 true W  w1 u1 hk).mono fun e W' ⟨he, bel⟩ => ?_
  subst he
  exact ⟨_, rfl, _, _, _, [], _, [], hW', trodAll_mk1 (shut_bool Try.underlying4 _), (trodAll_cons_mk (shut_string Try.underlying9 y0) (trodAll_cons_mk (Below.trod laidOut (by kernel_rfl) (of_decide_eq_true (by kernel_rfl)) k1 bel lt1) trodAll_mk0)), rfl, bel.frame _, fun h => by cases h⟩
theorem over : Rows.fnPieceOfRow.holds Try.pinned (OpenSpec.ofChange Rows.fnPieceOfSpec) :=
  OpenClaim.holds_of_wide 3 Try.f3 rfl rfl rfl rfl rfl rfl rfl ⟨rfl, rfl, rfl, rfl, rfl⟩ rfl rfl rfl rfl rfl (by kernel_rfl) Try.func3 (by kernel_rfl)
    (of_decide_eq_true (by kernel_rfl)) (by unfold Func.isWrapper; first | (rw [if_pos (by decide +kernel)]; kernel_rfl) | (rw [if_neg (by decide +kernel)]; exact ⟨rfl, rfl⟩))
    (fun os started H enc _ => lifted os started H enc)
theorem proved : Rows.FnPieceOfSaid := over
#print axioms proved
end Go.Proofs.Ytabaldpjahcilaa.fnPieceOf
namespace Go.Proofs.Ytabaldpjahcilaa
/-- The row, under a short name, for the claim. -/
theorem fnPieceOf_holds : Rows.FnPieceOfSaid := fnPieceOf.proved
end Go.Proofs.Ytabaldpjahcilaa
