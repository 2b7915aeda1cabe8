-- WRITTEN BY A PROGRAM OF THIS SESSION (wip/rowtexts.py). Not trusted: Lean checks it.
import Derived.Test.YtmiggjncmeomlaaRows
import Derived.Test.YtmiggjncmeomlaaQS7
import Derived.Test.YtmiggjncmeomlaaPureFnInTwice
import Derived.Test.YtmiggjncmeomlaaOpen
import Derived.WalkKit
import Derived.ProofKit
import Derived.OpenShut
import Derived.ShutString
import Derived.ChangeOld
import Derived.Below
import Derived.SizedLaws
import Derived.SliceStrings
import Derived.Below
namespace Go.Proofs.Ytmiggjncmeomlaa.fnInTwice
open Go.ChangeShapes Go.WideShapes Go.ChangeAt Go.RowKit
open Go.ChangeMaps (open_string shut_string)
open Go.Proofs.YtmiggjncmeomlaaW.PrintWords
set_option linter.unusedVariables false
theorem heap_ : Kd.Heap QS.k24 := Kd.heap_fix (fun _ h_ => Kd.heap_iso _ (Kd.heap_pair (Kd.heap_int .i64) (Kd.heap_pair (Kd.heap_int .i64) (Kd.heap_pair Kd.heap_string (Kd.heap_slice 24 h_)))))
/-- A list of texts, as an argument's cells hold it. -/
theorem texts_C {W : World} {a : Addr} {len c : Nat} {ss : List ByteArray} (hl : len ≤ c) (hm : c ≤ maxLen) (hz : ss.length = c) (hc : ∀ i, i < ss.length → W.cell? (a.add i) = some (.string (ss.getD i ByteArray.empty))) : Kd.C Kd.string W (some a) len (ss.take len) := by
  refine ⟨by rw [List.length_take]; omega, by simp only [maxLen] at hm; omega, fun _ => ⟨a, rfl, fun j p hj => ⟨[.string p], rfl, rfl, fun i u hu => ?_⟩⟩⟩
  obtain ⟨hj2, hj3⟩ := List.getElem?_eq_some_iff.1 hj
  have hj4 : j < ss.length := by rw [List.length_take] at hj2; omega
  have hp : ss.getD j ByteArray.empty = p := by
    rw [← hj3, List.getElem_take]
    simp [List.getD, hj4]
  cases i with
  | zero =>
    simp at hu
    subst hu
    rw [← hp]
    show W.cell? (a.add (j * 1 + 0)) = _
    rw [Nat.mul_one, Nat.add_zero]
    exact hc j hj4
  | succ i => simp at hu
theorem laidOut : laidOutB Try.prog = true := by kernel_rfl
theorem own : ownKnob Try.prog.godebug = none := by kernel_rfl
set_option maxRecDepth 100000 in
theorem lifted (os : Os) (started : os.Started) (H : Type) (enc : TypeId × Value → H) :
    ReturnsInHanded {} Try.checked os 4 .any (Rows.fnInTwiceSpec.pre6 enc Try.prog Try.f4 Rows.fnInTwiceRow.domain false) (Rows.fnInTwiceSpec.post enc Try.prog Try.f4 false true false false) := by
  refine returnsInHanded_of_change_sized (C := Try.checked) own started (by kernel_rfl) Try.func4
    (ChangeSpec.witness6 (enc := enc) (C := Try.checked) false ⟨#[], #[.string ByteArray.empty, .agg #[.int .i64 0, .int .i64 0, .string ByteArray.empty, .slice none 0 0]], []⟩ 8 (by kernel_rfl) (by kernel_rfl) (by kernel_rfl) (by kernel_rfl)) ?_
  intro W base args ds gs before hval0 hW hcnd hsz0 _
  have hsz : (DataW.weightsEach Try.prog (Try.f4.params.toList ++ Rows.fnInTwiceSpec.plain.varTypes Try.prog) (ds ++ gs)).all (· ≤ reachBytes) = true := hsz0
  have hval : ∀ (j : Nat) t v, Try.f4.params[j]? = some t → args[j]? = some v → Value.okWide Try.prog W .any base t v := hval0
  have hW' := hW
  obtain ⟨p, q, hA0, hV, rfl, hfz, hnd⟩ := hW
  have hA : DataW.TrodAll enc Try.prog W 0 (fun _ => true) true Try.f4.params.toList args.toList ds p := hA0
  rw [Try.params4] at hA hval hsz
  obtain ⟨v0, vs0, d0, ds0, p0, q0, hargs, rfl, rfl, h0, r0⟩ := trodAll_cons hA
  obtain ⟨v1, vs1, d1, ds1, p1, q1, rfl, rfl, rfl, h1, r1⟩ := trodAll_cons r0
  obtain ⟨rfl, rfl, rfl⟩ := trodAll_nil r1
  obtain rfl : args = #[v0, v1] := by cases args; simp_all
  obtain ⟨rfl, rfl⟩ := trodVars_none hV
  obtain ⟨a0, rfl, rfl, rfl, y0⟩ := open_string Try.underlying9 (hval 0 9 v0 rfl rfl) h0
  obtain ⟨cs1, rfl, _⟩ := okWide_struct Try.underlying24 (hval 1 24 v1 rfl rfl)
  have k1 := h1
  have lt1 : ∀ x ∈ p1, x.block < W.heap.size := by obtain ⟨m, hm⟩ := k1; exact DataW.trod_lt m _ _ _ hm
  obtain ⟨y1, A1, c1, e1, u1, w1⟩ : ∃ (y : QS.S24) (A : Option Addr) (c : Nat), cs1 = #[.int .i64 y.f0, .int .i64 y.f1, .string y.f2, .slice A y.f3.length c] ∧ y.f3.length ≤ c ∧ Kd.C QS.k24 W A y.f3.length y.f3 := by
    obtain ⟨fuel, hf⟩ := h1
    obtain ⟨y, hy⟩ := Go.Proofs.Ytmiggjncmeomlaa.H.opens_val _ _ _ hf
    obtain ⟨A, c, e, hl, hC⟩ := QS.k24_open hy
    exact ⟨y, A, c, by cases cs1; simp_all [Value.cells], hl, hC⟩
  subst e1
  clear hA0 hval0 hsz0 hsz
  obtain ⟨k, hk⟩ := Pure.FnInTwice a0 y1 
  refine (QS.laws_FnInTwice.calls k a0 y1.f0 y1.f1 y1.f2 (fun k_ => k_ < W.heap.size) A1 c1 y1.f3 true W  (Kd.V_mk u1 (Kd.C_F heap_ w1)) hk).mono fun e W' ⟨he, bel⟩ => ?_
  subst he
  exact ⟨_, rfl, _, _, _, [], _, [], hW', trodAll_mk1 (shut_bool Try.underlying4 _), (trodAll_cons_mk (shut_string Try.underlying9 y0) (trodAll_cons_mk (Below.trod laidOut (by kernel_rfl) (of_decide_eq_true (by kernel_rfl)) k1 bel lt1) trodAll_mk0)), rfl, bel.frame _, fun h => by cases h⟩
theorem over : Rows.fnInTwiceRow.holds Try.pinned (OpenSpec.ofChange Rows.fnInTwiceSpec) :=
  OpenClaim.holds_of_wide 4 Try.f4 rfl rfl rfl rfl rfl rfl rfl ⟨rfl, rfl, rfl, rfl, rfl⟩ rfl rfl rfl rfl rfl (by kernel_rfl) Try.func4 (by kernel_rfl)
    (of_decide_eq_true (by kernel_rfl)) (by unfold Func.isWrapper; first | (rw [if_pos (by decide +kernel)]; kernel_rfl) | (rw [if_neg (by decide +kernel)]; exact ⟨rfl, rfl⟩))
    (fun os started H enc _ => lifted os started H enc)
theorem proved : Rows.FnInTwiceSaid := over
#print axioms proved
end Go.Proofs.Ytmiggjncmeomlaa.fnInTwice
namespace Go.Proofs.Ytmiggjncmeomlaa
/-- The row, under a short name, for the claim. -/
theorem fnInTwice_holds : Rows.FnInTwiceSaid := fnInTwice.proved
end Go.Proofs.Ytmiggjncmeomlaa
