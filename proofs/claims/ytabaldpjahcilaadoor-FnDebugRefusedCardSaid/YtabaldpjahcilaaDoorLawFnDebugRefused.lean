-- WRITTEN BY A PROGRAM OF THIS SESSION (wip/rowtexts.py). Not trusted: Lean checks it.
import Derived.Test.YtabaldpjahcilaaDoorCards
import Derived.Test.YtabaldpjahcilaaDoorTie
import Derived.LaidMore
import Derived.Lib.LaidTab
import Derived.LaidSub
import Derived.Stop.Joined
import Derived.SevenTiedAt
import Derived.Test.YtabaldpjahcilaaDoorFactsA
import Derived.Test.YtabaldpjahcilaaDoorFactsB
import Derived.Test.YtabaldpjahcilaaDoorFactsC
import Derived.Test.YtabaldpjahcilaaDoorFactsD
import Derived.Test.YtabaldpjahcilaaDoorQD7
import Derived.Test.YtabaldpjahcilaaDoorPureFnDebugRefused
import Derived.Test.YtabaldpjahcilaaDoorOpenN
import Derived.WalkKit
import Derived.ProofKit
import Derived.OpenShut
import Derived.ShutString
import Derived.ChangeOld
import Derived.Below
import Derived.SizedLaws
import Derived.SliceStrings
import Derived.Below
namespace Go.Proofs.YtabaldpjahcilaaDoor.fnDebugRefused
open Go.ChangeShapes Go.WideShapes Go.ChangeAt Go.RowKit
open Go.ChangeMaps (open_string shut_string)
open Go.Proofs.YtabaldpjahcilaaDoorW.PrintWords
set_option linter.unusedVariables false
/-- A list of texts, as an argument's cells hold it. -/
theorem texts_C {W : World} {a : Addr} {len c : Nat} {ss : List ByteArray} (hl : len ≤ c) (hm : c ≤ maxLen) (hz : ss.length = c) (hc : ∀ i, i < ss.length → W.cell? (a.add i) = some (.string (ss.getD i ByteArray.empty))) : Kd.C Kd.string W (some a) len (ss.take len) := by
  refine ⟨by rw [List.length_take]; omega, by simp only [maxLen] at hm; omega, fun _ => ⟨a, rfl, fun j p hj => ⟨[.string p], rfl, rfl, fun i u hu => ?_⟩⟩⟩
  obtain ⟨hj2, hj3⟩ := List.getElem?_eq_some_iff.1 hj
  have hj4 : j < ss.length := by rw [List.length_take] at hj2; omega
  have hp : ss.getD j ByteArray.empty = p := by
    rw [← hj3, List.getElem_take]
    simp [List.getD, hj4]
  cases i with
  | zero =>
    simp at hu
    subst hu
    rw [← hp]
    show W.cell? (a.add (j * 1 + 0)) = _
    rw [Nat.mul_one, Nat.add_zero]
    exact hc j hj4
  | succ i => simp at hu
theorem laidOut : laidOutB Tryd.prog = true := by kernel_rfl
theorem door_met (os : Os) (args : Array Value) : laidMetH Tryd.prog Rows.fnDebugRefusedRow.laid ((World.doorLaid Tryd.prog 43 os).forCall (fun _ _ => 0) ⟨#[], args, []⟩).memory :=
  laidMetH_of_parts3 (fuel := 8) (laidMet_of_run' 8 (by kernel_rfl) (by kernel_rfl)) (by kernel_rfl) (by kernel_rfl)
theorem gTab : Tryd.prog.globalNamed "internal/strconv.uint64pow10" = some 1 := by kernel_rfl
theorem tab_of_laid {W : World} (h : laidMetH Tryd.prog Rows.fnDebugRefusedRow.laid W) : H.Tab W := by
  have h2 := h.filter (fun x => x.1 == "internal/strconv.uint64pow10")
  have e : (Rows.fnDebugRefusedRow.laid.filter fun x => x.1 == "internal/strconv.uint64pow10") = [("internal/strconv.uint64pow10", Lib.tabData .u64 Lib.pow10Tab)] := by kernel_rfl
  rw [e] at h2
  have h3 : laidMet Tryd.prog [("internal/strconv.uint64pow10", Lib.tabData .u64 Lib.pow10Tab)] W := h2
  exact Lib.tabIs_of_head (rest := []) gTab (t := 104) (e := 93) (n := 20) (by kernel_rfl) (by kernel_rfl) (by kernel_rfl) (by kernel_rfl) (by kernel_rfl) h3
theorem own : ownKnob Tryd.prog.godebug = none := by kernel_rfl
set_option maxRecDepth 100000 in
theorem lifted (os : Os) (started : os.Started) (H : Type) (enc : TypeId × Value → H) :
    ReturnsInHanded {} Tryd.checked os 4 .any (fun w args => (Rows.fnDebugRefusedSpec.pre enc Tryd.prog Tryd.f4 [] false w args ∧ laidMetH Tryd.prog Rows.fnDebugRefusedRow.laid w) ∧ sizedMet enc Tryd.prog Tryd.f4 (OpenSpec.ofChange Rows.fnDebugRefusedSpec) false w args) (Rows.fnDebugRefusedSpec.post enc Tryd.prog Tryd.f4 false true false false) := by
  refine returnsInHanded_of_change_and (C := Tryd.checked) (X := fun w _ => laidMetH Tryd.prog Rows.fnDebugRefusedRow.laid w) (fun _ _ _ hh h => h.of_heap hh) own started (by kernel_rfl) Tryd.func4
    (ChangeSpec.witness_shaped (enc := enc) (C := Tryd.checked) (os := os) (X := fun w _ => laidMetH Tryd.prog Rows.fnDebugRefusedRow.laid w) false (World.doorLaid Tryd.prog 43 os) #[.string ByteArray.empty, .slice none 0 0] 8 rfl (World.shaped_of_RefB (by kernel_rfl) (by kernel_rfl)) (by kernel_rfl) (by kernel_rfl) (by kernel_rfl) (door_met os _)) ?_
  intro W base args ds gs before hval0 hW hcnd hsz0 hL _
  have hsz : (DataW.weightsEach Tryd.prog (Tryd.f4.params.toList ++ Rows.fnDebugRefusedSpec.plain.varTypes Tryd.prog) (ds ++ gs)).all (· ≤ reachBytes) = true := hsz0
  have hval : ∀ (j : Nat) t v, Tryd.f4.params[j]? = some t → args[j]? = some v → Value.okWide Tryd.prog W .any base t v := hval0
  have hW' := hW
  obtain ⟨p, q, hA0, hV, rfl, hfz, hnd⟩ := hW
  have hA : DataW.TrodAll enc Tryd.prog W 0 (fun _ => true) true Tryd.f4.params.toList args.toList ds p := hA0
  rw [Tryd.params4] at hA hval hsz
  obtain ⟨v0, vs0, d0, ds0, p0, q0, hargs, rfl, rfl, h0, r0⟩ := trodAll_cons hA
  obtain ⟨v1, vs1, d1, ds1, p1, q1, rfl, rfl, rfl, h1, r1⟩ := trodAll_cons r0
  obtain ⟨rfl, rfl, rfl⟩ := trodAll_nil r1
  obtain rfl : args = #[v0, v1] := by cases args; simp_all
  obtain ⟨rfl, rfl⟩ := trodVars_none hV
  obtain ⟨a0, rfl, rfl, rfl, y0⟩ := open_string Tryd.underlying9 (hval 0 9 v0 rfl rfl) h0
  obtain ⟨A1, n1, c1, rfl⟩ := okWide_slice Tryd.underlying22 (hval 1 22 v1 rfl rfl)
  have k1 := h1
  have lt1 : ∀ x ∈ p1, x.block < W.heap.size := by obtain ⟨m, hm⟩ := k1; exact DataW.trod_lt m _ _ _ hm
  obtain ⟨l1, e1, w1, u1, num1⟩ : ∃ l : List (QD.S27), n1 = l.length ∧ Kd.C QD.k27 W A1 l.length l ∧ l.length ≤ c1 ∧ ∀ x ∈ l, Go.Proofs.YtabaldpjahcilaaDoor.H.numR x := by
    obtain ⟨fuel, hf⟩ := h1
    obtain ⟨l, A, c, hcs, hl, hC, hN⟩ := Go.Proofs.YtabaldpjahcilaaDoor.H.opens_valsN hf
    simp [Value.cells] at hcs
    obtain ⟨rfl, rfl, rfl⟩ := hcs
    exact ⟨l, rfl, hC, hl, hN⟩
  subst e1
  clear hA0 hval0 hsz0 hsz
  obtain ⟨k, hk⟩ := Pure.FnDebugRefused a0 l1 num1
  refine (QD.laws_FnDebugRefused.calls k a0 A1 c1 l1 true W (tab_of_laid hL) w1 u1 hk).mono fun e W' ⟨he, bel⟩ => ?_
  subst he
  exact ⟨_, rfl, _, _, _, [], _, [], hW', trodAll_mk1 (shut_bool Tryd.underlying4 _), (trodAll_cons_mk (shut_string Tryd.underlying9 y0) (trodAll_cons_mk (Below.trod laidOut (by kernel_rfl) (of_decide_eq_true (by kernel_rfl)) k1 bel lt1) trodAll_mk0)), rfl, bel.frame _, fun h => by cases h⟩
theorem lf : (Rows.fnDebugRefusedRow.lifted == Tryd.pinned.checked.prog.liftsFinal) = true := beq_iff_eq.mpr Facts.liftsFinal.symm
theorem mk : (Tryd.pinned.checked.prog.make == some Rows.fnDebugRefusedRow.make) = true := beq_iff_eq.mpr Facts.make
theorem joined : joinedFacts Tryd.pinned.checked.prog 4 Tryd.f4 Rows.fnDebugRefusedSpec Rows.fnDebugRefusedRow = true := by
  unfold joinedFacts
  rw [Facts.mayEnter, lf, mk]
  kernel_rfl
theorem over : Rows.fnDebugRefusedRow.holds Tryd.pinned (OpenSpec.ofChange Rows.fnDebugRefusedSpec) :=
  OpenClaim.holds_of_wide 4 Tryd.f4 rfl rfl rfl rfl rfl rfl rfl ⟨rfl, rfl, rfl, rfl, rfl⟩ rfl rfl rfl rfl rfl (by kernel_rfl) Tryd.func4 joined
    (of_decide_eq_true (by kernel_rfl)) (by unfold Func.isWrapper; first | (rw [if_pos (by decide +kernel)]; kernel_rfl) | (rw [if_neg (by decide +kernel)]; exact ⟨rfl, rfl⟩))
    (fun os started H enc _ => lifted os started H enc)
theorem proved : Rows.FnDebugRefusedSaid := over
theorem plain (f : FuncId) (fn : Func) (hf : Tryd.pinned.checked.prog.funcNamed "given.example/pub-conveyance/laws.FnDebugRefused" = some f) (hfn : Tryd.pinned.checked.prog.funcs[f]? = some fn) :
    true = Tryd.pinned.checked.prog.looks [] ∧ ∀ (j : Nat) t, fn.params[j]? = some t → Tryd.pinned.checked.prog.wantsStandIn t = false := by
  obtain rfl : f = 4 := Option.some.inj ((show Tryd.prog.funcNamed "given.example/pub-conveyance/laws.FnDebugRefused" = some 4 by kernel_rfl).symm.trans hf) |>.symm
  obtain rfl : fn = Tryd.f4 := (Option.some.inj (Tryd.func4.symm.trans hfn)).symm
  refine ⟨by kernel_rfl, fun j t ht => ?_⟩
  rw [Tryd.params4] at ht
  have hm : t ∈ [9, 22] := by simpa using Array.mem_of_getElem? ht
  have hall : ([9, 22].all fun u => !Tryd.prog.wantsStandIn u) = true := by kernel_rfl
  exact (show Tryd.prog.wantsStandIn t = false by simpa using List.all_eq_true.1 hall t hm)
theorem card : Rows.FnDebugRefusedCardSaid :=
  Claim7.holds_tied_plain_at .later [] _ _ _ _ proved (fun _ h => by cases h) (by kernel_rfl) (fun _ h => by cases h) fnDebugRefused_row_tie rfl ⟨rfl, rfl⟩ Facts.mainIs rfl plain (by kernel_rfl)
#print axioms card
end Go.Proofs.YtabaldpjahcilaaDoor.fnDebugRefused
namespace Go.Proofs.YtabaldpjahcilaaDoor
/-- The row, under a short name, for the claim. -/
theorem fnDebugRefused_holds : Rows.FnDebugRefusedCardSaid := fnDebugRefused.card
end Go.Proofs.YtabaldpjahcilaaDoor
