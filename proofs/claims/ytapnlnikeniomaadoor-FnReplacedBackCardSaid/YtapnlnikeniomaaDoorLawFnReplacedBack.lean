-- WRITTEN BY A PROGRAM OF THIS SESSION (wip/print2.py): the print, with contracts of this session's own let in. Not trusted: Lean checks it.
import Derived.Test.YtapnlnikeniomaaDoorCards
import Derived.Test.YtapnlnikeniomaaDoorTie
import Derived.LaidMore
import Derived.OpenVars
import Derived.Test.YtapnlnikeniomaaDoorHShaped
import Derived.Lib.LaidTab
import Derived.LaidSub
import Derived.Stop.Joined
import Derived.SevenTiedAt
import Derived.Test.YtapnlnikeniomaaDoorFactsA
import Derived.Test.YtapnlnikeniomaaDoorFactsB
import Derived.Test.YtapnlnikeniomaaDoorFactsC
import Derived.Test.YtapnlnikeniomaaDoorFactsD
import Derived.Test.YtapnlnikeniomaaDoorQP2
import Derived.Test.YtapnlnikeniomaaDoorPureFnReplacedBack
import Derived.WalkKit
import Derived.ProofKit
import Derived.OpenShut
import Derived.ShutString
import Derived.ChangeOld
import Derived.Below
import Derived.SizedLaws
namespace Go.Proofs.YtapnlnikeniomaaDoor.fnReplacedBack
open Go.ChangeShapes Go.WideShapes Go.ChangeAt Go.RowKit
open Go.ChangeMaps (open_string shut_string)
set_option linter.unusedVariables false
theorem door_met (os : Os) (args : Array Value) : laidMetH Tryd.prog Rows.fnReplacedBackRow.laid ((World.doorLaid Tryd.prog 63 os).forCall (fun _ _ => 0) ⟨#[], args, []⟩).memory :=
  laidMetH_of_parts3 (fuel := 8) (laidMet_of_run' 8 (by kernel_rfl) (by kernel_rfl)) (by kernel_rfl) (by kernel_rfl)
theorem laidOut : laidOutB Tryd.prog = true := by kernel_rfl
theorem own : ownKnob Tryd.prog.godebug = none := by kernel_rfl
set_option maxRecDepth 100000 in
theorem lifted (os : Os) (started : os.Started) (H : Type) (enc : TypeId × Value → H) :
    ReturnsInHanded {} Tryd.checked os 6 .any (fun w args => (Rows.fnReplacedBackSpec.pre enc Tryd.prog Tryd.f6 [] false w args ∧ laidMetH Tryd.prog Rows.fnReplacedBackRow.laid w) ∧ sizedMet enc Tryd.prog Tryd.f6 (OpenSpec.ofChange Rows.fnReplacedBackSpec) false w args) (Rows.fnReplacedBackSpec.post enc Tryd.prog Tryd.f6 false true false false) := by
  refine Go.Proofs.YtapnlnikeniomaaDoor.H.handed_shaped (C := Tryd.checked) (X := fun w _ => laidMetH Tryd.prog Rows.fnReplacedBackRow.laid w) (fun _ _ _ hh h => h.of_heap hh) own started (by kernel_rfl) Tryd.func6
    (ChangeSpec.witness_shaped (enc := enc) (C := Tryd.checked) (os := os) (X := fun w _ => laidMetH Tryd.prog Rows.fnReplacedBackRow.laid w) false (World.doorLaid Tryd.prog 63 os) #[.int .u8 0, .string ByteArray.empty] 8 rfl (World.shaped_of_RefB (by kernel_rfl) (by kernel_rfl)) (by kernel_rfl) (by kernel_rfl) (by kernel_rfl) (door_met os _)) ?_
  intro W base args ds gs before hshaped hval0 hW hcnd hsz0 hL _
  obtain ⟨inst, htab⟩ := Go.Proofs.YtapnlnikeniomaaDoor.H.tab_with hshaped
  have hsz : (DataW.weightsEach Tryd.prog (Tryd.f6.params.toList ++ Rows.fnReplacedBackSpec.plain.varTypes Tryd.prog) (ds ++ gs)).all (· ≤ reachBytes) = true := hsz0
  have hval : ∀ (j : Nat) t v, Tryd.f6.params[j]? = some t → args[j]? = some v → Value.okWide Tryd.prog W .any base t v := hval0
  have hW' := hW
  obtain ⟨p, q, hA0, hV, rfl, hfz, hnd⟩ := hW
  have hA : DataW.TrodAll enc Tryd.prog W 0 (fun _ => true) true Tryd.f6.params.toList args.toList ds p := hA0
  rw [Tryd.params6] at hA hval hsz
  obtain ⟨v0, vs0, d0, ds0, p0, q0, hargs, rfl, rfl, h0, r0⟩ := trodAll_cons hA
  obtain ⟨v1, vs1, d1, ds1, p1, q1, rfl, rfl, rfl, h1, r1⟩ := trodAll_cons r0
  obtain ⟨rfl, rfl, rfl⟩ := trodAll_nil r1
  obtain rfl : args = #[v0, v1] := by cases args; simp_all
  obtain ⟨g1, g2, g3, g4, rfl⟩ := Go.Proofs.YtapnlnikeniomaaDoor.H.four_vars hV
  obtain ⟨a0, rfl, rfl, rfl, w0⟩ := open_int Tryd.underlying5 (hval 0 5 v0 rfl rfl) h0
  obtain ⟨a1, rfl, rfl, rfl, y1⟩ := open_string Tryd.underlying9 (hval 1 9 v1 rfl rfl) h1
  have w1 : a1.size ≤ 140737488351232 := by
    have z := sized_string hsz (j := 1) (t := 9) rfl rfl
    rw [Array.length_toList] at z
    exact z
  clear hA0 hval0 hsz0 hsz
  refine (QP.laws_FnReplacedBack.walk Pure.FnReplacedBack a0 a1 W htab w0 w1).mono fun e W' ⟨he, bel⟩ => ?_
  subst he
  exact ⟨_, rfl, _, _, _, [], _, _, hW', trodAll_mk1 (shut_bool Tryd.underlying4 _), (trodAll_cons_mk (shut_int Tryd.underlying5 w0) (trodAll_cons_mk (shut_string Tryd.underlying9 y1) trodAll_mk0)), Below.trodVars laidOut bel (by kernel_rfl) hV, bel.frame _, fun h => by cases h⟩
theorem lf : (Rows.fnReplacedBackRow.lifted == Tryd.pinned.checked.prog.liftsFinal) = true := beq_iff_eq.mpr Facts.liftsFinal.symm
theorem mk : (Tryd.pinned.checked.prog.make == some Rows.fnReplacedBackRow.make) = true := beq_iff_eq.mpr Facts.make
theorem joined : joinedFacts Tryd.pinned.checked.prog 6 Tryd.f6 Rows.fnReplacedBackSpec Rows.fnReplacedBackRow = true := by
  unfold joinedFacts
  rw [Facts.mayEnter, lf, mk]
  kernel_rfl
theorem over : Rows.fnReplacedBackRow.holds Tryd.pinned (OpenSpec.ofChange Rows.fnReplacedBackSpec) :=
  OpenClaim.holds_of_wide 6 Tryd.f6 rfl rfl rfl rfl rfl rfl rfl ⟨rfl, rfl, rfl, rfl, rfl⟩ rfl rfl rfl rfl rfl (by kernel_rfl) Tryd.func6 joined
    (of_decide_eq_true (by kernel_rfl)) (by unfold Func.isWrapper; first | (rw [if_pos (by decide +kernel)]; kernel_rfl) | (rw [if_neg (by decide +kernel)]; exact ⟨rfl, rfl⟩))
    (fun os started H enc _ => lifted os started H enc)
theorem proved : Rows.FnReplacedBackSaid := over
theorem plain (f : FuncId) (fn : Func) (hf : Tryd.pinned.checked.prog.funcNamed "given.example/pub-conveyance/laws.FnReplacedBack" = some f) (hfn : Tryd.pinned.checked.prog.funcs[f]? = some fn) :
    false = Tryd.pinned.checked.prog.looks [] ∧ ∀ (j : Nat) t, fn.params[j]? = some t → Tryd.pinned.checked.prog.wantsStandIn t = false := by
  obtain rfl : f = 6 := Option.some.inj ((show Tryd.prog.funcNamed "given.example/pub-conveyance/laws.FnReplacedBack" = some 6 by kernel_rfl).symm.trans hf) |>.symm
  obtain rfl : fn = Tryd.f6 := (Option.some.inj (Tryd.func6.symm.trans hfn)).symm
  refine ⟨by kernel_rfl, fun j t ht => ?_⟩
  rw [Tryd.params6] at ht
  have hm : t ∈ [5, 9] := by simpa using Array.mem_of_getElem? ht
  have hall : ([5, 9].all fun u => !Tryd.prog.wantsStandIn u) = true := by kernel_rfl
  exact (show Tryd.prog.wantsStandIn t = false by simpa using List.all_eq_true.1 hall t hm)
theorem card : Rows.FnReplacedBackCardSaid :=
  Claim7.holds_tied_plain_at .later [] _ _ _ _ proved (fun _ h => by cases h) (by kernel_rfl) (fun _ h => by cases h) fnReplacedBack_row_tie rfl ⟨rfl, rfl⟩ Facts.mainIs rfl plain (by kernel_rfl)
#print axioms card
end Go.Proofs.YtapnlnikeniomaaDoor.fnReplacedBack
namespace Go.Proofs.YtapnlnikeniomaaDoor
/-- The row, under a short name, for the claim. -/
theorem fnReplacedBack_holds : Rows.FnReplacedBackCardSaid := fnReplacedBack.card
end Go.Proofs.YtapnlnikeniomaaDoor
