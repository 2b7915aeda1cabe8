/-
  MERGED BY A PROGRAM OF THIS SESSION (wip/pack.py): PureFnNamedManyOf, LawFnNamedManyOf.
-/
import Derived.Test.YtnmhoghmhglimaaDoorZH
import Derived.Test.YtnmhoghmhglimaaDoorZJ
import Derived.Test.YtnmhoghmhglimaaDoorZI
import Derived.Test.YtnmhoghmhglimaaDoorCards
import Derived.Test.YtnmhoghmhglimaaDoorTie
import Derived.LaidMore
import Derived.Lib.LaidTab
import Derived.LaidSub
import Derived.Stop.Joined
import Derived.SevenTiedAt
import Derived.Test.YtnmhoghmhglimaaDoorFactsA
import Derived.Test.YtnmhoghmhglimaaDoorFactsB
import Derived.Test.YtnmhoghmhglimaaDoorFactsC
import Derived.Test.YtnmhoghmhglimaaDoorFactsD
import Derived.Test.YtnmhoghmhglimaaDoorZG
import Derived.Test.YtnmhoghmhglimaaDoorZK
import Derived.WalkKit
import Derived.ProofKit
import Derived.OpenShut
import Derived.ShutString
import Derived.ChangeOld
import Derived.Below
import Derived.SizedLaws
import Derived.SliceStrings
/-
  PROVED: 'laws.FnNamedManyOf': a text for several lists of arguments, with placeholders of a kind, as the reference says where it is sure. No condition.
-/
namespace Go.Proofs.YtnmhoghmhglimaaDoor.Pure
open Go.RowKit Go.Proofs.YtnmhoghmhglimaaDoor.QN Go.Proofs.YtnmhoghmhglimaaDoor.H Go.Proofs.YtnmhoghmhglimaaDoor.SC Go.Proofs.YtnmhoghmhglimaaDoor.SN Go.Proofs.YtnmhoghmhglimaaDoorW.PrintWords Go.Proofs.YtnmhoghmhglimaaDoorW.PrintLast Go.Proofs.YtnmhoghmhglimaaDoorW.PrintMore

theorem many_size {s : ByteArray} (hs : s.size ≤ 4096) {rows : List (List S54)} (hrl : rows.length ≤ 6) {r : ByteArray × List S52} (h : manyF 1 s rows = some r) (hs1 : s.size ≤ 1000 := by omega) : r.1.size ≤ 40000 := by
  unfold manyF at h
  cases hR : runC 1 s.data.toList false [] [] [] with
  | none =>
    rw [hR] at h
    cases h
  | some q =>
    rw [hR] at h
    have h' : (if rows = [] then none else (allOf (textsL q.1) rows).map fun vs => (reText 1 (if 1 < rows.length then fixF ⟨q.2.toArray⟩ rows.length else ⟨q.2.toArray⟩), vs)) = some r := h
    split at h'
    · cases h'
    · obtain ⟨vs, h1, h2⟩ := Option.map_eq_some_iff.1 h'
      subst h2
      have h3 := runC_out _ _ _ _ _ _ hR
      have h4 : s.data.toList.length = s.size := Array.length_toList
      have h5 : (⟨q.2.toArray⟩ : ByteArray).size ≤ 2000 := by
        show q.2.length ≤ _
        simp only [List.length_nil] at h3
        omega
      have e4 : ∀ t, reText 1 t = t := fun t => if_pos (.inl rfl)
      split
      · show (reText 1 (fixF ⟨q.2.toArray⟩ rows.length)).size ≤ _
        rw [e4]
        have h6 := fixF_size ⟨q.2.toArray⟩ rows.length (by omega) 2000 h5
        have h7 := Nat.mul_le_mul hrl (Nat.le_refl (2000 + 1))
        omega
      · show (reText 1 ⟨q.2.toArray⟩).size ≤ _
        rw [e4]
        omega
theorem FnNamedManyOf (a0 : Int) (s : ByteArray) (rows : List (List S54)) (h0 : (Lit.int .u8 a0).wf = true) (hr : ∀ r ∈ rows, r.length ≤ 9223372036854775807) : ∃ k, laws_FnNamedManyOf.f k a0 s rows = some true := by
  have j0T : Ev (fun k => laws_FnNamedManyOf.j0 k a0 s rows true) true := Ev.step (f := fun _ => some true) (fun k => by simp only [laws_FnNamedManyOf.j0]; rw [if_pos trivial]) (Ev.now _)
  have j1T : Ev (fun k => laws_FnNamedManyOf.j1 k a0 s rows true) true := Ev.step (f := fun _ => some true) (fun k => by simp only [laws_FnNamedManyOf.j1]; rw [if_pos trivial]) (Ev.now _)
  refine Ev.rounds (g := fun k => laws_FnNamedManyOf.f k a0 s rows) ?_
  by_cases h1 : (s.size : Int) > 2147483647
  · exact Ev.congr (fun k => by simp only [laws_FnNamedManyOf.f]; rw [if_pos h1]) j0T
  by_cases h2 : (rows.length : Int) > 2147483647
  · exact Ev.congr (fun k => by simp only [laws_FnNamedManyOf.f]; rw [if_neg h1, decide_eq_true h2]) j0T
  refine Ev.congr (f := fun k => laws_FnNamedManyOf.j0 k a0 s rows false) (fun k => by simp only [laws_FnNamedManyOf.f]; rw [if_neg h1, decide_eq_false h2]) ?_
  by_cases h3 : (s.size : Int) > 1000
  · refine Ev.step (fun k => ?_) j1T
    simp only [laws_FnNamedManyOf.j0]
    rw [if_neg (by decide), if_pos h3]
  obtain ⟨b, hE, hb⟩ := rows9_is rows (by omega) hr
  refine Ev.step (f := fun k => (laws_rows9.f k rows).bind fun t => laws_FnNamedManyOf.j1 k a0 s rows (!t)) (fun k => ?_) (Ev.bind hE ?_)
  · simp only [laws_FnNamedManyOf.j0]
    rw [if_neg (by decide), if_neg h3]
  cases b with
  | false => exact j1T
  | true =>
    have hs : s.size ≤ 4096 := by omega
    obtain ⟨hrl, hok⟩ := hb rfl
    have hargs : ∀ r ∈ rows, ArgsOk r := fun r hr => (hok r hr).1
    obtain ⟨res, hres, hsure, hun⟩ := namedMany_is s hs rows (by omega) (fun r hr => by have := (hok r hr).2; omega)
    obtain ⟨kd, hk, k0, k4⟩ := kind_is a0 h0
    have hi := many_law kd k0 k4 s hs rows (by omega) hargs
    refine Ev.step (f := fun k => (spec_NamedMany.f k s rows).bind fun bt266 => (if bt266.2.2.2 = true then ((laws_kind9.f a0).bind fun t272 => ((impl_NamedManyOf.f t272 s rows).bind fun bt273 => (if (bt273.2.2 == bt266.2.2.1) = true then (if bt266.2.2.1 = true then ((laws_kind9.f a0).bind fun t278 => ((spec_Rebound.f k t278 bt266.1).bind fun t279 => (if bt273.1.toList = t279.toList then ((spec_EqualValues.f bt266.2.1 bt273.2.1).bind fun t280 => (some t280)) else (some false)))) else (some true)) else (some false)))) else (some true))) (fun k => ?_) (Ev.bind hres ?_)
    · simp only [laws_FnNamedManyOf.j1]
      rw [Bool.not_true, if_neg (by decide)]
    by_cases hsu : (bitsOf s).2.2 = true
    · rcases hsure hsu with ⟨hm, hr1⟩ | ⟨r, hm, e1, e2, e3⟩
      · rw [hm] at hi
        refine Ev.congr (f := fun _ => some true) (fun k => ?_) (Ev.now _)
        rw [hr1, if_pos rfl, hk, Option.bind_some, hi, Option.bind_some, if_pos (by simp), if_neg (by simp)]
      · rw [hm] at hi
        have hd := many_deep hs (by omega) hargs hm
        have hsz := many_size hs (by omega) hm
        obtain ⟨x1, x2, x3, x4⟩ := res
        have e1' : x2 = r.2 := e1
        have e2' : x3 = true := e2
        subst e1' e2'
        cases x4 with
        | false =>
          refine Ev.congr (f := fun _ => some true) (fun k => ?_) (Ev.now _)
          rw [if_neg (by simp)]
        | true =>
          have e3' : x1 = r.1 := e3 rfl
          subst e3'
          refine Ev.congr (f := fun k => (spec_Rebound.f k kd r.1).bind fun t279 => (if (reText kd r.1).toList = t279.toList then ((spec_EqualValues.f r.2 r.2).bind fun t280 => (some t280)) else (some false))) (fun k => ?_) (Ev.bind (SR.rebound_is kd ⟨k0, k4⟩ r.1 hsz) (Ev.congr (f := fun _ => some true) (fun k => ?_) (Ev.now _)))
          · rw [if_pos rfl, hk, Option.bind_some, hi, Option.bind_some, if_pos (by simp), if_pos rfl, Option.bind_some]
          · rw [if_pos (by rfl), equal_self _ hd, Option.bind_some]
    · refine Ev.congr (f := fun _ => some true) (fun k => ?_) (Ev.now _)
      rw [hun hsu, if_neg (by decide)]
end Go.Proofs.YtnmhoghmhglimaaDoor.Pure
-- WRITTEN BY A PROGRAM OF THIS SESSION (wip/rowtexts.py). Not trusted: Lean checks it.
namespace Go.Proofs.YtnmhoghmhglimaaDoor.fnNamedManyOf
open Go.ChangeShapes Go.WideShapes Go.ChangeAt Go.RowKit
open Go.ChangeMaps (open_string shut_string)
open Go.Proofs.YtnmhoghmhglimaaDoorW.PrintWords
set_option linter.unusedVariables false
/-- A list of texts, as an argument's cells hold it. -/
theorem texts_C {W : World} {a : Addr} {len c : Nat} {ss : List ByteArray} (hl : len ≤ c) (hm : c ≤ maxLen) (hz : ss.length = c) (hc : ∀ i, i < ss.length → W.cell? (a.add i) = some (.string (ss.getD i ByteArray.empty))) : Kd.C Kd.string W (some a) len (ss.take len) := by
  refine ⟨by rw [List.length_take]; omega, by simp only [maxLen] at hm; omega, fun _ => ⟨a, rfl, fun j p hj => ⟨[.string p], rfl, rfl, fun i u hu => ?_⟩⟩⟩
  obtain ⟨hj2, hj3⟩ := List.getElem?_eq_some_iff.1 hj
  have hj4 : j < ss.length := by rw [List.length_take] at hj2; omega
  have hp : ss.getD j ByteArray.empty = p := by
    rw [← hj3, List.getElem_take]
    simp [List.getD, hj4]
  cases i with
  | zero =>
    simp at hu
    subst hu
    rw [← hp]
    show W.cell? (a.add (j * 1 + 0)) = _
    rw [Nat.mul_one, Nat.add_zero]
    exact hc j hj4
  | succ i => simp at hu
theorem laidOut : laidOutB Tryd.prog = true := by kernel_rfl
theorem door_met (os : Os) (args : Array Value) : laidMetH Tryd.prog Rows.fnNamedManyOfRow.laid ((World.doorLaid Tryd.prog 43 os).forCall (fun _ _ => 0) ⟨#[], args, []⟩).memory :=
  laidMetH_of_parts3 (fuel := 8) (laidMet_of_run' 8 (by kernel_rfl) (by kernel_rfl)) (by kernel_rfl) (by kernel_rfl)
theorem gTab : Tryd.prog.globalNamed "internal/strconv.uint64pow10" = some 2 := by kernel_rfl
theorem tab_of_laid {W : World} (h : laidMetH Tryd.prog Rows.fnNamedManyOfRow.laid W) : H.Tab W := by
  have h2 := h.filter (fun x => x.1 == "internal/strconv.uint64pow10")
  have e : (Rows.fnNamedManyOfRow.laid.filter fun x => x.1 == "internal/strconv.uint64pow10") = [("internal/strconv.uint64pow10", Lib.tabData .u64 Lib.pow10Tab)] := by kernel_rfl
  rw [e] at h2
  have h3 : laidMet Tryd.prog [("internal/strconv.uint64pow10", Lib.tabData .u64 Lib.pow10Tab)] W := h2
  exact Lib.tabIs_of_head (rest := []) gTab (t := 148) (e := 131) (n := 20) (by kernel_rfl) (by kernel_rfl) (by kernel_rfl) (by kernel_rfl) (by kernel_rfl) h3
theorem own : ownKnob Tryd.prog.godebug = none := by kernel_rfl
set_option maxRecDepth 100000 in
theorem lifted (os : Os) (started : os.Started) (H : Type) (enc : TypeId × Value → H) :
    ReturnsInHanded {} Tryd.checked os 14 .any (fun w args => (Rows.fnNamedManyOfSpec.pre enc Tryd.prog Tryd.f14 [] false w args ∧ laidMetH Tryd.prog Rows.fnNamedManyOfRow.laid w) ∧ sizedMet enc Tryd.prog Tryd.f14 (OpenSpec.ofChange Rows.fnNamedManyOfSpec) false w args) (Rows.fnNamedManyOfSpec.post enc Tryd.prog Tryd.f14 false true false false) := by
  refine returnsInHanded_of_change_and (C := Tryd.checked) (X := fun w _ => laidMetH Tryd.prog Rows.fnNamedManyOfRow.laid w) (fun _ _ _ hh h => h.of_heap hh) own started (by kernel_rfl) Tryd.func14
    (ChangeSpec.witness_shaped (enc := enc) (C := Tryd.checked) (os := os) (X := fun w _ => laidMetH Tryd.prog Rows.fnNamedManyOfRow.laid w) false (World.doorLaid Tryd.prog 43 os) #[.int .u8 0, .string ByteArray.empty, .slice none 0 0] 8 rfl (World.shaped_of_RefB (by kernel_rfl) (by kernel_rfl)) (by kernel_rfl) (by kernel_rfl) (by kernel_rfl) (door_met os _)) ?_
  intro W base args ds gs before hval0 hW hcnd hsz0 hL _
  have hsz : (DataW.weightsEach Tryd.prog (Tryd.f14.params.toList ++ Rows.fnNamedManyOfSpec.plain.varTypes Tryd.prog) (ds ++ gs)).all (· ≤ reachBytes) = true := hsz0
  have hval : ∀ (j : Nat) t v, Tryd.f14.params[j]? = some t → args[j]? = some v → Value.okWide Tryd.prog W .any base t v := hval0
  have hW' := hW
  obtain ⟨p, q, hA0, hV, rfl, hfz, hnd⟩ := hW
  have hA : DataW.TrodAll enc Tryd.prog W 0 (fun _ => true) true Tryd.f14.params.toList args.toList ds p := hA0
  rw [Tryd.params14] at hA hval hsz
  obtain ⟨v0, vs0, d0, ds0, p0, q0, hargs, rfl, rfl, h0, r0⟩ := trodAll_cons hA
  obtain ⟨v1, vs1, d1, ds1, p1, q1, rfl, rfl, rfl, h1, r1⟩ := trodAll_cons r0
  obtain ⟨v2, vs2, d2, ds2, p2, q2, rfl, rfl, rfl, h2, r2⟩ := trodAll_cons r1
  obtain ⟨rfl, rfl, rfl⟩ := trodAll_nil r2
  obtain rfl : args = #[v0, v1, v2] := by cases args; simp_all
  obtain ⟨rfl, rfl⟩ := trodVars_none hV
  obtain ⟨a0, rfl, rfl, rfl, w0⟩ := open_int Tryd.underlying5 (hval 0 5 v0 rfl rfl) h0
  obtain ⟨a1, rfl, rfl, rfl, y1⟩ := open_string Tryd.underlying9 (hval 1 9 v1 rfl rfl) h1
  obtain ⟨A2, n2, c2, rfl⟩ := okWide_slice Tryd.underlying58 (hval 2 58 v2 rfl rfl)
  have k2 := h2
  have lt2 : ∀ x ∈ p2, x.block < W.heap.size := by obtain ⟨m, hm⟩ := k2; exact DataW.trod_lt m _ _ _ hm
  obtain ⟨l2, e2, w2, u2⟩ : ∃ l : List (List QN.S54), n2 = l.length ∧ Kd.C (Kd.slice 54 QN.k54) W A2 l.length l ∧ l.length ≤ c2 := by
    obtain ⟨fuel, hf⟩ := h2
    obtain ⟨l, A, c, hcs, hl, hC⟩ := Go.Proofs.YtnmhoghmhglimaaDoor.H.opens_rows hf
    simp [Value.cells] at hcs
    obtain ⟨rfl, rfl, rfl⟩ := hcs
    exact ⟨l, rfl, hC, hl⟩
  subst e2
  clear hA0 hval0 hsz0 hsz
  obtain ⟨k, hk⟩ := Pure.FnNamedManyOf a0 a1 l2 w0 (Go.Proofs.YtnmhoghmhglimaaDoor.H.rows_len w2)
  refine (QN.laws_FnNamedManyOf.calls k a0 a1 A2 c2 l2 true W (tab_of_laid hL) w2 u2 hk).mono fun e W' ⟨he, bel⟩ => ?_
  subst he
  exact ⟨_, rfl, _, _, _, [], _, [], hW', trodAll_mk1 (shut_bool Tryd.underlying4 _), (trodAll_cons_mk (shut_int Tryd.underlying5 w0) (trodAll_cons_mk (shut_string Tryd.underlying9 y1) (trodAll_cons_mk (Below.trod laidOut (by kernel_rfl) (of_decide_eq_true (by kernel_rfl)) k2 bel lt2) trodAll_mk0))), rfl, bel.frame _, fun h => by cases h⟩
theorem lf : (Rows.fnNamedManyOfRow.lifted == Tryd.pinned.checked.prog.liftsFinal) = true := beq_iff_eq.mpr Facts.liftsFinal.symm
theorem mk : (Tryd.pinned.checked.prog.make == some Rows.fnNamedManyOfRow.make) = true := beq_iff_eq.mpr Facts.make
theorem joined : joinedFacts Tryd.pinned.checked.prog 14 Tryd.f14 Rows.fnNamedManyOfSpec Rows.fnNamedManyOfRow = true := by
  unfold joinedFacts
  rw [Facts.mayEnter, lf, mk]
  kernel_rfl
theorem over : Rows.fnNamedManyOfRow.holds Tryd.pinned (OpenSpec.ofChange Rows.fnNamedManyOfSpec) :=
  OpenClaim.holds_of_wide 14 Tryd.f14 rfl rfl rfl rfl rfl rfl rfl ⟨rfl, rfl, rfl, rfl, rfl⟩ rfl rfl rfl rfl rfl (by kernel_rfl) Tryd.func14 joined
    (of_decide_eq_true (by kernel_rfl)) (by unfold Func.isWrapper; first | (rw [if_pos (by decide +kernel)]; kernel_rfl) | (rw [if_neg (by decide +kernel)]; exact ⟨rfl, rfl⟩))
    (fun os started H enc _ => lifted os started H enc)
theorem proved : Rows.FnNamedManyOfSaid := over
theorem plain (f : FuncId) (fn : Func) (hf : Tryd.pinned.checked.prog.funcNamed "given.example/pub-conveyance/laws.FnNamedManyOf" = some f) (hfn : Tryd.pinned.checked.prog.funcs[f]? = some fn) :
    true = Tryd.pinned.checked.prog.looks [] ∧ ∀ (j : Nat) t, fn.params[j]? = some t → Tryd.pinned.checked.prog.wantsStandIn t = false := by
  obtain rfl : f = 14 := Option.some.inj ((show Tryd.prog.funcNamed "given.example/pub-conveyance/laws.FnNamedManyOf" = some 14 by kernel_rfl).symm.trans hf) |>.symm
  obtain rfl : fn = Tryd.f14 := (Option.some.inj (Tryd.func14.symm.trans hfn)).symm
  refine ⟨by kernel_rfl, fun j t ht => ?_⟩
  rw [Tryd.params14] at ht
  have hm : t ∈ [5, 9, 58] := by simpa using Array.mem_of_getElem? ht
  have hall : ([5, 9, 58].all fun u => !Tryd.prog.wantsStandIn u) = true := by kernel_rfl
  exact (show Tryd.prog.wantsStandIn t = false by simpa using List.all_eq_true.1 hall t hm)
theorem card : Rows.FnNamedManyOfCardSaid :=
  Claim7.holds_tied_plain_at .later [] _ _ _ _ proved (fun _ h => by cases h) (by kernel_rfl) (fun _ h => by cases h) fnNamedManyOf_row_tie rfl ⟨rfl, rfl⟩ Facts.mainIs rfl plain (by kernel_rfl)
#print axioms card
end Go.Proofs.YtnmhoghmhglimaaDoor.fnNamedManyOf
namespace Go.Proofs.YtnmhoghmhglimaaDoor
/-- The row, under a short name, for the claim. -/
theorem fnNamedManyOf_holds : Rows.FnNamedManyOfCardSaid := fnNamedManyOf.card
end Go.Proofs.YtnmhoghmhglimaaDoor
