/-
  The world that a tied row's claim holds has strconv's table with twenty numbers in it, whatever they are.
-/
import Derived.Test.YtapnlnikeniomaaDoorHRow
import Derived.Handed
import Derived.Lib.LaidTab
namespace Go.Proofs.YtapnlnikeniomaaDoor.H
open Go
set_option linter.unusedVariables false

theorem handed_shaped {H : Type} {enc : TypeId × Value → H} {a : Assume} {C : Checked} {os : Os} {f : FuncId} {fn : Func} {s : ChangeSpec} {conds : List PathCond} {apart fresh handsOn again : Bool} {X : World → Array Value → Prop}
    (hX : ∀ (w w' : World) (args : Array Value), w.heap = w'.heap → X w args → X w' args)
    (own : ownKnob C.prog.godebug = none) (started : os.Started) (noInit : C.prog.inits.idxOf? f = none) (hfn : C.prog.funcs[f]? = some fn)
    (witness : ∃ (w : World) (tape : Tape) (i : Input), w.os = os ∧ (w.forCall tape i).Shaped C.prog ∧ i.vars = [] ∧ Input.okWide C.prog (w.forCall tape i) .any w.heap.size f i ∧
      ((s.pre enc C.prog fn conds apart (w.forCall tape i).memory i.args ∧ X (w.forCall tape i).memory i.args) ∧ sizedMet enc C.prog fn (OpenSpec.ofChange s) apart (w.forCall tape i).memory i.args) ∧ a.holds C.prog (lone (Frame.enter C.prog f i.args .normal) [] (w.forCall tape i)))
    (contract : ∀ (W : World) (base : Nat) (args : Array Value) (ds gs : List (DataW H)) (before : List MemPlace), W.ShapedOpen C.prog →
      (∀ (j : Nat) t v, fn.params[j]? = some t → args[j]? = some v → Value.okWide C.prog W .any base t v) →
      DataW.Whole enc C.prog fn.params.toList s.vars apart W args.toList ds gs before →
      conds.all (PathCond.test C.prog ⟨fn.params.toList, ds, s.plain.varTypes C.prog, gs⟩) = true →
      (DataW.weightsEach C.prog (fn.params.toList ++ s.plain.varTypes C.prog) (ds ++ gs)).all (· ≤ reachBytes) = true → X W args →
      a.holds C.prog (lone (Frame.enter C.prog f args .normal) [] W) →
      Calls C.prog f args W fun e W' => ∃ v, e = .returned v ∧ s.post enc C.prog fn apart fresh handsOn again W args v W') :
    ReturnsInHanded a C os f .any (fun w args => (s.pre enc C.prog fn conds apart w args ∧ X w args) ∧ sizedMet enc C.prog fn (OpenSpec.ofChange s) apart w args) (s.post enc C.prog fn apart fresh handsOn again) := by
  refine returnsInHanded_of_calls own started noInit witness ?_
  intro w tape i _ hsh _ hok hpre hholds
  obtain ⟨_, _, _, fn', hfn', _, _, _, _, hval⟩ := hok
  have e : fn' = fn := Option.some.inj (hfn'.symm.trans hfn)
  subst e
  obtain ⟨⟨⟨ds, gs, before, hw, hc⟩, hx⟩, hz⟩ := hpre
  have hw' := DataW.Whole.of_heap (w' := w.forCall tape i) (by rfl) hw
  refine (contract (w.forCall tape i) w.heap.size i.args ds gs before hsh hval hw' hc (hz.weights hw) (hX _ _ _ (by rfl) hx) hholds).mono fun e W' ⟨v, he, hp⟩ => ?_
  subst he
  exact ChangeSpec.post_blind hp
theorem four_vars {H : Type} {enc : TypeId × Value → H} {P : Program} {w : World} {sp : Nat → Bool} {n1 n2 n3 n4 : String} : ∀ {gs : List (DataW H)} {ps : List MemPlace}, DataW.TrodVars enc P w sp [n1, n2, n3, n4] gs ps → ∃ g1 g2 g3 g4, gs = [g1, g2, g3, g4]
  | [], _, h => h.elim
  | [_], _, ⟨_, _, _, _, _, _, _, _, _, _, h, _⟩ => h.elim
  | [_, _], _, ⟨_, _, _, _, _, _, _, _, _, _, ⟨_, _, _, _, _, _, _, _, _, _, h, _⟩, _⟩ => h.elim
  | [_, _, _], _, ⟨_, _, _, _, _, _, _, _, _, _, ⟨_, _, _, _, _, _, _, _, _, _, ⟨_, _, _, _, _, _, _, _, _, _, h, _⟩, _⟩, _⟩ => h.elim
  | [g1, g2, g3, g4], _, _ => ⟨g1, g2, g3, g4, rfl⟩
  | _ :: _ :: _ :: _ :: _ :: _, _, ⟨_, _, _, _, _, _, _, _, _, _, ⟨_, _, _, _, _, _, _, _, _, _, ⟨_, _, _, _, _, _, _, _, _, _, ⟨_, _, _, _, _, _, _, _, _, _, h, _⟩, _⟩, _⟩, _⟩ => h.elim
def numOf : Value → Int
  | .int _ z => z
  | _ => 0
set_option maxRecDepth 100000 in
theorem tab_any {W : World} (h : W.ShapedOpen Tryd.prog) : ∃ zs : List Int, zs.length = 20 ∧ Lib.TabIs Tryd.prog W "internal/strconv.uint64pow10" .u64 zs := by
  obtain ⟨cs, hg, hsz, hok⟩ := h.1 5 (Array.replicate 20 (.int .u64 0)) 79 (of_decide_eq_true (by kernel_rfl)) (by kernel_rfl)
  obtain ⟨ts, hts, _, hall⟩ := hok (by kernel_rfl)
  have hts2 : Tryd.prog.cellTypes Tryd.prog.depth 79 = some (List.replicate 20 72) := by kernel_rfl
  rw [hts2] at hts
  have hts3 := Option.some.inj hts
  subst hts3
  have hsz' : cs.size = 20 := by simpa using hsz
  have each : ∀ v ∈ cs.toList, v = .int .u64 (numOf v) := by
    intro v hv
    obtain ⟨i, hi, rfl⟩ := List.mem_iff_getElem.1 hv
    have hi' : i < cs.size := by simpa using hi
    obtain ⟨u, hu, hc⟩ := hall i cs[i] (Array.getElem?_eq_getElem hi')
    have hut : u = 72 := List.eq_of_mem_replicate (List.mem_of_getElem? hu)
    subst hut
    have e : cs.toList[i] = cs[i] := Array.getElem_toList ..
    rw [e]
    generalize cs[i] = v at hc
    unfold Cell.ok at hc
    rw [Tryd.underlying72] at hc
    cases v <;> first | exact False.elim hc | (obtain ⟨rfl, _⟩ := hc; rfl)
  refine ⟨cs.toList.map numOf, by simpa using hsz', ?_⟩
  have hn : Tryd.prog.globalNamed "internal/strconv.uint64pow10" = some 5 := by kernel_rfl
  unfold Lib.TabIs World.var?
  rw [hn, Option.bind_some, hg]
  simp only []
  rw [List.map_map]
  congr 1
  apply Array.ext'
  have : List.map ((fun z => Value.int .u64 z) ∘ numOf) cs.toList = cs.toList := by
    have h2 : List.map ((fun z => Value.int .u64 z) ∘ numOf) cs.toList = List.map id cs.toList := List.map_congr_left (fun v hv => (each v hv).symm)
    rw [h2, List.map_id]
  simpa using this.symm
theorem tab_with {W : World} (h : W.ShapedOpen Tryd.prog) : ∃ i : Inhabited TabT, @Tab i W := by
  obtain ⟨zs, hl, ht⟩ := tab_any h
  exact ⟨⟨zs⟩, ht, hl⟩
end Go.Proofs.YtapnlnikeniomaaDoor.H
