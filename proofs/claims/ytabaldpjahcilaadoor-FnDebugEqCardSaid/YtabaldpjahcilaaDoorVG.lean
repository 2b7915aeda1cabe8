/-
  MERGED BY A PROGRAM OF THIS SESSION (wip/pack.py): Open, OpenN, QD7, SDbg, SCond0.
-/
import Derived.Test.YtabaldpjahcilaaDoorVD
import Derived.Deep.Slices
import Derived.ChangeArms
import Derived.Test.YtabaldpjahcilaaDoorVF
import Derived.Test.YtabaldpjahcilaaDoorVB
import Derived.Lib.ItoaMem
/-
  ARGUMENTS as a row's claim holds them: values, arguments with names, lists of these and lists of lists, opened into the print's kinds.
-/
namespace Go.Proofs.YtabaldpjahcilaaDoor.H
open Go.RowKit Go.Proofs.YtabaldpjahcilaaDoorW.PrintWords Go.Proofs.YtabaldpjahcilaaDoorW.PrintLast Go.Proofs.YtabaldpjahcilaaDoorW.PrintMore Go.Proofs.YtabaldpjahcilaaDoor.QD
set_option linter.unusedSimpArgs false
section
variable {H : Type} {enc : TypeId × Value → H} {w : World} {base : Nat} {spare : Nat → Bool} {held : Bool}

theorem opens_slice {α : Type} (d : Kd α) (z : α) {t e : TypeId} (ht : Tryd.prog.underlying t = some (.slice e)) (hsz : Tryd.prog.cellsOf e = d.sz) {fuel : Nat}
    (he : ∀ n, n < fuel → ∀ cs x, DataW.trod enc Tryd.prog w base spare held n e cs = some x → ∃ v, d.K w v cs) {cs : List Value} {x : DataW H × List MemPlace}
    (h : DataW.trod enc Tryd.prog w base spare held fuel t cs = some x) : ∃ (l : List α) (A : Option Addr) (c : Nat), cs = [.slice A l.length c] ∧ l.length ≤ c ∧ d.C w A l.length l := by
  rcases DataW.trod_slice ht h with ⟨rfl, _⟩ | ⟨a, len, cap, elems, rest, n, rfl, rfl, _, _, hl, hm, hlen, hel, _, _⟩
  · exact ⟨[], none, 0, rfl, Nat.le_refl _, Kd.C_nil _ _⟩
  · have each : ∀ i, i < len → ∃ v : α, ∃ c, w.cells? base (a.add (i * d.sz)) d.sz = some c ∧ d.K w v c := by
      intro i hi
      have h1 := hel i hi
      rw [List.getElem?_eq_getElem (by omega), Option.bind_eq_some_iff, hsz] at h1
      obtain ⟨c, h2, h3⟩ := h1
      obtain ⟨v, hv⟩ := he n (Nat.lt_succ_self n) _ _ h3
      exact ⟨v, c, h2, hv⟩
    haveI : Inhabited α := ⟨z⟩
    obtain ⟨V, hV⟩ := Deep.choose_lt each
    have hll : ((List.range len).map V).length = len := by simp
    refine ⟨(List.range len).map V, some a, cap, by rw [hll], by rw [hll]; exact hl, rfl, by rw [hll]; simp only [maxLen] at hm; omega, fun _ => ⟨a, rfl, fun j p hj => ?_⟩⟩
    obtain ⟨hj1, hj2⟩ := List.getElem?_eq_some_iff.1 hj
    rw [hll] at hj1
    rw [List.getElem_map, List.getElem_range] at hj2
    obtain ⟨c, h2, h3⟩ := hV j hj1
    obtain ⟨_, hcl, hcc⟩ := World.cells?_some h2
    refine ⟨c, hcl, by rw [← hj2]; exact h3, fun i u hu => ?_⟩
    have hi : i < c.length := (List.getElem?_eq_some_iff.1 hu).1
    have h4 := hcc i (by omega)
    rw [add_add] at h4
    rw [h4]
    exact hu
set_option maxRecDepth 100000 in
theorem opens_val : ∀ (fuel : Nat) (cs : List Value) (x : DataW H × List MemPlace), DataW.trod enc Tryd.prog w base spare held fuel 27 cs = some x → ∃ v : S27, k27.K w v cs := by
  intro fuel
  induction fuel using Nat.strongRecOn with
  | _ fuel ih =>
    intro cs x h
    obtain ⟨xs, n, rfl, _, hl, hxl, hf⟩ := DataW.trod_struct Tryd.underlying27 h
    rw [show Tryd.prog.cellsOf 27 = 4 by kernel_rfl] at hl
    match cs, hl, xs, hxl with
    | [v0, v1, v2, v3], _, [y0, y1, y2, y3], _ =>
      have g0 : DataW.trod enc Tryd.prog w base spare held n 3 (List.take (Tryd.prog.cellsOf 3) (List.drop 0 [v0, v1, v2, v3])) = some y0 := hf 0 _ rfl
      have g1 : DataW.trod enc Tryd.prog w base spare held n 2 (List.take (Tryd.prog.cellsOf 2) (List.drop 1 [v0, v1, v2, v3])) = some y1 := hf 1 _ rfl
      have g2 : DataW.trod enc Tryd.prog w base spare held n 9 (List.take (Tryd.prog.cellsOf 9) (List.drop 2 [v0, v1, v2, v3])) = some y2 := hf 2 _ rfl
      have g3 : DataW.trod enc Tryd.prog w base spare held n 22 (List.take (Tryd.prog.cellsOf 22) (List.drop 3 [v0, v1, v2, v3])) = some y3 := hf 3 _ rfl
      rw [show Tryd.prog.cellsOf 3 = 1 by kernel_rfl] at g0
      rw [show Tryd.prog.cellsOf 2 = 1 by kernel_rfl] at g1
      rw [show Tryd.prog.cellsOf 9 = 1 by kernel_rfl] at g2
      rw [show Tryd.prog.cellsOf 22 = 1 by kernel_rfl] at g3
      simp only [List.drop_zero, List.drop_succ_cons, List.take_succ_cons, List.take_zero, List.getElem?_cons_zero, List.getElem?_cons_succ] at g0 g1 g2 g3
      obtain ⟨n0, e0, _⟩ := DataW.trod_int Tryd.underlying3 g0
      obtain ⟨n1, e1, _⟩ := DataW.trod_int Tryd.underlying2 g1
      obtain ⟨s2, e2, _⟩ := DataW.trod_string Tryd.underlying9 g2
      obtain ⟨l, A, c, e3, hlc, hC⟩ := opens_slice k27 z27 Tryd.underlying22 (by kernel_rfl) (fun m hm cs x hx => ih m (by omega) cs x hx) g3
      injection e0 with e0
      injection e1 with e1
      injection e2 with e2
      injection e3 with e3
      subst e0 e1 e2 e3
      exact ⟨⟨n0, n1, s2, l⟩, k27_mk w ⟨n0, n1, s2, l⟩ hlc hC⟩
end
end Go.Proofs.YtabaldpjahcilaaDoor.H
/-
  ARGUMENTS as a row's claim holds them, with the ranges of their numbers.
-/
namespace Go.Proofs.YtabaldpjahcilaaDoor.H
open Go.RowKit Go.Proofs.YtabaldpjahcilaaDoorW.PrintWords Go.Proofs.YtabaldpjahcilaaDoorW.PrintLast Go.Proofs.YtabaldpjahcilaaDoorW.PrintMore Go.Proofs.YtabaldpjahcilaaDoor.QD
set_option linter.unusedSimpArgs false
theorem wf_num {n : Int} (h : (Lit.int .i64 n).wf = true) : -9223372036854775808 ≤ n ∧ n ≤ 9223372036854775807 := by
  simp only [Lit.wf, IntKind.min, IntKind.max, IntKind.signed, IntKind.bits, Bool.and_eq_true, decide_eq_true_eq, if_true] at h
  omega
section
variable {H : Type} {enc : TypeId × Value → H} {w : World} {base : Nat} {spare : Nat → Bool} {held : Bool}

set_option maxRecDepth 100000 in
theorem opens_valN : ∀ (fuel : Nat) (cs : List Value) (x : DataW H × List MemPlace), DataW.trod enc Tryd.prog w base spare held fuel 27 cs = some x → ∃ v : S27, k27.K w v cs ∧ numR v := by
  intro fuel
  · intro cs x h
    obtain ⟨xs, n, rfl, _, hl, hxl, hf⟩ := DataW.trod_struct Tryd.underlying27 h
    rw [show Tryd.prog.cellsOf 27 = 4 by kernel_rfl] at hl
    match cs, hl, xs, hxl with
    | [v0, v1, v2, v3], _, [y0, y1, y2, y3], _ =>
      have g0 : DataW.trod enc Tryd.prog w base spare held n 3 (List.take (Tryd.prog.cellsOf 3) (List.drop 0 [v0, v1, v2, v3])) = some y0 := hf 0 _ rfl
      have g1 : DataW.trod enc Tryd.prog w base spare held n 2 (List.take (Tryd.prog.cellsOf 2) (List.drop 1 [v0, v1, v2, v3])) = some y1 := hf 1 _ rfl
      have g2 : DataW.trod enc Tryd.prog w base spare held n 9 (List.take (Tryd.prog.cellsOf 9) (List.drop 2 [v0, v1, v2, v3])) = some y2 := hf 2 _ rfl
      have g3 : DataW.trod enc Tryd.prog w base spare held n 22 (List.take (Tryd.prog.cellsOf 22) (List.drop 3 [v0, v1, v2, v3])) = some y3 := hf 3 _ rfl
      rw [show Tryd.prog.cellsOf 3 = 1 by kernel_rfl] at g0
      rw [show Tryd.prog.cellsOf 2 = 1 by kernel_rfl] at g1
      rw [show Tryd.prog.cellsOf 9 = 1 by kernel_rfl] at g2
      rw [show Tryd.prog.cellsOf 22 = 1 by kernel_rfl] at g3
      simp only [List.drop_zero, List.drop_succ_cons, List.take_succ_cons, List.take_zero, List.getElem?_cons_zero, List.getElem?_cons_succ] at g0 g1 g2 g3
      obtain ⟨n0, e0, _⟩ := DataW.trod_int Tryd.underlying3 g0
      obtain ⟨n1, e1, wf1⟩ := DataW.trod_int Tryd.underlying2 g1
      obtain ⟨s2, e2, _⟩ := DataW.trod_string Tryd.underlying9 g2
      obtain ⟨l, A, c, e3, hlc, hC⟩ := opens_slice k27 z27 Tryd.underlying22 (by kernel_rfl) (fun m hm cs x hx => opens_val m cs x hx) g3
      injection e0 with e0
      injection e1 with e1
      injection e2 with e2
      injection e3 with e3
      subst e0 e1 e2 e3
      exact ⟨⟨n0, n1, s2, l⟩, k27_mk w ⟨n0, n1, s2, l⟩ hlc hC, wf_num wf1.2⟩
end
end Go.Proofs.YtabaldpjahcilaaDoor.H
-- WRITTEN BY A PROGRAM OF THIS SESSION (wip/print2.py): the print, with contracts of this session's own let in. Not trusted: Lean checks it.
namespace Go.Proofs.YtabaldpjahcilaaDoor.QD
open Go.RowKit Go.Proofs.YtabaldpjahcilaaDoorW.PrintWords Go.Proofs.YtabaldpjahcilaaDoorW.PrintLast Go.Proofs.YtabaldpjahcilaaDoorW.PrintMore
attribute [local go_sem] max2_int min2_int max_two min_two max_three min_three max_four min_four   -- for this text's walks alone
set_option linter.unusedVariables false
set_option linter.unusedSimpArgs false

open Go.Proofs.YtabaldpjahcilaaDoor.H
/-! ### laws_FnDebugRefused: function 4 -/
def laws_FnDebugRefused.j0 : Nat → ByteArray → List (S27) → Bool → Option (Bool)
  | 0, _, _, _ => none
  | k + 1, x0, x1, x13 => if x13 = true then (some true) else (if (x0.size : Int) > 1000 then (some true) else ((laws_single9.f k x1).bind fun t132 => (if t132 = true then ((spec_Marks.f k x0).bind fun t133 => (if t133 = (x1.length : Int) then (some true) else ((impl_Debug.f x0 x1).bind fun t134 => (if (t134.size : Int) ≥ 21 then (if 0 ≤ 21 then (if 21 ≤ (t134.size : Int) then (some ((t134.extract 0 21).toList == ([91, 68, 101, 98, 117, 103, 83, 113, 108, 105, 122, 101, 114, 32, 101, 114, 114, 111, 114, 58, 32] : List UInt8))) else (none)) else (none)) else (some false))))) else (some true))))
def laws_FnDebugRefused.f (k : Nat) (a0 : ByteArray) (l1 : List (S27)) : Option (Bool) := if (a0.size : Int) > 2147483647 then (laws_FnDebugRefused.j0 k a0 l1 true) else (laws_FnDebugRefused.j0 k a0 l1 (decide ((l1.length : Int) > 2147483647)))
/-! ### laws_zzFits2: function 10 -/
def laws_zzFits2.f (a0_0 : Int) (a0_1 : Int) (a0_2 : ByteArray) (l0_3 : List (S27)) : Option (Bool) := if (a0_2.size : Int) > 2147483647 then (some false) else (if (l0_3.length : Int) > 2147483647 then (some false) else (some true))
set_option maxHeartbeats 8000000 in
set_option maxRecDepth 100000 in
theorem laws_zzFits2.calls (a0_0 : Int) (a0_1 : Int) (a0_2 : ByteArray) (A0_3 : Option Addr) (c0_3 : Nat) (l0_3 : List (S27)) (r : Bool) (w : World) (hr0_3 : Kd.C k27 w A0_3 l0_3.length l0_3) (hc0_3 : l0_3.length ≤ c0_3) (h : laws_zzFits2.f a0_0 a0_1 a0_2 l0_3 = some r) :
    Calls Tryd.prog 10 #[.agg #[.int .i64 a0_0, .int .i64 a0_1, .string a0_2, .slice A0_3 l0_3.length c0_3]] w fun e w' => e = .returned (.bool r) ∧ Below w.heap.size w w' := by
  have hu27 := Tryd.underlying27
  have HR0_3 := Aside0.mk hr0_3
  have HC0_3 := Aside0.mk hc0_3
  clear hr0_3 hc0_3
  have HB := Aside0.mk (Below.refl w.heap.size w)
  have H : (if (a0_2.size : Int) > 2147483647 then (some false) else (if (l0_3.length : Int) > 2147483647 then (some false) else (some true))) = some r := h
  clear h
  by_cases c2 : (a0_2.size : Int) > 2147483647
  · rw [if_pos c2] at H
    have c2b0 : decide (2147483647 < (a0_2.size : Int)) = true := decide_eq_true c2
    have c2b1 : decide (2147483647 < a0_2.size) = true := decide_eq_true (by omega)
    clear c2
    obtain rfl := Option.some.inj H
    go_enter Tryd.func10, Tryd.ntmps10
    go_wp2_with (first | ((with_reducible refine gate_dst (N := 1) rfl ?_); refine box_event ?hg (N := 1) ?hd (cs := #[.int .i64 a0_0, .int .i64 a0_1, .string a0_2, .slice A0_3 l0_3.length c0_3]) (t := 27) ?hr ?_; (case hd => rfl); (case hg => rfl); (case hr => first | (go_simp; done) | (go_simp; rfl)); intro gb135 hg w3 hbox hb; have n0_ := Aside0.mk (below_step (by repeat (first | (with_reducible first | exact HB.out | apply below_alloc | apply pw_below_drewN | apply below_drew1) | exact HB.out)) hb); have n1_ := Aside0.mk (hbox); have n2_ := Aside0.mk ((by rw [hg]; exact (below_size (by repeat (first | (with_reducible first | exact HB.out | apply below_alloc | apply pw_below_drewN | apply below_drew1) | exact HB.out))) : w.heap.size ≤ gb135)); have n3_ := Aside0.mk ((by rw [hg]; exact (below_size (by repeat (first | (with_reducible first | exact HB.out | apply below_alloc | apply pw_below_drewN | apply below_drew1) | exact HB.out))) : w.heap.size ≤ gb135)); clear HB; have HB := n0_; have BK135 := n1_; have GW135 := n2_; have GE135 := n3_; clear n0_ n1_ n2_ n3_; clear hb hbox hg; have hcz4_0 : w3.cell? ⟨gb135, 0, none⟩ = some (.int .i64 a0_0) := (blk_cell BK135.out 0).trans rfl; have hcz4_1 : w3.cell? ⟨gb135, 1, none⟩ = some (.int .i64 a0_1) := (blk_cell BK135.out 1).trans rfl; have hcz4_2 : w3.cell? ⟨gb135, 2, none⟩ = some (.string a0_2) := (blk_cell BK135.out 2).trans rfl; have hcz4_3 : w3.cell? ⟨gb135, 3, none⟩ = some (.slice A0_3 l0_3.length c0_3) := (blk_cell BK135.out 3).trans rfl; have hfz4_0 := blk_frozen BK135.out 0; have hfz4_1 := blk_frozen BK135.out 1; have hfz4_2 := blk_frozen BK135.out 2; have hfz4_3 := blk_frozen BK135.out 3))
    go_ret
    exact ⟨by first | rfl | (simp [errW_none, errW_some] <;> rfl) | (simp [*, errW_none, errW_some] <;> rfl), by repeat (first | (with_reducible first | exact HB.out | apply below_alloc | apply pw_below_drewN | apply below_drew1 | refine below_set ?_ GE135.out) | exact HB.out)⟩
  · rw [if_neg c2] at H
    have c2b0 : decide (2147483647 < (a0_2.size : Int)) = false := decide_eq_false c2
    have c2b1 : decide (2147483647 < a0_2.size) = false := decide_eq_false (by omega)
    clear c2
    by_cases c5 : (l0_3.length : Int) > 2147483647
    · rw [if_pos c5] at H
      have c5b0 : decide (2147483647 < (l0_3.length : Int)) = true := decide_eq_true c5
      have c5b1 : decide (2147483647 < l0_3.length) = true := decide_eq_true (by omega)
      clear c5
      obtain rfl := Option.some.inj H
      go_enter Tryd.func10, Tryd.ntmps10
      go_wp2_with (first | ((with_reducible refine gate_dst (N := 1) rfl ?_); refine box_event ?hg (N := 1) ?hd (cs := #[.int .i64 a0_0, .int .i64 a0_1, .string a0_2, .slice A0_3 l0_3.length c0_3]) (t := 27) ?hr ?_; (case hd => rfl); (case hg => rfl); (case hr => first | (go_simp; done) | (go_simp; rfl)); intro gb135 hg w6 hbox hb; have n0_ := Aside0.mk (below_step (by repeat (first | (with_reducible first | exact HB.out | apply below_alloc | apply pw_below_drewN | apply below_drew1) | exact HB.out)) hb); have n1_ := Aside0.mk (hbox); have n2_ := Aside0.mk ((by rw [hg]; exact (below_size (by repeat (first | (with_reducible first | exact HB.out | apply below_alloc | apply pw_below_drewN | apply below_drew1) | exact HB.out))) : w.heap.size ≤ gb135)); have n3_ := Aside0.mk ((by rw [hg]; exact (below_size (by repeat (first | (with_reducible first | exact HB.out | apply below_alloc | apply pw_below_drewN | apply below_drew1) | exact HB.out))) : w.heap.size ≤ gb135)); clear HB; have HB := n0_; have BK135 := n1_; have GW135 := n2_; have GE135 := n3_; clear n0_ n1_ n2_ n3_; clear hb hbox hg; have hcz7_0 : w6.cell? ⟨gb135, 0, none⟩ = some (.int .i64 a0_0) := (blk_cell BK135.out 0).trans rfl; have hcz7_1 : w6.cell? ⟨gb135, 1, none⟩ = some (.int .i64 a0_1) := (blk_cell BK135.out 1).trans rfl; have hcz7_2 : w6.cell? ⟨gb135, 2, none⟩ = some (.string a0_2) := (blk_cell BK135.out 2).trans rfl; have hcz7_3 : w6.cell? ⟨gb135, 3, none⟩ = some (.slice A0_3 l0_3.length c0_3) := (blk_cell BK135.out 3).trans rfl; have hfz7_0 := blk_frozen BK135.out 0; have hfz7_1 := blk_frozen BK135.out 1; have hfz7_2 := blk_frozen BK135.out 2; have hfz7_3 := blk_frozen BK135.out 3))
      go_ret
      exact ⟨by first | rfl | (simp [errW_none, errW_some] <;> rfl) | (simp [*, errW_none, errW_some] <;> rfl), by repeat (first | (with_reducible first | exact HB.out | apply below_alloc | apply pw_below_drewN | apply below_drew1 | refine below_set ?_ GE135.out) | exact HB.out)⟩
    · rw [if_neg c5] at H
      have c5b0 : decide (2147483647 < (l0_3.length : Int)) = false := decide_eq_false c5
      have c5b1 : decide (2147483647 < l0_3.length) = false := decide_eq_false (by omega)
      clear c5
      obtain rfl := Option.some.inj H
      go_enter Tryd.func10, Tryd.ntmps10
      go_wp2_with (first | ((with_reducible refine gate_dst (N := 1) rfl ?_); refine box_event ?hg (N := 1) ?hd (cs := #[.int .i64 a0_0, .int .i64 a0_1, .string a0_2, .slice A0_3 l0_3.length c0_3]) (t := 27) ?hr ?_; (case hd => rfl); (case hg => rfl); (case hr => first | (go_simp; done) | (go_simp; rfl)); intro gb135 hg w8 hbox hb; have n0_ := Aside0.mk (below_step (by repeat (first | (with_reducible first | exact HB.out | apply below_alloc | apply pw_below_drewN | apply below_drew1) | exact HB.out)) hb); have n1_ := Aside0.mk (hbox); have n2_ := Aside0.mk ((by rw [hg]; exact (below_size (by repeat (first | (with_reducible first | exact HB.out | apply below_alloc | apply pw_below_drewN | apply below_drew1) | exact HB.out))) : w.heap.size ≤ gb135)); have n3_ := Aside0.mk ((by rw [hg]; exact (below_size (by repeat (first | (with_reducible first | exact HB.out | apply below_alloc | apply pw_below_drewN | apply below_drew1) | exact HB.out))) : w.heap.size ≤ gb135)); clear HB; have HB := n0_; have BK135 := n1_; have GW135 := n2_; have GE135 := n3_; clear n0_ n1_ n2_ n3_; clear hb hbox hg; have hcz9_0 : w8.cell? ⟨gb135, 0, none⟩ = some (.int .i64 a0_0) := (blk_cell BK135.out 0).trans rfl; have hcz9_1 : w8.cell? ⟨gb135, 1, none⟩ = some (.int .i64 a0_1) := (blk_cell BK135.out 1).trans rfl; have hcz9_2 : w8.cell? ⟨gb135, 2, none⟩ = some (.string a0_2) := (blk_cell BK135.out 2).trans rfl; have hcz9_3 : w8.cell? ⟨gb135, 3, none⟩ = some (.slice A0_3 l0_3.length c0_3) := (blk_cell BK135.out 3).trans rfl; have hfz9_0 := blk_frozen BK135.out 0; have hfz9_1 := blk_frozen BK135.out 1; have hfz9_2 := blk_frozen BK135.out 2; have hfz9_3 := blk_frozen BK135.out 3))
      go_ret
      exact ⟨by first | rfl | (simp [errW_none, errW_some] <;> rfl) | (simp [*, errW_none, errW_some] <;> rfl), by repeat (first | (with_reducible first | exact HB.out | apply below_alloc | apply pw_below_drewN | apply below_drew1 | refine below_set ?_ GE135.out) | exact HB.out)⟩

end Go.Proofs.YtabaldpjahcilaaDoor.QD
/-
  PLAIN: the laws' args9 and single9, the reference's Marks, decimal, shown and Debug: that Debug is what DebugSqlizer comes to where there are as many marks as values; and that it says that it is an error where there are not.
-/
namespace Go.Proofs.YtabaldpjahcilaaDoor.SB
open Go.RowKit Go.Proofs.YtabaldpjahcilaaDoor.QD Go.Proofs.YtabaldpjahcilaaDoor.H Go.Proofs.YtabaldpjahcilaaDoorW.PrintWords Go.Proofs.YtabaldpjahcilaaDoorW.PrintLast Go.Proofs.YtabaldpjahcilaaDoorW.PrintMore
set_option linter.unusedVariables false
set_option linter.unusedSimpArgs false

theorem list_nil {a : ByteArray} (h : a.toList = ([] : List UInt8)) : a = ⟨#[]⟩ := by
  rw [Lib.toList_data] at h
  exact ByteArray.ext (Array.toList_inj.1 h)
theorem nil_size {a : ByteArray} (h : a.toList = ([] : List UInt8)) : a.size = 0 := by
  rw [list_nil h]
  rfl
theorem w64s (i : Nat) (h : i < 9223372036854775807) : wrap64 ((i : Int) + 1) = ((i + 1 : Nat) : Int) := by
  rw [IntWalk.wrap64_in _ (by omega)]
  omega
theorem rdV (l : List S27) (j : Nat) (h : j < l.length) : rd_T27 l (j : Int) = l[j] := by
  unfold rd_T27
  rw [Int.toNat_natCast, List.getD_eq_getElem?_getD, List.getElem?_eq_getElem h]
  rfl
theorem list_size (x : ByteArray) : x.data.toList.length = x.size := by simp
theorem bt_s (s : ByteArray) (i : Nat) (h : i < s.size) : bt s (i : Int) = ((s[i]'h).toNat : Int) := by simp [bt, h]
theorem b63 {c : UInt8} : ((c.toNat : Int) = 63) ↔ c = 63 := by
  constructor
  · intro h
    exact UInt8.toNat_inj.1 (by have : (63 : UInt8).toNat = 63 := rfl; omega)
  · intro h
    rw [h]
    rfl
theorem drop_byte (s : ByteArray) (i : Nat) (h : i < s.size) : s.data.toList.drop i = s[i]'h :: s.data.toList.drop (i + 1) := by
  rw [List.drop_eq_getElem_cons (by rw [list_size]; exact h)]
  rfl
/-! The laws' arguments. -/
def okV (x : S27) : Prop := atomR x ∧ x.f2.size ≤ 200
/-! The marks. -/
def mkL : List UInt8 → Nat
  | [] => 0
  | [c] => if c = 63 then 1 else 0
  | c :: d :: t => if c = 63 then (if d = 63 then mkL t else mkL (d :: t) + 1) else mkL (d :: t)
theorem mk_other {c : UInt8} (h : c ≠ 63) (t : List UInt8) : mkL (c :: t) = mkL t := by
  cases t <;> simp [mkL, h]
theorem mk_two (t : List UInt8) : mkL (63 :: 63 :: t) = mkL t := by simp [mkL]
theorem mk_one (t : List UInt8) (h : t.head? ≠ some 63) : mkL (63 :: t) = mkL t + 1 := by
  cases t with
  | nil => simp [mkL]
  | cons d u =>
    have hd : d ≠ 63 := by simpa using h
    simp [mkL, hd]
theorem mk_pre : ∀ (pre t : List UInt8), (∀ c ∈ pre, c ≠ 63) → mkL (pre ++ t) = mkL t
  | [], t, _ => rfl
  | c :: u, t, h => by
    have h1 := List.forall_mem_cons.1 h
    rw [List.cons_append, mk_other h1.1, mk_pre u t h1.2]
/-- The three ways that a text goes on at a place. -/
theorem ways (s : ByteArray) (i : Nat) (h : i < s.size) :
    (s[i]'h ≠ 63) ∨ (s[i]'h = 63 ∧ ∃ h2 : i + 1 < s.size, s[i + 1]'h2 = 63) ∨ (s[i]'h = 63 ∧ (s.data.toList.drop (i + 1)).head? ≠ some 63 ∧ ∀ h2 : i + 1 < s.size, s[i + 1]'h2 ≠ 63) := by
  by_cases h1 : s[i]'h = 63
  · by_cases h2 : i + 1 < s.size
    · by_cases h3 : s[i + 1]'h2 = 63
      · exact .inr (.inl ⟨h1, h2, h3⟩)
      · refine .inr (.inr ⟨h1, ?_, fun _ => h3⟩)
        rw [drop_byte s (i + 1) h2]
        simpa using h3
    · refine .inr (.inr ⟨h1, ?_, fun h => absurd h h2⟩)
      rw [List.drop_eq_nil_of_le (by rw [list_size]; omega)]
      simp
  · exact .inl h1
/-! Numbers. -/
theorem str_one (u : Nat) : strOfNums [(u : Int)] = ⟨#[UInt8.ofNat u]⟩ := by
  apply ByteArray.ext
  simp [strOfNums]
theorem decimal_ev : ∀ (d n : Nat) (acc : List UInt8), n < 10 ^ (d + 1) → n ≤ 9223372036854775807 → acc.length + d ≤ 1000 →
    Ev (fun k => spec_decimal.l0 k (n : Int) ⟨acc.toArray⟩) ⟨(Lib.decDigits n ++ acc).toArray⟩ := by
  have cat : ∀ (u : Nat) (acc : List UInt8), (⟨#[UInt8.ofNat u]⟩ : ByteArray) ++ ⟨acc.toArray⟩ = ⟨(UInt8.ofNat u :: acc).toArray⟩ := fun u acc => ByteArray.ext (by simp)
  have one : ∀ n : Nat, n < 10 → ∀ acc : List UInt8, acc.length ≤ 1000 → Ev (fun k => spec_decimal.l0 k (n : Int) ⟨acc.toArray⟩) ⟨(Lib.decDigits n ++ acc).toArray⟩ := by
    intro n h acc ha
    refine Ev.step (f := fun _ => some ⟨(Lib.decDigits n ++ acc).toArray⟩) (fun k => ?_) (Ev.now _)
    have e : (wrap64 (48 + (n : Int))) % 256 = ((48 + n : Nat) : Int) := by rw [w64 _ (by omega)]; omega
    simp only [spec_decimal.l0]
    rw [if_neg (by omega), Option.bind_some, e, str_one, if_pos (by show 1 + acc.length ≤ 9223372036854775807; omega), cat, Lib.decDigits_one h]
    rfl
  intro d
  induction d with
  | zero =>
    intro n acc h _ ha
    exact one n (by omega) acc (by omega)
  | succ d ih =>
    intro n acc h hn ha
    by_cases h9 : n < 10
    · exact one n h9 acc (by omega)
    · have h2 : n / 10 < 10 ^ (d + 1) := by rw [Nat.div_lt_iff_lt_mul (by omega)]; rw [Nat.pow_succ] at h; omega
      have hi := ih (n / 10) (UInt8.ofNat (48 + n % 10) :: acc) h2 (by omega) (by simp; omega)
      rw [Lib.decDigits, dif_neg h9, List.append_assoc]
      refine Ev.step (fun k => ?_) hi
      have e : (wrap64 (48 + (Int.tmod (n : Int) 10))) % 256 = ((48 + n % 10 : Nat) : Int) := by
        have : Int.tmod (n : Int) 10 = ((n % 10 : Nat) : Int) := rfl
        rw [this, w64 _ (by omega)]; omega
      have e2 : wrap64 (Int.tdiv (n : Int) 10) = ((n / 10 : Nat) : Int) := by
        have : Int.tdiv (n : Int) 10 = ((n / 10 : Nat) : Int) := rfl
        rw [this, IntWalk.wrap64_in _ (by omega)]
      simp only [spec_decimal.l0]
      rw [if_pos (by omega), Option.bind_some, e, str_one, if_pos (by show 1 + acc.length ≤ 9223372036854775807; omega), cat, e2]
theorem decimal_nat (n : Nat) (hn : n ≤ 9223372036854775807) : Ev (fun k => spec_decimal.f k (n : Int)) ⟨(Lib.decDigits n).toArray⟩ := by
  have h := decimal_ev 19 n [] (by omega) hn (by simp)
  rw [List.append_nil] at h
  refine Ev.step (fun k => ?_) h
  simp only [spec_decimal.f]
  rw [if_neg (by omega)]
theorem least_digits : Lib.decDigits 9223372036854775808 = [57, 50, 50, 51, 51, 55, 50, 48, 51, 54, 56, 53, 52, 55, 55, 53, 56, 48, 56] := by
  repeat (rw [Lib.decDigits]; simp)
theorem decimal_is (n : Int) (h0 : -9223372036854775808 ≤ n) (h1 : n ≤ 9223372036854775807) : Ev (fun k => spec_decimal.f k n) ⟨(Lib.itoa n).toArray⟩ := by
  by_cases hneg : n < 0
  · obtain ⟨u, rfl⟩ : ∃ u : Nat, n = -(u : Int) := ⟨n.natAbs, by omega⟩
    rw [Lib.itoa_neg u (by omega)]
    by_cases hm : u = 9223372036854775808
    · subst hm
      rw [least_digits]
      refine Ev.step (f := fun _ => some (⟨#[45, 57, 50, 50, 51, 51, 55, 50, 48, 51, 54, 56, 53, 52, 55, 55, 53, 56, 48, 56]⟩ : ByteArray)) (fun k => ?_) (Ev.now _)
      simp only [spec_decimal.f]
      rw [if_pos hneg, if_pos (by rw [Int.neg_neg]; exact (show (-9223372036854775808 : Int) = wrap64 9223372036854775808 by kernel_rfl))]
    · have hw : wrap64 (- -(u : Int)) = (u : Int) := by rw [Int.neg_neg, IntWalk.wrap64_in _ (by omega)]
      have hl : (Lib.decDigits u).length ≤ 21 := by
        have := Lib.itoa_length_le (u : Int) (by omega) (by omega)
        rwa [Lib.itoa_nonneg] at this
      refine Ev.step (f := fun k => (spec_decimal.f k (u : Int)).bind fun t111 => (if 1 + t111.size ≤ 9223372036854775807 then (some ((⟨#[45]⟩ : ByteArray) ++ t111)) else (none))) (fun k => ?_) (Ev.bind (decimal_nat u (by omega)) ?_)
      · simp only [spec_decimal.f]
        rw [if_pos hneg, hw, if_neg (by omega)]
      · refine Ev.congr (f := fun _ => some ⟨(45 :: Lib.decDigits u).toArray⟩) (fun k => ?_) (Ev.now _)
        rw [if_pos (by show 1 + (Lib.decDigits u).length ≤ _; omega)]
        exact congrArg some (ByteArray.ext (by simp))
  · obtain ⟨u, rfl⟩ : ∃ u : Nat, n = (u : Int) := ⟨n.toNat, by omega⟩
    rw [Lib.itoa_nonneg]
    exact decimal_nat u (by omega)
theorem shown_is (x : S27) (h : numR x) : Ev (fun k => spec_shown.f k x.f0 x.f1 x.f2 x.f3) ⟨(shw x).toArray⟩ := by
  by_cases h1 : x.f0 = 1
  · have e : shw x = Lib.itoa x.f1 := by rw [shw, if_pos h1]
    rw [e]
    refine Ev.congr (f := fun k => (spec_decimal.f k x.f1).bind fun t => some t) (fun k => ?_) (Ev.bind (decimal_is x.f1 h.1 h.2) (Ev.now _))
    simp only [spec_shown.f]
    rw [if_pos h1]
  · refine Ev.congr (f := fun _ => some ⟨(shw x).toArray⟩) (fun k => ?_) (Ev.now _)
    simp only [spec_shown.f, shw]
    rw [if_neg h1, if_neg h1]
    split
    · exact congrArg some (ByteArray.ext (by simp))
    · split
      · rfl
      · split <;> rfl
/-! Debug. -/
theorem cat3 (acc t : List UInt8) : (⟨acc.toArray⟩ : ByteArray) ++ (((⟨#[39]⟩ : ByteArray) ++ ⟨t.toArray⟩) ++ (⟨#[39]⟩ : ByteArray)) = ⟨(acc ++ (39 :: t ++ [39])).toArray⟩ := ByteArray.ext (by simp)
theorem cat1 (acc : List UInt8) (c : UInt8) : (⟨acc.toArray⟩ : ByteArray) ++ (⟨#[c]⟩ : ByteArray) = ⟨(acc ++ [c]).toArray⟩ := ByteArray.ext (by simp)
theorem debug_l (s : ByteArray) (hs : s.size ≤ 4294967) (l : List S27) (hl : l.length ≤ 1024) (hall : ∀ x ∈ l, dbgR x) : ∀ (d i : Nat), s.size - i ≤ d → i ≤ s.size → ∀ (j : Nat) (acc : List UInt8), acc.length ≤ 1100 * i → mkL (s.data.toList.drop i) + j = l.length → Ev (fun k => spec_Debug.l0 k s l ⟨acc.toArray⟩ (j : Int) (i : Int)) ⟨(dbgL (s.data.toList.drop i) (l.drop j) acc).toArray⟩ := by
  have fin : ∀ (i : Nat), s.size ≤ i → ∀ (j : Nat) (acc : List UInt8), mkL (s.data.toList.drop i) + j = l.length → Ev (fun k => spec_Debug.l0 k s l ⟨acc.toArray⟩ (j : Int) (i : Int)) ⟨(dbgL (s.data.toList.drop i) (l.drop j) acc).toArray⟩ := by
    intro i hi j acc hm
    have c1 : ¬ (i : Int) < (s.size : Int) := by omega
    rw [List.drop_eq_nil_of_le (by rw [list_size]; omega)] at hm ⊢
    simp only [mkL] at hm
    rw [List.drop_eq_nil_of_le (by omega)]
    refine Ev.step (f := fun _ => some (⟨acc.toArray⟩ : ByteArray)) (fun k => ?_) (Ev.now _)
    simp only [spec_Debug.l0]
    rw [if_neg c1]
  intro d
  induction d with
  | zero =>
    intro i hd hi j acc ha hm
    exact fin i (by omega) j acc hm
  | succ d ih =>
    intro i hd hi j acc ha hm
    by_cases hlt : i < s.size
    · have c1 : (i : Int) < (s.size : Int) := by omega
      have c0 : (0 : Int) ≤ (i : Int) := by omega
      have wi : i < 9223372036854775807 := by omega
      have wi2 : i + 1 < 9223372036854775807 := by omega
      have hbt := bt_s s i hlt
      have c4 : (0 : Int) ≤ ((i + 1 : Nat) : Int) := by omega
      have za : (⟨acc.toArray⟩ : ByteArray).size = acc.length := rfl
      rcases ways s i hlt with h | ⟨h, h2, h3⟩ | ⟨h, h2, h3⟩
      · have c2 : ¬ ((s[i]'hlt).toNat : Int) = 63 := fun h' => h (b63.1 h')
        have c3 : (i : Int) ≤ ((i + 1 : Nat) : Int) := by omega
        have c5 : ((i + 1 : Nat) : Int) ≤ (s.size : Int) := by omega
        have z1 : (⟨#[s[i]'hlt]⟩ : ByteArray).size = 1 := rfl
        have c6 : acc.length + 1 ≤ 9223372036854775807 := by omega
        rw [drop_byte s i hlt, mk_other h] at hm
        rw [drop_byte s i hlt, dbg_other h]
        refine Ev.step (fun k => ?_) (ih (i + 1) (by omega) (by omega) j (acc ++ [s[i]'hlt]) (by rw [List.length_append, List.length_singleton]; omega) hm)
        simp only [spec_Debug.l0]
        rw [if_pos c1, if_pos c0, hbt, if_neg c2, w64s i wi, if_pos c3, if_pos c5, Int.toNat_natCast, Int.toNat_natCast, one_extract s i hlt, za, z1, if_pos c6, cat1]
      · have c2 : ((s[i]'hlt).toNat : Int) = 63 := b63.2 h
        have c3 : ((i + 1 : Nat) : Int) < (s.size : Int) := by omega
        have c5 : ((s[i + 1]'h2).toNat : Int) = 63 := b63.2 h3
        have hb2 := bt_s s (i + 1) h2
        have c6 : acc.length + 1 ≤ 9223372036854775807 := by omega
        rw [drop_byte s i hlt, drop_byte s (i + 1) h2, h, h3, mk_two] at hm
        rw [drop_byte s i hlt, drop_byte s (i + 1) h2, h, h3, dbg_two]
        refine Ev.step (fun k => ?_) (ih (i + 1 + 1) (by omega) (by omega) j (acc ++ [63]) (by rw [List.length_append, List.length_singleton]; omega) hm)
        simp only [spec_Debug.l0]
        rw [if_pos c1, if_pos c0, hbt, if_pos c2, w64s i wi, if_pos c3, if_pos c4, hb2, if_pos c5, za, if_pos c6, w64s (i + 1) wi2, cat1]
      · have c2 : ((s[i]'hlt).toNat : Int) = 63 := b63.2 h
        rw [drop_byte s i hlt, h, mk_one _ h2] at hm
        have hj : j < l.length := by omega
        have cj0 : (0 : Int) ≤ (j : Int) := by omega
        have cj1 : (j : Int) < (l.length : Int) := by omega
        have wj : j < 9223372036854775807 := by omega
        have hx := hall _ (List.getElem_mem hj)
        have hq := quo_size _ hx
        have hr := rdV l j hj
        rw [drop_byte s i hlt, h, List.drop_eq_getElem_cons hj, dbg_one _ h2]
        have hstep := ih (i + 1) (by omega) (by omega) (j + 1) (acc ++ quoL (l[j]'hj)) (by rw [List.length_append]; omega) (by omega)
        have hsh : (shw (l[j]'hj)).length ≤ 1048 := by
          have := hq
          unfold quoL at this
          rw [List.length_append, List.length_cons, List.length_singleton] at this
          omega
        have zt : (⟨(shw (l[j]'hj)).toArray⟩ : ByteArray).size = (shw (l[j]'hj)).length := rfl
        have z39 : (⟨#[39]⟩ : ByteArray).size = 1 := rfl
        have g1 : 1 + (⟨(shw (l[j]'hj)).toArray⟩ : ByteArray).size ≤ 9223372036854775807 := by rw [zt]; omega
        have g2 : ((⟨#[39]⟩ : ByteArray) ++ (⟨(shw (l[j]'hj)).toArray⟩ : ByteArray)).size + 1 ≤ 9223372036854775807 := by rw [ByteArray.size_append, zt, z39]; omega
        have g3 : (⟨acc.toArray⟩ : ByteArray).size + (((⟨#[39]⟩ : ByteArray) ++ (⟨(shw (l[j]'hj)).toArray⟩ : ByteArray)) ++ (⟨#[39]⟩ : ByteArray)).size ≤ 9223372036854775807 := by rw [ByteArray.size_append, ByteArray.size_append, za, zt, z39]; omega
        refine Ev.step (f := fun k => (spec_shown.f k (l[j]'hj).f0 (l[j]'hj).f1 (l[j]'hj).f2 (l[j]'hj).f3).bind fun t121 => (if 1 + t121.size ≤ 9223372036854775807 then (if ((⟨#[39]⟩ : ByteArray) ++ t121).size + 1 ≤ 9223372036854775807 then (if (⟨acc.toArray⟩ : ByteArray).size + (((⟨#[39]⟩ : ByteArray) ++ t121) ++ (⟨#[39]⟩ : ByteArray)).size ≤ 9223372036854775807 then (spec_Debug.l0 k s l ((⟨acc.toArray⟩ : ByteArray) ++ (((⟨#[39]⟩ : ByteArray) ++ t121) ++ (⟨#[39]⟩ : ByteArray))) ((j + 1 : Nat) : Int) ((i + 1 : Nat) : Int)) else (none)) else (none)) else (none))) (fun k => ?_) (Ev.bind (shown_is _ hx.2.1) (Ev.congr (fun k => ?_) hstep))
        · simp only [spec_Debug.l0]
          by_cases hn2 : i + 1 < s.size
          · have c3 : ((i + 1 : Nat) : Int) < (s.size : Int) := by omega
            have c5 : ¬ ((s[i + 1]'hn2).toNat : Int) = 63 := fun h' => h3 hn2 (b63.1 h')
            have hb2 := bt_s s (i + 1) hn2
            rw [if_pos c1, if_pos c0, hbt, if_pos c2, w64s i wi, if_pos c3, if_pos c4, hb2, if_neg c5, if_pos cj0, if_pos cj1, hr, w64s j wj]
          · have c3 : ¬ ((i + 1 : Nat) : Int) < (s.size : Int) := by omega
            rw [if_pos c1, if_pos c0, hbt, if_pos c2, w64s i wi, if_neg c3, if_pos cj0, if_pos cj1, hr, w64s j wj]
        · rw [if_pos g1, if_pos g2, if_pos g3, cat3]
          rfl
    · exact fin i (by omega) j acc hm
theorem debug_is (s : ByteArray) (hs : s.size ≤ 4294967) (l : List S27) (hl : l.length ≤ 1024) (hall : ∀ x ∈ l, dbgR x) (hm : mkL s.data.toList = l.length) : Ev (fun k => spec_Debug.f k s l) (debF s l) :=
  debug_l s hs l hl hall s.size 0 (by omega) (by omega) 0 [] (by simp) (by rw [List.drop_zero]; exact hm)
theorem dbg_ok {x : S27} (h : okV x) (hn : numR x) : dbgR x := ⟨h.1, hn, by have := h.2; omega⟩
theorem impl_is (s : ByteArray) (hs : s.size ≤ 1048576) (l : List S27) (hl : l.length ≤ 1024) (hall : ∀ x ∈ l, dbgR x) : impl_Debug.f s l = some (debF s l) := by
  rw [impl_Debug.f, if_pos ⟨hs, hl, List.all_eq_true.2 fun x hx => by
    have h := hall x hx
    rw [(atomB_iff x).2 h.1, decide_eq_true h.2.1.1, decide_eq_true h.2.1.2, decide_eq_true h.2.2]
    rfl⟩]
end Go.Proofs.YtabaldpjahcilaaDoor.SB
/-
  PLAIN: the reference's ValueRight of values that are no lists, and NameOnly.
-/
namespace Go.Proofs.YtabaldpjahcilaaDoor.SB
open Go.RowKit Go.Proofs.YtabaldpjahcilaaDoor.QD Go.Proofs.YtabaldpjahcilaaDoor.H Go.Proofs.YtabaldpjahcilaaDoorW.PrintWords Go.Proofs.YtabaldpjahcilaaDoorW.PrintLast Go.Proofs.YtabaldpjahcilaaDoorW.PrintMore
set_option linter.unusedVariables false
set_option linter.unusedSimpArgs false

theorem len_nil {l : List S27} (h : ((l.length : Int) == 0) = true) : l = [] := by
  have h1 : (l.length : Int) = 0 := by simpa using h
  exact List.eq_nil_of_length_eq_zero (by omega)
theorem eta_val (x : S27) : (⟨x.f0, x.f1, x.f2, x.f3⟩ : S27) = x := by
  cases x
  rfl
/-! ValueRight -/
theorem vr_zero (x : S27) (lists : Bool) (hk : x.f0 = 0 ∨ x.f0 = 3 ∨ x.f0 = 4) : ∃ b, Ev (fun k => spec_ValueRight.j0 k lists x.f0 true x.f0 x.f1 x.f2 x.f3) b ∧ (b = true → okV x) := by
  by_cases h1 : x.f1 = 0
  · by_cases h2 : x.f2.toList = ([] : List UInt8)
    · refine ⟨((x.f3.length : Int) == 0), Ev.step (f := fun _ => some ((x.f3.length : Int) == 0)) (fun k => ?_) (Ev.now _), fun h => ⟨⟨by omega, by omega, len_nil h, .inl h1, .inl (list_nil h2)⟩, by have := nil_size h2; omega⟩⟩
      simp only [spec_ValueRight.j0]
      rw [if_pos trivial, if_pos h1, if_pos h2]
    · refine ⟨false, Ev.step (f := fun _ => some false) (fun k => ?_) (Ev.now _), fun h => by cases h⟩
      simp only [spec_ValueRight.j0]
      rw [if_pos trivial, if_pos h1, if_neg h2]
  · refine ⟨false, Ev.step (f := fun _ => some false) (fun k => ?_) (Ev.now _), fun h => by cases h⟩
    simp only [spec_ValueRight.j0]
    rw [if_pos trivial, if_neg h1]
theorem vr_one (x : S27) (lists : Bool) (hk : x.f0 = 1) : ∃ b, Ev (fun k => spec_ValueRight.j0 k lists x.f0 false x.f0 x.f1 x.f2 x.f3) b ∧ (b = true → okV x) := by
  by_cases h2 : x.f2.toList = ([] : List UInt8)
  · refine ⟨((x.f3.length : Int) == 0), Ev.step (f := fun _ => some ((x.f3.length : Int) == 0)) (fun k => ?_) (Ev.now _), fun h => ⟨⟨by omega, by omega, len_nil h, .inr hk, .inl (list_nil h2)⟩, by have := nil_size h2; omega⟩⟩
    simp only [spec_ValueRight.j0]
    rw [if_neg (by decide), if_pos hk, if_pos h2]
  · refine ⟨false, Ev.step (f := fun _ => some false) (fun k => ?_) (Ev.now _), fun h => by cases h⟩
    simp only [spec_ValueRight.j0]
    rw [if_neg (by decide), if_pos hk, if_neg h2]
theorem vr_two (x : S27) (lists : Bool) (hk : x.f0 = 2) : ∃ b, Ev (fun k => spec_ValueRight.j0 k lists x.f0 false x.f0 x.f1 x.f2 x.f3) b ∧ (b = true → okV x) := by
  by_cases h1 : x.f1 = 0
  · by_cases h3 : (x.f3.length : Int) = 0
    · refine ⟨decide ((x.f2.size : Int) ≤ 200), Ev.step (f := fun _ => some (decide ((x.f2.size : Int) ≤ 200))) (fun k => ?_) (Ev.now _), fun h => ⟨⟨by omega, by omega, List.eq_nil_of_length_eq_zero (by omega), .inl h1, .inr hk⟩, by have := of_decide_eq_true h; omega⟩⟩
      simp only [spec_ValueRight.j0]
      rw [if_neg (by decide), if_neg (by omega), if_pos hk, if_pos h1, if_pos h3]
    · refine ⟨false, Ev.step (f := fun _ => some false) (fun k => ?_) (Ev.now _), fun h => by cases h⟩
      simp only [spec_ValueRight.j0]
      rw [if_neg (by decide), if_neg (by omega), if_pos hk, if_pos h1, if_neg h3]
  · refine ⟨false, Ev.step (f := fun _ => some false) (fun k => ?_) (Ev.now _), fun h => by cases h⟩
    simp only [spec_ValueRight.j0]
    rw [if_neg (by decide), if_neg (by omega), if_pos hk, if_neg h1]
theorem vr_else (x : S27) (lists : Bool) (h1 : x.f0 ≠ 1) (h2 : x.f0 ≠ 2) (h5 : x.f0 ≠ 5) : Ev (fun k => spec_ValueRight.j0 k lists x.f0 false x.f0 x.f1 x.f2 x.f3) false := by
  refine Ev.step (f := fun _ => some false) (fun k => ?_) (Ev.now _)
  simp only [spec_ValueRight.j0]
  rw [if_neg (by decide), if_neg h1, if_neg h2, if_neg h5]
theorem vr_jT (x : S27) : Ev (fun k => spec_ValueRight.j1 k true x.f0 x.f1 x.f2 x.f3) false := by
  refine Ev.step (f := fun _ => some false) (fun k => ?_) (Ev.now _)
  simp only [spec_ValueRight.j1]
  rw [if_pos trivial]
theorem vr_f (x : S27) (lists : Bool) (h5 : x.f0 ≠ 5) : ∃ b, Ev (fun k => spec_ValueRight.f k x.f0 x.f1 x.f2 x.f3 lists) b ∧ (b = true → okV x) := by
  by_cases h0 : x.f0 = 0
  · obtain ⟨b, hE, hb⟩ := vr_zero x lists (.inl h0)
    refine ⟨b, Ev.step (fun k => ?_) hE, hb⟩
    simp only [spec_ValueRight.f]
    rw [if_pos h0, beq_iff_eq.2 h0]
  by_cases h3 : x.f0 = 3
  · obtain ⟨b, hE, hb⟩ := vr_zero x lists (.inr (.inl h3))
    refine ⟨b, Ev.step (fun k => ?_) hE, hb⟩
    simp only [spec_ValueRight.f]
    rw [if_neg h0, if_pos h3, beq_iff_eq.2 h3]
  by_cases h4 : x.f0 = 4
  · obtain ⟨b, hE, hb⟩ := vr_zero x lists (.inr (.inr h4))
    refine ⟨b, Ev.step (fun k => ?_) hE, hb⟩
    simp only [spec_ValueRight.f]
    rw [if_neg h0, if_neg h3, beq_iff_eq.2 h4]
  have hf : ∀ {b : Bool}, Ev (fun k => spec_ValueRight.j0 k lists x.f0 false x.f0 x.f1 x.f2 x.f3) b → Ev (fun k => spec_ValueRight.f k x.f0 x.f1 x.f2 x.f3 lists) b := fun h => Ev.step (fun k => by
    simp only [spec_ValueRight.f]
    rw [if_neg h0, if_neg h3, beq_eq_false_iff_ne.2 h4]) h
  by_cases h1 : x.f0 = 1
  · obtain ⟨b, hE, hb⟩ := vr_one x lists h1
    exact ⟨b, hf hE, hb⟩
  by_cases h2 : x.f0 = 2
  · obtain ⟨b, hE, hb⟩ := vr_two x lists h2
    exact ⟨b, hf hE, hb⟩
  · exact ⟨false, hf (vr_else x lists h1 h2 h5), fun h => by cases h⟩
theorem vr_atom (x : S27) : ∃ b, Ev (fun k => spec_ValueRight.f k x.f0 x.f1 x.f2 x.f3 false) b ∧ (b = true → okV x) := by
  by_cases h5 : x.f0 = 5
  · refine ⟨false, Ev.step (f := fun k => spec_ValueRight.j0 k false x.f0 false x.f0 x.f1 x.f2 x.f3) (fun k => ?_) (Ev.step (fun k => ?_) (vr_jT x)), fun h => by cases h⟩
    · simp only [spec_ValueRight.f]
      rw [if_neg (by omega), if_neg (by omega), beq_eq_false_iff_ne.2 (by omega : x.f0 ≠ 4)]
    · simp only [spec_ValueRight.j0]
      rw [if_neg (by decide), if_neg (by omega), if_neg (by omega), if_pos h5, if_neg (by decide)]
  · exact vr_f x false h5
theorem nb_is (a : Int) : ∃ b, spec_isNameByte.f a = some b ∧ (b = true → a ≠ 44 ∧ a ≠ 32 ∧ a ≠ 63) := by
  unfold spec_isNameByte.f
  repeat' split
  all_goals first
    | exact ⟨_, rfl, fun _ => by omega⟩
    | exact ⟨_, rfl, fun h => by have h46 : a = 46 := (by simpa using h); omega⟩
theorem name_l (s : ByteArray) (hs : s.size ≤ 2147483647) : ∀ (d i : Nat), s.size - i = d → i ≤ s.size → ∃ b, Ev (fun k => spec_NameOnly.l0 k s i) b ∧ (b = true → ∀ j, i ≤ j → j < s.size → bt s (j : Int) ≠ 44 ∧ bt s (j : Int) ≠ 32 ∧ bt s (j : Int) ≠ 63) := by
  intro d
  induction d with
  | zero =>
    intro i hd hi
    have c1 : ¬ (i : Int) < (s.size : Int) := by omega
    exact ⟨(s.toList != ([] : List UInt8)), Ev.step (f := fun _ => some (s.toList != ([] : List UInt8))) (fun k => by simp only [spec_NameOnly.l0]; rw [if_neg c1]) (Ev.now _), fun _ j h1 h2 => by omega⟩
  | succ d ih =>
    intro i hd hi
    have c1 : (i : Int) < (s.size : Int) := by omega
    have c0 : (0 : Int) ≤ (i : Int) := by omega
    obtain ⟨b, hf, hb⟩ := nb_is (bt s (i : Int))
    cases b with
    | false =>
      refine ⟨false, Ev.step (f := fun _ => some false) (fun k => ?_) (Ev.now _), fun h => by cases h⟩
      simp only [spec_NameOnly.l0]
      rw [if_pos c1, if_pos c0, hf, Option.bind_some, if_neg (by decide)]
    | true =>
      obtain ⟨b2, hE2, hb2⟩ := ih (i + 1) (by omega) (by omega)
      refine ⟨b2, Ev.step (fun k => ?_) hE2, fun h j h1 h2 => ?_⟩
      · simp only [spec_NameOnly.l0]
        rw [if_pos c1, if_pos c0, hf, Option.bind_some, if_pos rfl, w64s i (by omega)]
      · rcases Nat.eq_or_lt_of_le h1 with h3 | h3
        · subst h3
          exact hb rfl
        · exact hb2 h j h3 h2
theorem name_is (s : ByteArray) (hs : s.size ≤ 2147483647) : ∃ b, Ev (fun k => spec_NameOnly.f k s) b ∧ (b = true → ∀ j : Nat, j < s.size → bt s (j : Int) ≠ 44 ∧ bt s (j : Int) ≠ 32 ∧ bt s (j : Int) ≠ 63) := by
  obtain ⟨b, hE, hb⟩ := name_l s hs s.size 0 (by omega) (by omega)
  exact ⟨b, hE, fun h j hj => hb h j (by omega) hj⟩
end Go.Proofs.YtabaldpjahcilaaDoor.SB
