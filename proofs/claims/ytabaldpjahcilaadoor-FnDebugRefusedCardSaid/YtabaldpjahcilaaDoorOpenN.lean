/-
  ARGUMENTS as a row's claim holds them, with the ranges of their numbers.
-/
import Derived.Test.YtabaldpjahcilaaDoorOpen
import Derived.Test.YtabaldpjahcilaaDoorHText
namespace Go.Proofs.YtabaldpjahcilaaDoor.H
open Go.RowKit Go.Proofs.YtabaldpjahcilaaDoorW.PrintWords Go.Proofs.YtabaldpjahcilaaDoorW.PrintLast Go.Proofs.YtabaldpjahcilaaDoorW.PrintMore Go.Proofs.YtabaldpjahcilaaDoor.QD
set_option linter.unusedSimpArgs false
theorem wf_num {n : Int} (h : (Lit.int .i64 n).wf = true) : -9223372036854775808 ≤ n ∧ n ≤ 9223372036854775807 := by
  simp only [Lit.wf, IntKind.min, IntKind.max, IntKind.signed, IntKind.bits, Bool.and_eq_true, decide_eq_true_eq, if_true] at h
  omega
section
variable {H : Type} {enc : TypeId × Value → H} {w : World} {base : Nat} {spare : Nat → Bool} {held : Bool}

theorem opens_sliceP {α : Type} (d : Kd α) (P : α → Prop) (z : α) {t e : TypeId} (ht : Tryd.prog.underlying t = some (.slice e)) (hsz : Tryd.prog.cellsOf e = d.sz) {fuel : Nat}
    (he : ∀ n, n < fuel → ∀ cs x, DataW.trod enc Tryd.prog w base spare held n e cs = some x → ∃ v, d.K w v cs ∧ P v) {cs : List Value} {x : DataW H × List MemPlace}
    (h : DataW.trod enc Tryd.prog w base spare held fuel t cs = some x) : ∃ (l : List α) (A : Option Addr) (c : Nat), cs = [.slice A l.length c] ∧ l.length ≤ c ∧ d.C w A l.length l ∧ ∀ x ∈ l, P x := by
  rcases DataW.trod_slice ht h with ⟨rfl, _⟩ | ⟨a, len, cap, elems, rest, n, rfl, rfl, _, _, hl, hm, hlen, hel, _, _⟩
  · exact ⟨[], none, 0, rfl, Nat.le_refl _, Kd.C_nil _ _, fun x hx => by cases hx⟩
  · have each : ∀ i, i < len → ∃ v : α, ∃ c, w.cells? base (a.add (i * d.sz)) d.sz = some c ∧ d.K w v c ∧ P v := by
      intro i hi
      have h1 := hel i hi
      rw [List.getElem?_eq_getElem (by omega), Option.bind_eq_some_iff, hsz] at h1
      obtain ⟨c, h2, h3⟩ := h1
      obtain ⟨v, hv⟩ := he n (Nat.lt_succ_self n) _ _ h3
      exact ⟨v, c, h2, hv⟩
    haveI : Inhabited α := ⟨z⟩
    obtain ⟨V, hV⟩ := Deep.choose_lt each
    have hll : ((List.range len).map V).length = len := by simp
    refine ⟨(List.range len).map V, some a, cap, by rw [hll], by rw [hll]; exact hl, ⟨rfl, by rw [hll]; simp only [maxLen] at hm; omega, fun _ => ⟨a, rfl, fun j p hj => ?_⟩⟩, fun x hx => ?_⟩
    · obtain ⟨hj1, hj2⟩ := List.getElem?_eq_some_iff.1 hj
      rw [hll] at hj1
      rw [List.getElem_map, List.getElem_range] at hj2
      obtain ⟨c, h2, h3, _⟩ := hV j hj1
      obtain ⟨_, hcl, hcc⟩ := World.cells?_some h2
      refine ⟨c, hcl, by rw [← hj2]; exact h3, fun i u hu => ?_⟩
      have hi : i < c.length := (List.getElem?_eq_some_iff.1 hu).1
      have h4 := hcc i (by omega)
      rw [add_add] at h4
      rw [h4]
      exact hu
    · obtain ⟨j, hj, rfl⟩ := List.mem_map.1 hx
      obtain ⟨c, _, _, h4⟩ := hV j (List.mem_range.1 hj)
      exact h4
set_option maxRecDepth 100000 in
theorem opens_valN : ∀ (fuel : Nat) (cs : List Value) (x : DataW H × List MemPlace), DataW.trod enc Tryd.prog w base spare held fuel 27 cs = some x → ∃ v : S27, k27.K w v cs ∧ numR v := by
  intro fuel
  · intro cs x h
    obtain ⟨xs, n, rfl, _, hl, hxl, hf⟩ := DataW.trod_struct Tryd.underlying27 h
    rw [show Tryd.prog.cellsOf 27 = 4 by kernel_rfl] at hl
    match cs, hl, xs, hxl with
    | [v0, v1, v2, v3], _, [y0, y1, y2, y3], _ =>
      have g0 : DataW.trod enc Tryd.prog w base spare held n 3 (List.take (Tryd.prog.cellsOf 3) (List.drop 0 [v0, v1, v2, v3])) = some y0 := hf 0 _ rfl
      have g1 : DataW.trod enc Tryd.prog w base spare held n 2 (List.take (Tryd.prog.cellsOf 2) (List.drop 1 [v0, v1, v2, v3])) = some y1 := hf 1 _ rfl
      have g2 : DataW.trod enc Tryd.prog w base spare held n 9 (List.take (Tryd.prog.cellsOf 9) (List.drop 2 [v0, v1, v2, v3])) = some y2 := hf 2 _ rfl
      have g3 : DataW.trod enc Tryd.prog w base spare held n 22 (List.take (Tryd.prog.cellsOf 22) (List.drop 3 [v0, v1, v2, v3])) = some y3 := hf 3 _ rfl
      rw [show Tryd.prog.cellsOf 3 = 1 by kernel_rfl] at g0
      rw [show Tryd.prog.cellsOf 2 = 1 by kernel_rfl] at g1
      rw [show Tryd.prog.cellsOf 9 = 1 by kernel_rfl] at g2
      rw [show Tryd.prog.cellsOf 22 = 1 by kernel_rfl] at g3
      simp only [List.drop_zero, List.drop_succ_cons, List.take_succ_cons, List.take_zero, List.getElem?_cons_zero, List.getElem?_cons_succ] at g0 g1 g2 g3
      obtain ⟨n0, e0, _⟩ := DataW.trod_int Tryd.underlying3 g0
      obtain ⟨n1, e1, wf1⟩ := DataW.trod_int Tryd.underlying2 g1
      obtain ⟨s2, e2, _⟩ := DataW.trod_string Tryd.underlying9 g2
      obtain ⟨l, A, c, e3, hlc, hC⟩ := opens_slice k27 z27 Tryd.underlying22 (by kernel_rfl) (fun m hm cs x hx => opens_val m cs x hx) g3
      injection e0 with e0
      injection e1 with e1
      injection e2 with e2
      injection e3 with e3
      subst e0 e1 e2 e3
      exact ⟨⟨n0, n1, s2, l⟩, k27_mk w ⟨n0, n1, s2, l⟩ hlc hC, wf_num wf1.2⟩
theorem opens_valsN {fuel : Nat} {cs : List Value} {x : DataW H × List MemPlace} (h : DataW.trod enc Tryd.prog w base spare held fuel 22 cs = some x) : ∃ (l : List S27) (A : Option Addr) (c : Nat), cs = [.slice A l.length c] ∧ l.length ≤ c ∧ k27.C w A l.length l ∧ ∀ x ∈ l, numR x :=
  opens_sliceP k27 numR z27 Tryd.underlying22 (by kernel_rfl) (fun n _ cs x hx => opens_valN n cs x hx) h
end
end Go.Proofs.YtabaldpjahcilaaDoor.H
