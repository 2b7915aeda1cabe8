-- WRITTEN BY A PROGRAM OF THIS SESSION (wip/print2.py): the print, with contracts of this session's own let in. Not trusted: Lean checks it.
import Derived.Test.YtlclbfhnllknkaaQE0
import Derived.Test.YtlclbfhnllknkaaQE6
namespace Go.Proofs.Ytlclbfhnllknkaa.QE
open Go.RowKit Go.Proofs.YtlclbfhnllknkaaW.PrintWords Go.Proofs.YtlclbfhnllknkaaW.PrintLast Go.Proofs.YtlclbfhnllknkaaW.PrintMore
attribute [local go_sem] max2_int min2_int max_two min_two max_three min_three max_four min_four   -- for this text's walks alone
set_option linter.unusedVariables false
set_option linter.unusedSimpArgs false

/-! ### laws_single9: function 16 -/
def laws_single9.l0 : Nat → List (S37) → Int → Option (Bool)
  | 0, _, _ => none
  | k + 1, x0, x3 => if x3 < (x0.length : Int) then (if 0 ≤ x3 then (if ((rd_T37 x0 x3).f0) = 5 then (some false) else (laws_single9.l0 k x0 (wrap64 (x3 + 1)))) else (none)) else ((laws_args9.f k x0).bind fun t160 => (some t160))
def laws_single9.f (k : Nat) (l0 : List (S37)) : Option (Bool) := laws_single9.l0 k l0 0
theorem laws_single9.mono_l : ∀ k, (∀ y0 y1, LeO (laws_single9.l0 k y0 y1) (laws_single9.l0 (k + 1) y0 y1))
  | 0 => fun _ _ r h => by simp [laws_single9.l0] at h
  | k + 1 => by
    have ih0 := laws_single9.mono_l k
    · intro y0 y1
      unfold laws_single9.l0
      repeat' first
      | (with_reducible exact ih0 _ _)
      | (with_reducible exact laws_args9.mono _ _)
      | (with_reducible exact LeO.refl _)
      | (with_reducible exact LeO.none _)
      | (with_reducible refine LeO.ite ?_ ?_)
      | (with_reducible refine LeO.bind ?_ (fun _ => ?_))
      | exact ih0 _ _
      | exact laws_args9.mono _ _
      | exact LeO.none _
      | refine LeO.ite ?_ ?_
      | refine LeO.bind ?_ (fun _ => ?_)
theorem laws_single9.mono : ∀ a0 k, LeO (laws_single9.f k a0) (laws_single9.f (k + 1) a0) := by
  intro a0 k
  have ih0 := laws_single9.mono_l k
  unfold laws_single9.f
  repeat' first
      | (with_reducible exact ih0 _ _)
      | (with_reducible exact laws_args9.mono _ _)
      | (with_reducible exact LeO.refl _)
      | (with_reducible exact LeO.none _)
      | (with_reducible refine LeO.ite ?_ ?_)
      | (with_reducible refine LeO.bind ?_ (fun _ => ?_))
      | exact ih0 _ _
      | exact laws_args9.mono _ _
      | exact LeO.none _
      | refine LeO.ite ?_ ?_
      | refine LeO.bind ?_ (fun _ => ?_)
set_option maxHeartbeats 8000000 in
set_option maxRecDepth 100000 in
theorem laws_single9.calls (k : Nat) (A0 : Option Addr) (c0 : Nat) (l0 : List (S37)) (r : Bool) (w : World) (hr0 : Kd.C k37 w A0 l0.length l0) (hc0 : l0.length ≤ c0) (h : laws_single9.f k l0 = some r) :
    Calls Try.prog 16 #[.slice A0 l0.length c0] w fun e w' => e = .returned (.bool r) ∧ Below w.heap.size w w' := by
  have HR0 := Aside0.mk hr0
  have HC0 := Aside0.mk hc0
  clear hr0 hc0
  have HB := Aside0.mk (Below.refl w.heap.size w)
  have H : (laws_single9.l0 k l0 0) = some r := h
  clear h
  have H' := Aside0.mk H
  clear H
  go_enter Try.func16, Try.ntmps16
  go_wp2
  go_loopg [3] k (fun kq v3 w' => ∃ (x3_1 : Int), v3 = .int .i64 x3_1 ∧ Aside0 (laws_single9.l0 kq l0 x3_1 = some r) ∧ Aside0 (kq ≤ k) ∧ Aside0 (Below w.heap.size w w'))
  case atStart => exact ⟨(0), (by first | rfl | (simp; done) | (simp [*]; done)), H', ⟨Nat.le_refl _⟩, ⟨by repeat (first | (with_reducible first | exact HB.out | apply below_alloc | apply pw_below_drewN | apply below_drew1) | exact HB.out)⟩⟩
  case round =>
    clear H'
    try clear c1
    obtain ⟨x3_1, rfl, HA, HK1, HB⟩ := hrel
    cases gk with
    | zero => exact absurd HA.out (by simp [laws_single9.l0])
    | succ k1 =>
      have H := HA.out
      clear HA
      simp only [laws_single9.l0] at H
      by_cases c2 : x3_1 < (l0.length : Int)
      · rw [if_pos c2] at H
        have c2b0 : decide (x3_1 < (l0.length : Int)) = true := decide_eq_true c2
        clear c2
        by_cases c3 : 0 ≤ x3_1
        · rw [if_pos c3] at H
          have c3b0 : decide (0 ≤ x3_1) = true := decide_eq_true c3
          clear c3
          by_cases c4 : ((rd_T37 l0 x3_1).f0) = 5
          · rw [if_pos c4] at H
            have c4b0 : (((rd_T37 l0 x3_1).f0) == 5) = true := beq_iff_eq.mpr c4
            have c4b1 : (((rd_T37 l0 x3_1).f0) != 5) = false := bne_eq_false_iff_eq.mpr c4
            clear c4
            obtain rfl := Option.some.inj H
            have p159 : 0 ≤ (x3_1 : Int) := of_decide_eq_true (by first | (with_reducible assumption) | assumption)
            have q159 : x3_1 < (l0.length : Int) := of_decide_eq_true (by first | (with_reducible assumption) | assumption)
            obtain ⟨ad159, A159_3, c159_3, e159, hx159_0, hx159_1, hx159_2, hx159_3, hl159_3, hi159_3⟩ := at_T37 HR0.out x3_1 p159 q159
            cases e159
            replace hx159_0 := (HB.out.cell (World.block_lt_of_cell? w _ hx159_0)).trans hx159_0
            replace hx159_1 := (HB.out.cell (World.block_lt_of_cell? w _ hx159_1)).trans hx159_1
            replace hx159_2 := (HB.out.cell (World.block_lt_of_cell? w _ hx159_2)).trans hx159_2
            replace hx159_3 := (HB.out.cell (World.block_lt_of_cell? w _ hx159_3)).trans hx159_3
            have HR159_3 := Aside0.mk hi159_3
            have HC159_3 := Aside0.mk hl159_3
            clear hi159_3 hl159_3
            replace p159 := eq_true p159
            replace q159 := eq_true q159
            go_wp2
            go_ret
            exact ⟨by first | rfl | (simp [errW_none, errW_some] <;> rfl) | (simp [*, errW_none, errW_some] <;> rfl), by repeat (first | (with_reducible first | exact HB.out | apply below_alloc | apply pw_below_drewN | apply below_drew1) | exact HB.out)⟩
          · rw [if_neg c4] at H
            have c4b0 : (((rd_T37 l0 x3_1).f0) == 5) = false := beq_eq_false_iff_ne.mpr c4
            have c4b1 : (((rd_T37 l0 x3_1).f0) != 5) = true := bne_iff_ne.mpr c4
            have H' := Aside0.mk H
            clear H
            have p159 : 0 ≤ (x3_1 : Int) := of_decide_eq_true (by first | (with_reducible assumption) | assumption)
            have q159 : x3_1 < (l0.length : Int) := of_decide_eq_true (by first | (with_reducible assumption) | assumption)
            obtain ⟨ad159, A159_3, c159_3, e159, hx159_0, hx159_1, hx159_2, hx159_3, hl159_3, hi159_3⟩ := at_T37 HR0.out x3_1 p159 q159
            cases e159
            replace hx159_0 := (HB.out.cell (World.block_lt_of_cell? w _ hx159_0)).trans hx159_0
            replace hx159_1 := (HB.out.cell (World.block_lt_of_cell? w _ hx159_1)).trans hx159_1
            replace hx159_2 := (HB.out.cell (World.block_lt_of_cell? w _ hx159_2)).trans hx159_2
            replace hx159_3 := (HB.out.cell (World.block_lt_of_cell? w _ hx159_3)).trans hx159_3
            have HR159_3 := Aside0.mk hi159_3
            have HC159_3 := Aside0.mk hl159_3
            clear hi159_3 hl159_3
            replace p159 := eq_true p159
            replace q159 := eq_true q159
            go_wp2
            go_roundg k1
            case measure => have := HK1.out; omega
            case rel => exact ⟨(wrap64 (x3_1 + 1)), (by first | rfl | (simp; done) | (simp [*]; done)), H', ⟨by have := HK1.out; omega⟩, ⟨by repeat (first | (with_reducible first | exact HB.out | apply below_alloc | apply pw_below_drewN | apply below_drew1) | exact HB.out)⟩⟩
        · rw [if_neg c3] at H
          exact absurd H (by simp)
      · rw [if_neg c2] at H
        have c2b0 : decide (x3_1 < (l0.length : Int)) = false := decide_eq_false c2
        clear c2
        replace H := Option.bind_eq_some_iff.mp H
        obtain ⟨t160, A50, H⟩ := H
        replace H : (some t160) = some r := H
        have A5 := Aside0.mk A50
        clear A50
        obtain rfl := Option.some.inj H
        go_wp2_with (first | ((with_reducible refine gate_callee (f := 12) rfl ?_); refine goesL_ (some 17) rfl rfl Try.func12 (by kernel_rfl) rfl #[.slice A0 l0.length c0] rfl (by (try simp only [List.map_toArray, List.map_cons, List.map_nil]); first | done | rfl | (simp only [List.length_drop, List.length_take]; rfl)) ?_; (with_reducible refine (laws_args9.calls k1 _ _ l0 t160 _ ?side1 ?side2 A5.out).mono ?_); (case side1 => repeat (first | exact (Kd.C_below HR0.out HB.out) | (with_reducible refine Kd.C_alloc ?_ _) | (with_reducible refine Kd.C_drewN ?_ _) | (with_reducible refine Kd.C_drew ?_))); (case side2 => exact HC0.out); rintro e w6 ⟨rfl, hb⟩; refine ⟨_, rfl, ?_⟩; have n0_ := Aside0.mk (below_step (by repeat (first | (with_reducible first | exact HB.out | apply below_alloc | apply pw_below_drewN | apply below_drew1) | exact HB.out)) hb); clear HB; have HB := n0_; clear n0_; (try clear hb); (try clear hb2); (try clear hk); (try clear hi)))
        go_ret
        exact ⟨by first | rfl | (simp [errW_none, errW_some] <;> rfl) | (simp [*, errW_none, errW_some] <;> rfl), by repeat (first | (with_reducible first | exact HB.out | apply below_alloc | apply pw_below_drewN | apply below_drew1) | exact HB.out)⟩

end Go.Proofs.Ytlclbfhnllknkaa.QE
