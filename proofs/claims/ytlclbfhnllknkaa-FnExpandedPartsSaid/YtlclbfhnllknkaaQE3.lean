-- WRITTEN BY A PROGRAM OF THIS SESSION (wip/print2.py): the print, with contracts of this session's own let in. Not trusted: Lean checks it.
import Derived.Test.YtlclbfhnllknkaaQE0
import Derived.Test.YtlclbfhnllknkaaQE2
namespace Go.Proofs.Ytlclbfhnllknkaa.QE
open Go.RowKit Go.Proofs.YtlclbfhnllknkaaW.PrintWords Go.Proofs.YtlclbfhnllknkaaW.PrintLast Go.Proofs.YtlclbfhnllknkaaW.PrintMore
attribute [local go_sem] max2_int min2_int max_two min_two max_three min_three max_four min_four   -- for this text's walks alone
set_option linter.unusedVariables false
set_option linter.unusedSimpArgs false

/-! ### spec_ArgsRight: function 8 -/
mutual
def spec_ArgsRight.l0 : Nat → List (S41) → Int → Option (Bool)
  | 0, _, _ => none
  | k + 1, x0, x3 => if x3 < (x0.length : Int) then (if 0 ≤ x3 then ((spec_ArgumentRight.f k ((rd_T41 x0 x3).f1.f0) ((rd_T41 x0 x3).f1.f1) ((rd_T41 x0 x3).f1.f2) ((rd_T41 x0 x3).f1.f3)).bind fun t109 => (if t109 = true then (spec_ArgsRight.j1 k x0 x3 (decide ((((rd_T41 x0 x3).f0).size : Int) > 100))) else (spec_ArgsRight.j1 k x0 x3 true))) else (none)) else (some (decide ((x0.length : Int) ≤ 20)))
def spec_ArgsRight.j1 : Nat → List (S41) → Int → Bool → Option (Bool)
  | 0, _, _, _ => none
  | k + 1, x0, x3, x26 => if x26 = true then (some false) else (spec_ArgsRight.l1 k x0 x3 0)
def spec_ArgsRight.l1 : Nat → List (S41) → Int → Int → Option (Bool)
  | 0, _, _, _ => none
  | k + 1, x0, x3, x4 => if x4 < x3 then (if 0 ≤ x4 then (if x4 < (x0.length : Int) then (if 0 ≤ x3 then (if x3 < (x0.length : Int) then (if ((rd_T41 x0 x4).f0).toList = ((rd_T41 x0 x3).f0).toList then (some false) else (spec_ArgsRight.l1 k x0 x3 (wrap64 (x4 + 1)))) else (none)) else (none)) else (none)) else (none)) else (spec_ArgsRight.l0 k x0 (wrap64 (x3 + 1)))
end
def spec_ArgsRight.f (k : Nat) (l0 : List (S41)) : Option (Bool) := spec_ArgsRight.l0 k l0 0
theorem spec_ArgsRight.mono_l : ∀ k, (∀ y0 y1, LeO (spec_ArgsRight.l0 k y0 y1) (spec_ArgsRight.l0 (k + 1) y0 y1)) ∧ (∀ y0 y1 y2, LeO (spec_ArgsRight.j1 k y0 y1 y2) (spec_ArgsRight.j1 (k + 1) y0 y1 y2)) ∧ (∀ y0 y1 y2, LeO (spec_ArgsRight.l1 k y0 y1 y2) (spec_ArgsRight.l1 (k + 1) y0 y1 y2))
  | 0 => ⟨fun _ _ r h => by simp [spec_ArgsRight.l0] at h, fun _ _ _ r h => by simp [spec_ArgsRight.j1] at h, fun _ _ _ r h => by simp [spec_ArgsRight.l1] at h⟩
  | k + 1 => by
    obtain ⟨ih0, ih1, ih2⟩ := spec_ArgsRight.mono_l k
    refine ⟨?_, ?_, ?_⟩
    · intro y0 y1
      unfold spec_ArgsRight.l0
      repeat' first
      | (with_reducible exact ih0 _ _)
      | (with_reducible exact ih1 _ _ _)
      | (with_reducible exact ih2 _ _ _)
      | (with_reducible exact spec_ArgumentRight.mono _ _ _ _ _)
      | (with_reducible exact LeO.refl _)
      | (with_reducible exact LeO.none _)
      | (with_reducible refine LeO.ite ?_ ?_)
      | (with_reducible refine LeO.bind ?_ (fun _ => ?_))
      | exact ih0 _ _
      | exact ih1 _ _ _
      | exact ih2 _ _ _
      | exact spec_ArgumentRight.mono _ _ _ _ _
      | exact LeO.none _
      | refine LeO.ite ?_ ?_
      | refine LeO.bind ?_ (fun _ => ?_)
    · intro y0 y1 y2
      unfold spec_ArgsRight.j1
      repeat' first
      | (with_reducible exact ih0 _ _)
      | (with_reducible exact ih1 _ _ _)
      | (with_reducible exact ih2 _ _ _)
      | (with_reducible exact spec_ArgumentRight.mono _ _ _ _ _)
      | (with_reducible exact LeO.refl _)
      | (with_reducible exact LeO.none _)
      | (with_reducible refine LeO.ite ?_ ?_)
      | (with_reducible refine LeO.bind ?_ (fun _ => ?_))
      | exact ih0 _ _
      | exact ih1 _ _ _
      | exact ih2 _ _ _
      | exact spec_ArgumentRight.mono _ _ _ _ _
      | exact LeO.none _
      | refine LeO.ite ?_ ?_
      | refine LeO.bind ?_ (fun _ => ?_)
    · intro y0 y1 y2
      unfold spec_ArgsRight.l1
      repeat' first
      | (with_reducible exact ih0 _ _)
      | (with_reducible exact ih1 _ _ _)
      | (with_reducible exact ih2 _ _ _)
      | (with_reducible exact spec_ArgumentRight.mono _ _ _ _ _)
      | (with_reducible exact LeO.refl _)
      | (with_reducible exact LeO.none _)
      | (with_reducible refine LeO.ite ?_ ?_)
      | (with_reducible refine LeO.bind ?_ (fun _ => ?_))
      | exact ih0 _ _
      | exact ih1 _ _ _
      | exact ih2 _ _ _
      | exact spec_ArgumentRight.mono _ _ _ _ _
      | exact LeO.none _
      | refine LeO.ite ?_ ?_
      | refine LeO.bind ?_ (fun _ => ?_)
theorem spec_ArgsRight.mono : ∀ a0 k, LeO (spec_ArgsRight.f k a0) (spec_ArgsRight.f (k + 1) a0) := by
  intro a0 k
  obtain ⟨ih0, ih1, ih2⟩ := spec_ArgsRight.mono_l k
  unfold spec_ArgsRight.f
  repeat' first
      | (with_reducible exact ih0 _ _)
      | (with_reducible exact ih1 _ _ _)
      | (with_reducible exact ih2 _ _ _)
      | (with_reducible exact spec_ArgumentRight.mono _ _ _ _ _)
      | (with_reducible exact LeO.refl _)
      | (with_reducible exact LeO.none _)
      | (with_reducible refine LeO.ite ?_ ?_)
      | (with_reducible refine LeO.bind ?_ (fun _ => ?_))
      | exact ih0 _ _
      | exact ih1 _ _ _
      | exact ih2 _ _ _
      | exact spec_ArgumentRight.mono _ _ _ _ _
      | exact LeO.none _
      | refine LeO.ite ?_ ?_
      | refine LeO.bind ?_ (fun _ => ?_)
set_option maxHeartbeats 8000000 in
set_option maxRecDepth 100000 in
theorem spec_ArgsRight.calls (k : Nat) (A0 : Option Addr) (c0 : Nat) (l0 : List (S41)) (r : Bool) (w : World) (hr0 : Kd.C k41 w A0 l0.length l0) (hc0 : l0.length ≤ c0) (h : spec_ArgsRight.f k l0 = some r) :
    Calls Try.prog 8 #[.slice A0 l0.length c0] w fun e w' => e = .returned (.bool r) ∧ Below w.heap.size w w' := by
  have hu37 := Try.underlying37
  have HR0 := Aside0.mk hr0
  have HC0 := Aside0.mk hc0
  clear hr0 hc0
  have HB := Aside0.mk (Below.refl w.heap.size w)
  have H : (spec_ArgsRight.l0 k l0 0) = some r := h
  clear h
  have H' := Aside0.mk H
  clear H
  go_enter Try.func8, Try.ntmps8
  go_wp2
  repeat (go_quiet (fail); try go_wp2)
  go_loopg [3] k (fun kq v3 w' => ∃ (x3_1 : Int), v3 = .int .i64 x3_1 ∧ Aside0 (spec_ArgsRight.l0 kq l0 x3_1 = some r) ∧ Aside0 (kq ≤ k) ∧ Aside0 (Below w.heap.size w w'))
  case atStart => exact ⟨(0), (by first | rfl | (simp; done) | (simp [*]; done)), H', ⟨Nat.le_refl _⟩, ⟨by repeat (first | (with_reducible first | exact HB.out | apply below_alloc | apply pw_below_drewN | apply below_drew1) | exact HB.out)⟩⟩
  case round =>
    clear H'
    obtain ⟨x3_1, rfl, HA, HK1, HB⟩ := hrel
    cases gk with
    | zero => exact absurd HA.out (by simp [spec_ArgsRight.l0])
    | succ k1 =>
      have H := HA.out
      clear HA
      simp only [spec_ArgsRight.l0] at H
      by_cases c2 : x3_1 < (l0.length : Int)
      · rw [if_pos c2] at H
        have c2b0 : decide (x3_1 < (l0.length : Int)) = true := decide_eq_true c2
        clear c2
        have HC3 := Aside0.mk H
        clear H
        go_upto_region 4 with (fail)
        repeat (go_quiet (fail); go_upto_region 4 with (fail))
        go_cut [26] (fun v26 wc => ∃ (kq : Nat) (x26_2 : Bool), v26 = .bool x26_2 ∧ Aside0 (spec_ArgsRight.j1 kq l0 x3_1 x26_2 = some r) ∧ Aside0 (kq ≤ k1) ∧ Aside0 (Below w.heap.size w wc))
        case first =>
          have H := HC3.out
          clear HC3
          by_cases c4 : 0 ≤ x3_1
          · rw [if_pos c4] at H
            have c4b0 : decide (0 ≤ x3_1) = true := decide_eq_true c4
            clear c4
            (first | rw [c4b0] | (simp only [i64_w, i32_w]; rw [c4b0]) | skip)
            replace H := Option.bind_eq_some_iff.mp H
            obtain ⟨t109, A50, H⟩ := H
            replace H : (if t109 = true then (spec_ArgsRight.j1 k1 l0 x3_1 (decide ((((rd_T41 l0 x3_1).f0).size : Int) > 100))) else (spec_ArgsRight.j1 k1 l0 x3_1 true)) = some r := H
            have A5 := Aside0.mk A50
            clear A50
            by_cases c6 : t109 = true
            · subst c6
              have H1 : (spec_ArgsRight.j1 k1 l0 x3_1 (decide ((((rd_T41 l0 x3_1).f0).size : Int) > 100))) = some r := by rw [if_pos rfl] at H; exact H
              clear H
              have H := H1
              clear H1
              have H' := Aside0.mk H
              clear H
              have p108 : 0 ≤ (x3_1 : Int) := of_decide_eq_true (by first | (with_reducible assumption) | assumption)
              have q108 : x3_1 < (l0.length : Int) := of_decide_eq_true (by first | (with_reducible assumption) | assumption)
              obtain ⟨ad108, A108_4, c108_4, e108, hx108_0, hx108_1, hx108_2, hx108_3, hx108_4, hl108_4, hi108_4⟩ := at_T41 HR0.out x3_1 p108 q108
              cases e108
              replace hx108_0 := (HB.out.cell (World.block_lt_of_cell? w _ hx108_0)).trans hx108_0
              replace hx108_1 := (HB.out.cell (World.block_lt_of_cell? w _ hx108_1)).trans hx108_1
              replace hx108_2 := (HB.out.cell (World.block_lt_of_cell? w _ hx108_2)).trans hx108_2
              replace hx108_3 := (HB.out.cell (World.block_lt_of_cell? w _ hx108_3)).trans hx108_3
              replace hx108_4 := (HB.out.cell (World.block_lt_of_cell? w _ hx108_4)).trans hx108_4
              have HR108_4 := Aside0.mk hi108_4
              have HC108_4 := Aside0.mk hl108_4
              clear hi108_4 hl108_4
              replace p108 := eq_true p108
              replace q108 := eq_true q108
              go_wp2_with (first | (go_at_call 17; (with_reducible refine (spec_ArgumentRight.calls k1 ((rd_T41 l0 x3_1).f1.f0) ((rd_T41 l0 x3_1).f1.f1) ((rd_T41 l0 x3_1).f1.f2) _ _ ((rd_T41 l0 x3_1).f1.f3) true _ ?side1 ?side2 A5.out).mono ?_); (case side1 => repeat (first | exact (Kd.C_below HR108_4.out HB.out) | (with_reducible refine Kd.C_alloc ?_ _) | (with_reducible refine Kd.C_drewN ?_ _) | (with_reducible refine Kd.C_drew ?_))); (case side2 => exact HC108_4.out); rintro e w7 ⟨rfl, hb⟩; have n0_ := Aside0.mk (below_step (by repeat (first | (with_reducible first | exact HB.out | apply below_alloc | apply pw_below_drewN | apply below_drew1) | exact HB.out)) hb); clear HB; have HB := n0_; clear n0_; (try clear hb); (try clear hb2); (try clear hk); (try clear hi); have p110 : 0 ≤ (x3_1 : Int) := of_decide_eq_true (by first | (with_reducible assumption) | assumption); have q110 : x3_1 < (l0.length : Int) := of_decide_eq_true (by first | (with_reducible assumption) | assumption); obtain ⟨ad110, A110_4, c110_4, e110, hx110_0, hx110_1, hx110_2, hx110_3, hx110_4, hl110_4, hi110_4⟩ := at_T41 HR0.out x3_1 p110 q110; obtain rfl : ad108 = ad110 := (by injection e110); replace hx110_0 := (HB.out.cell (World.block_lt_of_cell? w _ hx110_0)).trans hx110_0; replace hx110_1 := (HB.out.cell (World.block_lt_of_cell? w _ hx110_1)).trans hx110_1; replace hx110_2 := (HB.out.cell (World.block_lt_of_cell? w _ hx110_2)).trans hx110_2; replace hx110_3 := (HB.out.cell (World.block_lt_of_cell? w _ hx110_3)).trans hx110_3; replace hx110_4 := (HB.out.cell (World.block_lt_of_cell? w _ hx110_4)).trans hx110_4; have HR110_4 := Aside0.mk hi110_4; have HC110_4 := Aside0.mk hl110_4; clear hi110_4 hl110_4; replace p110 := eq_true p110; replace q110 := eq_true q110))
              repeat (go_quiet (first | (go_at_call 17; (with_reducible refine (spec_ArgumentRight.calls k1 ((rd_T41 l0 x3_1).f1.f0) ((rd_T41 l0 x3_1).f1.f1) ((rd_T41 l0 x3_1).f1.f2) _ _ ((rd_T41 l0 x3_1).f1.f3) true _ ?side1 ?side2 A5.out).mono ?_); (case side1 => repeat (first | exact (Kd.C_below HR108_4.out HB.out) | (with_reducible refine Kd.C_alloc ?_ _) | (with_reducible refine Kd.C_drewN ?_ _) | (with_reducible refine Kd.C_drew ?_))); (case side2 => exact HC108_4.out); rintro e w7 ⟨rfl, hb⟩; have n0_ := Aside0.mk (below_step (by repeat (first | (with_reducible first | exact HB.out | apply below_alloc | apply pw_below_drewN | apply below_drew1) | exact HB.out)) hb); clear HB; have HB := n0_; clear n0_; (try clear hb); (try clear hb2); (try clear hk); (try clear hi); have p110 : 0 ≤ (x3_1 : Int) := of_decide_eq_true (by first | (with_reducible assumption) | assumption); have q110 : x3_1 < (l0.length : Int) := of_decide_eq_true (by first | (with_reducible assumption) | assumption); obtain ⟨ad110, A110_4, c110_4, e110, hx110_0, hx110_1, hx110_2, hx110_3, hx110_4, hl110_4, hi110_4⟩ := at_T41 HR0.out x3_1 p110 q110; obtain rfl : ad108 = ad110 := (by injection e110); replace hx110_0 := (HB.out.cell (World.block_lt_of_cell? w _ hx110_0)).trans hx110_0; replace hx110_1 := (HB.out.cell (World.block_lt_of_cell? w _ hx110_1)).trans hx110_1; replace hx110_2 := (HB.out.cell (World.block_lt_of_cell? w _ hx110_2)).trans hx110_2; replace hx110_3 := (HB.out.cell (World.block_lt_of_cell? w _ hx110_3)).trans hx110_3; replace hx110_4 := (HB.out.cell (World.block_lt_of_cell? w _ hx110_4)).trans hx110_4; have HR110_4 := Aside0.mk hi110_4; have HC110_4 := Aside0.mk hl110_4; clear hi110_4 hl110_4; replace p110 := eq_true p110; replace q110 := eq_true q110)); try go_wp2_with (first | (go_at_call 17; (with_reducible refine (spec_ArgumentRight.calls k1 ((rd_T41 l0 x3_1).f1.f0) ((rd_T41 l0 x3_1).f1.f1) ((rd_T41 l0 x3_1).f1.f2) _ _ ((rd_T41 l0 x3_1).f1.f3) true _ ?side1 ?side2 A5.out).mono ?_); (case side1 => repeat (first | exact (Kd.C_below HR108_4.out HB.out) | (with_reducible refine Kd.C_alloc ?_ _) | (with_reducible refine Kd.C_drewN ?_ _) | (with_reducible refine Kd.C_drew ?_))); (case side2 => exact HC108_4.out); rintro e w7 ⟨rfl, hb⟩; have n0_ := Aside0.mk (below_step (by repeat (first | (with_reducible first | exact HB.out | apply below_alloc | apply pw_below_drewN | apply below_drew1) | exact HB.out)) hb); clear HB; have HB := n0_; clear n0_; (try clear hb); (try clear hb2); (try clear hk); (try clear hi); have p110 : 0 ≤ (x3_1 : Int) := of_decide_eq_true (by first | (with_reducible assumption) | assumption); have q110 : x3_1 < (l0.length : Int) := of_decide_eq_true (by first | (with_reducible assumption) | assumption); obtain ⟨ad110, A110_4, c110_4, e110, hx110_0, hx110_1, hx110_2, hx110_3, hx110_4, hl110_4, hi110_4⟩ := at_T41 HR0.out x3_1 p110 q110; obtain rfl : ad108 = ad110 := (by injection e110); replace hx110_0 := (HB.out.cell (World.block_lt_of_cell? w _ hx110_0)).trans hx110_0; replace hx110_1 := (HB.out.cell (World.block_lt_of_cell? w _ hx110_1)).trans hx110_1; replace hx110_2 := (HB.out.cell (World.block_lt_of_cell? w _ hx110_2)).trans hx110_2; replace hx110_3 := (HB.out.cell (World.block_lt_of_cell? w _ hx110_3)).trans hx110_3; replace hx110_4 := (HB.out.cell (World.block_lt_of_cell? w _ hx110_4)).trans hx110_4; have HR110_4 := Aside0.mk hi110_4; have HC110_4 := Aside0.mk hl110_4; clear hi110_4 hl110_4; replace p110 := eq_true p110; replace q110 := eq_true q110)))
              go_meet
              case rel => exact ⟨_, (decide ((((rd_T41 l0 x3_1).f0).size : Int) > 100)), (by first | rfl | (simp; done) | (simp [*]; done)), H', ⟨by have := HK1.out; first | omega | exact Nat.le_refl _⟩, ⟨by repeat (first | (with_reducible first | exact HB.out | apply below_alloc | apply pw_below_drewN | apply below_drew1) | exact HB.out)⟩⟩
            · replace c6 := Bool.eq_false_iff.mpr c6
              subst c6
              have H1 : (spec_ArgsRight.j1 k1 l0 x3_1 true) = some r := by rw [if_neg (show ¬ (false = true) by decide)] at H; exact H
              clear H
              have H := H1
              clear H1
              have H' := Aside0.mk H
              clear H
              have p108 : 0 ≤ (x3_1 : Int) := of_decide_eq_true (by first | (with_reducible assumption) | assumption)
              have q108 : x3_1 < (l0.length : Int) := of_decide_eq_true (by first | (with_reducible assumption) | assumption)
              obtain ⟨ad108, A108_4, c108_4, e108, hx108_0, hx108_1, hx108_2, hx108_3, hx108_4, hl108_4, hi108_4⟩ := at_T41 HR0.out x3_1 p108 q108
              cases e108
              replace hx108_0 := (HB.out.cell (World.block_lt_of_cell? w _ hx108_0)).trans hx108_0
              replace hx108_1 := (HB.out.cell (World.block_lt_of_cell? w _ hx108_1)).trans hx108_1
              replace hx108_2 := (HB.out.cell (World.block_lt_of_cell? w _ hx108_2)).trans hx108_2
              replace hx108_3 := (HB.out.cell (World.block_lt_of_cell? w _ hx108_3)).trans hx108_3
              replace hx108_4 := (HB.out.cell (World.block_lt_of_cell? w _ hx108_4)).trans hx108_4
              have HR108_4 := Aside0.mk hi108_4
              have HC108_4 := Aside0.mk hl108_4
              clear hi108_4 hl108_4
              replace p108 := eq_true p108
              replace q108 := eq_true q108
              go_wp2_with (first | (go_at_call 17; (with_reducible refine (spec_ArgumentRight.calls k1 ((rd_T41 l0 x3_1).f1.f0) ((rd_T41 l0 x3_1).f1.f1) ((rd_T41 l0 x3_1).f1.f2) _ _ ((rd_T41 l0 x3_1).f1.f3) false _ ?side1 ?side2 A5.out).mono ?_); (case side1 => repeat (first | exact (Kd.C_below HR108_4.out HB.out) | (with_reducible refine Kd.C_alloc ?_ _) | (with_reducible refine Kd.C_drewN ?_ _) | (with_reducible refine Kd.C_drew ?_))); (case side2 => exact HC108_4.out); rintro e w8 ⟨rfl, hb⟩; have n0_ := Aside0.mk (below_step (by repeat (first | (with_reducible first | exact HB.out | apply below_alloc | apply pw_below_drewN | apply below_drew1) | exact HB.out)) hb); clear HB; have HB := n0_; clear n0_; (try clear hb); (try clear hb2); (try clear hk); (try clear hi)))
              repeat (go_quiet (first | (go_at_call 17; (with_reducible refine (spec_ArgumentRight.calls k1 ((rd_T41 l0 x3_1).f1.f0) ((rd_T41 l0 x3_1).f1.f1) ((rd_T41 l0 x3_1).f1.f2) _ _ ((rd_T41 l0 x3_1).f1.f3) false _ ?side1 ?side2 A5.out).mono ?_); (case side1 => repeat (first | exact (Kd.C_below HR108_4.out HB.out) | (with_reducible refine Kd.C_alloc ?_ _) | (with_reducible refine Kd.C_drewN ?_ _) | (with_reducible refine Kd.C_drew ?_))); (case side2 => exact HC108_4.out); rintro e w8 ⟨rfl, hb⟩; have n0_ := Aside0.mk (below_step (by repeat (first | (with_reducible first | exact HB.out | apply below_alloc | apply pw_below_drewN | apply below_drew1) | exact HB.out)) hb); clear HB; have HB := n0_; clear n0_; (try clear hb); (try clear hb2); (try clear hk); (try clear hi))); try go_wp2_with (first | (go_at_call 17; (with_reducible refine (spec_ArgumentRight.calls k1 ((rd_T41 l0 x3_1).f1.f0) ((rd_T41 l0 x3_1).f1.f1) ((rd_T41 l0 x3_1).f1.f2) _ _ ((rd_T41 l0 x3_1).f1.f3) false _ ?side1 ?side2 A5.out).mono ?_); (case side1 => repeat (first | exact (Kd.C_below HR108_4.out HB.out) | (with_reducible refine Kd.C_alloc ?_ _) | (with_reducible refine Kd.C_drewN ?_ _) | (with_reducible refine Kd.C_drew ?_))); (case side2 => exact HC108_4.out); rintro e w8 ⟨rfl, hb⟩; have n0_ := Aside0.mk (below_step (by repeat (first | (with_reducible first | exact HB.out | apply below_alloc | apply pw_below_drewN | apply below_drew1) | exact HB.out)) hb); clear HB; have HB := n0_; clear n0_; (try clear hb); (try clear hb2); (try clear hk); (try clear hi))))
              go_meet
              case rel => exact ⟨_, (true), (by first | rfl | (simp; done) | (simp [*]; done)), H', ⟨by have := HK1.out; first | omega | exact Nat.le_refl _⟩, ⟨by repeat (first | (with_reducible first | exact HB.out | apply below_alloc | apply pw_below_drewN | apply below_drew1) | exact HB.out)⟩⟩
          · rw [if_neg c4] at H
            exact absurd H (by simp)
        case rest =>
          clear HC3
          try clear c1
          try clear p1
          try clear q1
          try clear hx1
          try clear c2
          try clear c2b0
          try clear p2
          try clear c4
          try clear c4b0
          try clear c6
          try clear c8
          try clear hx108_0
          try clear hx108_1
          try clear hx108_2
          try clear hx108_3
          try clear hx108_4
          try clear hx110_0
          try clear hx110_1
          try clear hx110_2
          try clear hx110_3
          try clear hx110_4
          try clear p108
          try clear p110
          try clear q108
          try clear q110
          obtain ⟨kq, x26_2, rfl, HA, HJ2, HB⟩ := hcut
          cases kq with
          | zero => exact absurd HA.out (by simp [spec_ArgsRight.j1])
          | succ kj2 =>
            have H := HA.out
            clear HA
            simp only [spec_ArgsRight.j1] at H
            by_cases c9 : x26_2 = true
            · subst c9
              have H1 : (some false) = some r := by rw [if_pos rfl] at H; exact H
              clear H
              have H := H1
              clear H1
              obtain rfl := Option.some.inj H
              go_wp2
              repeat (go_quiet (fail); try go_wp2)
              go_ret
              exact ⟨by first | rfl | (simp [errW_none, errW_some] <;> rfl) | (simp [*, errW_none, errW_some] <;> rfl), by repeat (first | (with_reducible first | exact HB.out | apply below_alloc | apply pw_below_drewN | apply below_drew1) | exact HB.out)⟩
            · replace c9 := Bool.eq_false_iff.mpr c9
              subst c9
              have H1 : (spec_ArgsRight.l1 kj2 l0 x3_1 0) = some r := by rw [if_neg (show ¬ (false = true) by decide)] at H; exact H
              clear H
              have H := H1
              clear H1
              have H' := Aside0.mk H
              clear H
              go_wp2
              repeat (go_quiet (fail); try go_wp2)
              go_loopg [4] kj2 (fun kq v4 w' => ∃ (x4_3 : Int), v4 = .int .i64 x4_3 ∧ Aside0 (spec_ArgsRight.l1 kq l0 x3_1 x4_3 = some r) ∧ Aside0 (kq ≤ kj2) ∧ Aside0 (Below w.heap.size w w'))
              case atStart => exact ⟨(0), (by first | rfl | (simp; done) | (simp [*]; done)), H', ⟨Nat.le_refl _⟩, ⟨by repeat (first | (with_reducible first | exact HB.out | apply below_alloc | apply pw_below_drewN | apply below_drew1) | exact HB.out)⟩⟩
              case round =>
                clear H'
                try clear c1
                try clear p1
                try clear q1
                try clear hx1
                try clear c2
                try clear c2b0
                try clear p2
                try clear c4
                try clear c4b0
                try clear c6
                try clear c8
                try clear c9
                try clear hx108_0
                try clear hx108_1
                try clear hx108_2
                try clear hx108_3
                try clear hx108_4
                try clear hx110_0
                try clear hx110_1
                try clear hx110_2
                try clear hx110_3
                try clear hx110_4
                try clear p1
                try clear p108
                try clear p110
                try clear p2
                try clear q1
                try clear q108
                try clear q110
                obtain ⟨x4_3, rfl, HA, HK3, HB⟩ := hrel
                cases gk with
                | zero => exact absurd HA.out (by simp [spec_ArgsRight.l1])
                | succ k3 =>
                  have H := HA.out
                  clear HA
                  simp only [spec_ArgsRight.l1] at H
                  by_cases c10 : x4_3 < x3_1
                  · rw [if_pos c10] at H
                    have c10b0 : decide (x4_3 < x3_1) = true := decide_eq_true c10
                    clear c10
                    by_cases c11 : 0 ≤ x4_3
                    · rw [if_pos c11] at H
                      have c11b0 : decide (0 ≤ x4_3) = true := decide_eq_true c11
                      clear c11
                      by_cases c12 : x4_3 < (l0.length : Int)
                      · rw [if_pos c12] at H
                        have c12b0 : decide (x4_3 < (l0.length : Int)) = true := decide_eq_true c12
                        clear c12
                        by_cases c13 : 0 ≤ x3_1
                        · rw [if_pos c13] at H
                          have c13b0 : decide (0 ≤ x3_1) = true := decide_eq_true c13
                          clear c13
                          by_cases c14 : x3_1 < (l0.length : Int)
                          · rw [if_pos c14] at H
                            have c14b0 : decide (x3_1 < (l0.length : Int)) = true := decide_eq_true c14
                            clear c14
                            by_cases c15 : ((rd_T41 l0 x4_3).f0).toList = ((rd_T41 l0 x3_1).f0).toList
                            · rw [if_pos c15] at H
                              have c15b0 : (((rd_T41 l0 x4_3).f0).toList == ((rd_T41 l0 x3_1).f0).toList) = true := beq_iff_eq.mpr c15
                              have c15b1 : (((rd_T41 l0 x4_3).f0).toList != ((rd_T41 l0 x3_1).f0).toList) = false := bne_eq_false_iff_eq.mpr c15
                              clear c15
                              obtain rfl := Option.some.inj H
                              have p111 : 0 ≤ (x4_3 : Int) := of_decide_eq_true (by first | (with_reducible assumption) | assumption)
                              have q111 : x4_3 < (l0.length : Int) := of_decide_eq_true (by first | (with_reducible assumption) | assumption)
                              obtain ⟨ad111, A111_4, c111_4, e111, hx111_0, hx111_1, hx111_2, hx111_3, hx111_4, hl111_4, hi111_4⟩ := at_T41 HR0.out x4_3 p111 q111
                              cases e111
                              replace hx111_0 := (HB.out.cell (World.block_lt_of_cell? w _ hx111_0)).trans hx111_0
                              replace hx111_1 := (HB.out.cell (World.block_lt_of_cell? w _ hx111_1)).trans hx111_1
                              replace hx111_2 := (HB.out.cell (World.block_lt_of_cell? w _ hx111_2)).trans hx111_2
                              replace hx111_3 := (HB.out.cell (World.block_lt_of_cell? w _ hx111_3)).trans hx111_3
                              replace hx111_4 := (HB.out.cell (World.block_lt_of_cell? w _ hx111_4)).trans hx111_4
                              have HR111_4 := Aside0.mk hi111_4
                              have HC111_4 := Aside0.mk hl111_4
                              clear hi111_4 hl111_4
                              replace p111 := eq_true p111
                              replace q111 := eq_true q111
                              have p112 : 0 ≤ (x3_1 : Int) := of_decide_eq_true (by first | (with_reducible assumption) | assumption)
                              have q112 : x3_1 < (l0.length : Int) := of_decide_eq_true (by first | (with_reducible assumption) | assumption)
                              obtain ⟨ad112, A112_4, c112_4, e112, hx112_0, hx112_1, hx112_2, hx112_3, hx112_4, hl112_4, hi112_4⟩ := at_T41 HR0.out x3_1 p112 q112
                              obtain rfl : ad111 = ad112 := (by injection e112)
                              replace hx112_0 := (HB.out.cell (World.block_lt_of_cell? w _ hx112_0)).trans hx112_0
                              replace hx112_1 := (HB.out.cell (World.block_lt_of_cell? w _ hx112_1)).trans hx112_1
                              replace hx112_2 := (HB.out.cell (World.block_lt_of_cell? w _ hx112_2)).trans hx112_2
                              replace hx112_3 := (HB.out.cell (World.block_lt_of_cell? w _ hx112_3)).trans hx112_3
                              replace hx112_4 := (HB.out.cell (World.block_lt_of_cell? w _ hx112_4)).trans hx112_4
                              have HR112_4 := Aside0.mk hi112_4
                              have HC112_4 := Aside0.mk hl112_4
                              clear hi112_4 hl112_4
                              replace p112 := eq_true p112
                              replace q112 := eq_true q112
                              go_wp2
                              repeat (go_quiet (fail); try go_wp2)
                              go_ret
                              exact ⟨by first | rfl | (simp [errW_none, errW_some] <;> rfl) | (simp [*, errW_none, errW_some] <;> rfl), by repeat (first | (with_reducible first | exact HB.out | apply below_alloc | apply pw_below_drewN | apply below_drew1) | exact HB.out)⟩
                            · rw [if_neg c15] at H
                              have c15b0 : (((rd_T41 l0 x4_3).f0).toList == ((rd_T41 l0 x3_1).f0).toList) = false := beq_eq_false_iff_ne.mpr c15
                              have c15b1 : (((rd_T41 l0 x4_3).f0).toList != ((rd_T41 l0 x3_1).f0).toList) = true := bne_iff_ne.mpr c15
                              have H' := Aside0.mk H
                              clear H
                              have p111 : 0 ≤ (x4_3 : Int) := of_decide_eq_true (by first | (with_reducible assumption) | assumption)
                              have q111 : x4_3 < (l0.length : Int) := of_decide_eq_true (by first | (with_reducible assumption) | assumption)
                              obtain ⟨ad111, A111_4, c111_4, e111, hx111_0, hx111_1, hx111_2, hx111_3, hx111_4, hl111_4, hi111_4⟩ := at_T41 HR0.out x4_3 p111 q111
                              cases e111
                              replace hx111_0 := (HB.out.cell (World.block_lt_of_cell? w _ hx111_0)).trans hx111_0
                              replace hx111_1 := (HB.out.cell (World.block_lt_of_cell? w _ hx111_1)).trans hx111_1
                              replace hx111_2 := (HB.out.cell (World.block_lt_of_cell? w _ hx111_2)).trans hx111_2
                              replace hx111_3 := (HB.out.cell (World.block_lt_of_cell? w _ hx111_3)).trans hx111_3
                              replace hx111_4 := (HB.out.cell (World.block_lt_of_cell? w _ hx111_4)).trans hx111_4
                              have HR111_4 := Aside0.mk hi111_4
                              have HC111_4 := Aside0.mk hl111_4
                              clear hi111_4 hl111_4
                              replace p111 := eq_true p111
                              replace q111 := eq_true q111
                              have p112 : 0 ≤ (x3_1 : Int) := of_decide_eq_true (by first | (with_reducible assumption) | assumption)
                              have q112 : x3_1 < (l0.length : Int) := of_decide_eq_true (by first | (with_reducible assumption) | assumption)
                              obtain ⟨ad112, A112_4, c112_4, e112, hx112_0, hx112_1, hx112_2, hx112_3, hx112_4, hl112_4, hi112_4⟩ := at_T41 HR0.out x3_1 p112 q112
                              obtain rfl : ad111 = ad112 := (by injection e112)
                              replace hx112_0 := (HB.out.cell (World.block_lt_of_cell? w _ hx112_0)).trans hx112_0
                              replace hx112_1 := (HB.out.cell (World.block_lt_of_cell? w _ hx112_1)).trans hx112_1
                              replace hx112_2 := (HB.out.cell (World.block_lt_of_cell? w _ hx112_2)).trans hx112_2
                              replace hx112_3 := (HB.out.cell (World.block_lt_of_cell? w _ hx112_3)).trans hx112_3
                              replace hx112_4 := (HB.out.cell (World.block_lt_of_cell? w _ hx112_4)).trans hx112_4
                              have HR112_4 := Aside0.mk hi112_4
                              have HC112_4 := Aside0.mk hl112_4
                              clear hi112_4 hl112_4
                              replace p112 := eq_true p112
                              replace q112 := eq_true q112
                              go_wp2
                              repeat (go_quiet (fail); try go_wp2)
                              go_roundg k3
                              case measure => have := HK1.out; have := HJ2.out; have := HK3.out; omega
                              case rel => exact ⟨(wrap64 (x4_3 + 1)), (by first | rfl | (simp; done) | (simp [*]; done)), H', ⟨by have := HK1.out; have := HJ2.out; have := HK3.out; omega⟩, ⟨by repeat (first | (with_reducible first | exact HB.out | apply below_alloc | apply pw_below_drewN | apply below_drew1) | exact HB.out)⟩⟩
                          · rw [if_neg c14] at H
                            exact absurd H (by simp)
                        · rw [if_neg c13] at H
                          exact absurd H (by simp)
                      · rw [if_neg c12] at H
                        exact absurd H (by simp)
                    · rw [if_neg c11] at H
                      exact absurd H (by simp)
                  · rw [if_neg c10] at H
                    have c10b0 : decide (x4_3 < x3_1) = false := decide_eq_false c10
                    clear c10
                    have H' := Aside0.mk H
                    clear H
                    go_wp2
                    repeat (go_quiet (fail); try go_wp2)
                    go_roundg k3
                    case measure => have := HK1.out; have := HJ2.out; have := HK3.out; omega
                    case rel => exact ⟨(wrap64 (x3_1 + 1)), (by first | rfl | (simp; done) | (simp [*]; done)), H', ⟨by have := HK1.out; have := HJ2.out; have := HK3.out; omega⟩, ⟨by repeat (first | (with_reducible first | exact HB.out | apply below_alloc | apply pw_below_drewN | apply below_drew1) | exact HB.out)⟩⟩
      · rw [if_neg c2] at H
        have c2b0 : decide (x3_1 < (l0.length : Int)) = false := decide_eq_false c2
        clear c2
        obtain rfl := Option.some.inj H
        go_wp2
        repeat (go_quiet (fail); try go_wp2)
        go_ret
        exact ⟨by first | rfl | (simp [errW_none, errW_some] <;> rfl) | (simp [*, errW_none, errW_some] <;> rfl), by repeat (first | (with_reducible first | exact HB.out | apply below_alloc | apply pw_below_drewN | apply below_drew1) | exact HB.out)⟩

end Go.Proofs.Ytlclbfhnllknkaa.QE
