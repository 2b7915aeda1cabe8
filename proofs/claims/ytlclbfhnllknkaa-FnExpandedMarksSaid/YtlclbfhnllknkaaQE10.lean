-- WRITTEN BY A PROGRAM OF THIS SESSION (wip/print2.py): the print, with contracts of this session's own let in. Not trusted: Lean checks it.
import Derived.Test.YtlclbfhnllknkaaQE0
import Derived.Test.YtlclbfhnllknkaaQE6
import Derived.Test.YtlclbfhnllknkaaQE8
import Derived.Test.YtlclbfhnllknkaaQE9
import Derived.Test.YtlclbfhnllknkaaHEqual
import Derived.Test.YtlclbfhnllknkaaHExpI
namespace Go.Proofs.Ytlclbfhnllknkaa.QE
open Go.RowKit Go.Proofs.YtlclbfhnllknkaaW.PrintWords Go.Proofs.YtlclbfhnllknkaaW.PrintLast Go.Proofs.YtlclbfhnllknkaaW.PrintMore
attribute [local go_sem] max2_int min2_int max_two min_two max_three min_three max_four min_four   -- for this text's walks alone
set_option linter.unusedVariables false
set_option linter.unusedSimpArgs false

open Go.Proofs.Ytlclbfhnllknkaa.H
/-! ### laws_FnExpandedMarks: function 5 -/
mutual
def laws_FnExpandedMarks.j0 : Nat → ByteArray → List (S37) → Bool → Option (Bool)
  | 0, _, _, _ => none
  | k + 1, x0, x1, x19 => if x19 = true then (some true) else (if (x0.size : Int) > 1000 then (laws_FnExpandedMarks.j1 k x0 x1 true) else ((laws_args9.f k x1).bind fun t161 => (if t161 = true then ((laws_marks9.f k x0).bind fun t162 => (if t162 = (x1.length : Int) then ((laws_single9.f k x1).bind fun t163 => (laws_FnExpandedMarks.j1 k x0 x1 t163)) else (laws_FnExpandedMarks.j1 k x0 x1 true))) else (laws_FnExpandedMarks.j1 k x0 x1 true))))
def laws_FnExpandedMarks.j1 : Nat → ByteArray → List (S37) → Bool → Option (Bool)
  | 0, _, _, _ => none
  | k + 1, x0, x1, x38 => if x38 = true then (some true) else (laws_FnExpandedMarks.l0 k x0 x1 0)
def laws_FnExpandedMarks.l0 : Nat → ByteArray → List (S37) → Int → Option (Bool)
  | 0, _, _, _ => none
  | k + 1, x0, x1, x5 => if x5 < (x1.length : Int) then (if 0 ≤ x5 then (if ((rd_T37 x1 x5).f0) = 5 then (if (((rd_T37 x1 x5).f3).length : Int) = 0 then (some true) else (laws_FnExpandedMarks.l0 k x0 x1 (wrap64 (x5 + 1)))) else (laws_FnExpandedMarks.l0 k x0 x1 (wrap64 (x5 + 1)))) else (none)) else ((impl_Expanded.f x0 x1).bind fun bt166 => ((impl_Expanded.f bt166.1 bt166.2.1).bind fun bt171 => (if bt166.2.2 = true then (if bt171.2.2 = true then ((laws_marks9.f k bt166.1).bind fun t176 => (if t176 = (bt166.2.1.length : Int) then (if bt171.1.toList = bt166.1.toList then ((spec_EqualValues.f bt166.2.1 bt171.2.1).bind fun t177 => (some t177)) else (some false)) else (some false))) else (some false)) else (some false))))
end
def laws_FnExpandedMarks.f (k : Nat) (a0 : ByteArray) (l1 : List (S37)) : Option (Bool) := if (a0.size : Int) > 2147483647 then (laws_FnExpandedMarks.j0 k a0 l1 true) else (laws_FnExpandedMarks.j0 k a0 l1 (decide ((l1.length : Int) > 2147483647)))
theorem laws_FnExpandedMarks.mono_l : ∀ k, (∀ y0 y1 y2, LeO (laws_FnExpandedMarks.j0 k y0 y1 y2) (laws_FnExpandedMarks.j0 (k + 1) y0 y1 y2)) ∧ (∀ y0 y1 y2, LeO (laws_FnExpandedMarks.j1 k y0 y1 y2) (laws_FnExpandedMarks.j1 (k + 1) y0 y1 y2)) ∧ (∀ y0 y1 y2, LeO (laws_FnExpandedMarks.l0 k y0 y1 y2) (laws_FnExpandedMarks.l0 (k + 1) y0 y1 y2))
  | 0 => ⟨fun _ _ _ r h => by simp [laws_FnExpandedMarks.j0] at h, fun _ _ _ r h => by simp [laws_FnExpandedMarks.j1] at h, fun _ _ _ r h => by simp [laws_FnExpandedMarks.l0] at h⟩
  | k + 1 => by
    obtain ⟨ih0, ih1, ih2⟩ := laws_FnExpandedMarks.mono_l k
    refine ⟨?_, ?_, ?_⟩
    · intro y0 y1 y2
      unfold laws_FnExpandedMarks.j0
      repeat' first
      | (with_reducible exact ih0 _ _ _)
      | (with_reducible exact ih1 _ _ _)
      | (with_reducible exact ih2 _ _ _)
      | (with_reducible exact laws_args9.mono _ _)
      | (with_reducible exact laws_marks9.mono _ _)
      | (with_reducible exact laws_single9.mono _ _)
      | (with_reducible exact LeO.refl _)
      | (with_reducible exact LeO.none _)
      | (with_reducible refine LeO.ite ?_ ?_)
      | (with_reducible refine LeO.bind ?_ (fun _ => ?_))
      | exact ih0 _ _ _
      | exact ih1 _ _ _
      | exact ih2 _ _ _
      | exact laws_args9.mono _ _
      | exact laws_marks9.mono _ _
      | exact laws_single9.mono _ _
      | exact LeO.none _
      | refine LeO.ite ?_ ?_
      | refine LeO.bind ?_ (fun _ => ?_)
    · intro y0 y1 y2
      unfold laws_FnExpandedMarks.j1
      repeat' first
      | (with_reducible exact ih0 _ _ _)
      | (with_reducible exact ih1 _ _ _)
      | (with_reducible exact ih2 _ _ _)
      | (with_reducible exact laws_args9.mono _ _)
      | (with_reducible exact laws_marks9.mono _ _)
      | (with_reducible exact laws_single9.mono _ _)
      | (with_reducible exact LeO.refl _)
      | (with_reducible exact LeO.none _)
      | (with_reducible refine LeO.ite ?_ ?_)
      | (with_reducible refine LeO.bind ?_ (fun _ => ?_))
      | exact ih0 _ _ _
      | exact ih1 _ _ _
      | exact ih2 _ _ _
      | exact laws_args9.mono _ _
      | exact laws_marks9.mono _ _
      | exact laws_single9.mono _ _
      | exact LeO.none _
      | refine LeO.ite ?_ ?_
      | refine LeO.bind ?_ (fun _ => ?_)
    · intro y0 y1 y2
      unfold laws_FnExpandedMarks.l0
      repeat' first
      | (with_reducible exact ih0 _ _ _)
      | (with_reducible exact ih1 _ _ _)
      | (with_reducible exact ih2 _ _ _)
      | (with_reducible exact laws_args9.mono _ _)
      | (with_reducible exact laws_marks9.mono _ _)
      | (with_reducible exact laws_single9.mono _ _)
      | (with_reducible exact LeO.refl _)
      | (with_reducible exact LeO.none _)
      | (with_reducible refine LeO.ite ?_ ?_)
      | (with_reducible refine LeO.bind ?_ (fun _ => ?_))
      | exact ih0 _ _ _
      | exact ih1 _ _ _
      | exact ih2 _ _ _
      | exact laws_args9.mono _ _
      | exact laws_marks9.mono _ _
      | exact laws_single9.mono _ _
      | exact LeO.none _
      | refine LeO.ite ?_ ?_
      | refine LeO.bind ?_ (fun _ => ?_)
theorem laws_FnExpandedMarks.mono : ∀ a0 a1 k, LeO (laws_FnExpandedMarks.f k a0 a1) (laws_FnExpandedMarks.f (k + 1) a0 a1) := by
  intro a0 a1 k
  obtain ⟨ih0, ih1, ih2⟩ := laws_FnExpandedMarks.mono_l k
  unfold laws_FnExpandedMarks.f
  repeat' first
      | (with_reducible exact ih0 _ _ _)
      | (with_reducible exact ih1 _ _ _)
      | (with_reducible exact ih2 _ _ _)
      | (with_reducible exact laws_args9.mono _ _)
      | (with_reducible exact laws_marks9.mono _ _)
      | (with_reducible exact laws_single9.mono _ _)
      | (with_reducible exact LeO.refl _)
      | (with_reducible exact LeO.none _)
      | (with_reducible refine LeO.ite ?_ ?_)
      | (with_reducible refine LeO.bind ?_ (fun _ => ?_))
      | exact ih0 _ _ _
      | exact ih1 _ _ _
      | exact ih2 _ _ _
      | exact laws_args9.mono _ _
      | exact laws_marks9.mono _ _
      | exact laws_single9.mono _ _
      | exact LeO.none _
      | refine LeO.ite ?_ ?_
      | refine LeO.bind ?_ (fun _ => ?_)
set_option maxHeartbeats 8000000 in
set_option maxRecDepth 100000 in
theorem laws_FnExpandedMarks.calls (k : Nat) (a0 : ByteArray) (A1 : Option Addr) (c1 : Nat) (l1 : List (S37)) (r : Bool) (w : World) (hr1 : Kd.C k37 w A1 l1.length l1) (hc1 : l1.length ≤ c1) (h : laws_FnExpandedMarks.f k a0 l1 = some r) :
    Calls Try.prog 5 #[.string a0, .slice A1 l1.length c1] w fun e w' => e = .returned (.bool r) ∧ Below w.heap.size w w' := by
  have HR1 := Aside0.mk hr1
  have HC1 := Aside0.mk hc1
  clear hr1 hc1
  have HB := Aside0.mk (Below.refl w.heap.size w)
  have H : (if (a0.size : Int) > 2147483647 then (laws_FnExpandedMarks.j0 k a0 l1 true) else (laws_FnExpandedMarks.j0 k a0 l1 (decide ((l1.length : Int) > 2147483647)))) = some r := h
  clear h
  have HC3 := Aside0.mk H
  clear H
  go_enter Try.func5, Try.ntmps5
  go_upto_region 1 with (fail)
  go_cut [19] (fun v19 wc => ∃ (kq : Nat) (x19_2 : Bool), v19 = .bool x19_2 ∧ Aside0 (laws_FnExpandedMarks.j0 kq a0 l1 x19_2 = some r) ∧ Aside0 (kq ≤ k) ∧ Aside0 (Below w.heap.size w wc))
  case first =>
    have H := HC3.out
    clear HC3
    by_cases c4 : (a0.size : Int) > 2147483647
    · rw [if_pos c4] at H
      have c4b0 : decide (2147483647 < (a0.size : Int)) = true := decide_eq_true c4
      have c4b1 : decide (2147483647 < a0.size) = true := decide_eq_true (by omega)
      clear c4
      (first | rw [c4b0] | (simp only [i64_w, i32_w]; rw [c4b0]) | skip)
      have H' := Aside0.mk H
      clear H
      go_wp2
      go_meet
      case rel => exact ⟨_, (true), (by first | rfl | (simp; done) | (simp [*]; done)), H', ⟨by first | omega | exact Nat.le_refl _⟩, ⟨by repeat (first | (with_reducible first | exact HB.out | apply below_alloc | apply pw_below_drewN | apply below_drew1) | exact HB.out)⟩⟩
    · rw [if_neg c4] at H
      have c4b0 : decide (2147483647 < (a0.size : Int)) = false := decide_eq_false c4
      have c4b1 : decide (2147483647 < a0.size) = false := decide_eq_false (by omega)
      clear c4
      (first | rw [c4b0] | (simp only [i64_w, i32_w]; rw [c4b0]) | skip)
      have H' := Aside0.mk H
      clear H
      go_wp2
      go_meet
      case rel => exact ⟨_, (decide ((l1.length : Int) > 2147483647)), (by first | rfl | (simp; done) | (simp [*]; done)), H', ⟨by first | omega | exact Nat.le_refl _⟩, ⟨by repeat (first | (with_reducible first | exact HB.out | apply below_alloc | apply pw_below_drewN | apply below_drew1) | exact HB.out)⟩⟩
  case rest =>
    clear HC3
    try clear c1
    try clear p2
    try clear c4
    try clear c4b0
    try clear c4b1
    obtain ⟨kq, x19_2, rfl, HA, HJ2, HB⟩ := hcut
    cases kq with
    | zero => exact absurd HA.out (by simp [laws_FnExpandedMarks.j0])
    | succ kj2 =>
      have H := HA.out
      clear HA
      simp only [laws_FnExpandedMarks.j0] at H
      by_cases c5 : x19_2 = true
      · subst c5
        have H1 : (some true) = some r := by rw [if_pos rfl] at H; exact H
        clear H
        have H := H1
        clear H1
        obtain rfl := Option.some.inj H
        go_wp2
        go_ret
        exact ⟨by first | rfl | (simp [errW_none, errW_some] <;> rfl) | (simp [*, errW_none, errW_some] <;> rfl), by repeat (first | (with_reducible first | exact HB.out | apply below_alloc | apply pw_below_drewN | apply below_drew1) | exact HB.out)⟩
      · replace c5 := Bool.eq_false_iff.mpr c5
        subst c5
        have H1 : (if (a0.size : Int) > 1000 then (laws_FnExpandedMarks.j1 kj2 a0 l1 true) else ((laws_args9.f kj2 l1).bind fun t161 => (if t161 = true then ((laws_marks9.f kj2 a0).bind fun t162 => (if t162 = (l1.length : Int) then ((laws_single9.f kj2 l1).bind fun t163 => (laws_FnExpandedMarks.j1 kj2 a0 l1 t163)) else (laws_FnExpandedMarks.j1 kj2 a0 l1 true))) else (laws_FnExpandedMarks.j1 kj2 a0 l1 true)))) = some r := by rw [if_neg (show ¬ (false = true) by decide)] at H; exact H
        clear H
        have H := H1
        clear H1
        have HC6 := Aside0.mk H
        clear H
        go_upto_region 3 with (fail)
        go_cut [38] (fun v38 wc => ∃ (kq : Nat) (x38_5 : Bool), v38 = .bool x38_5 ∧ Aside0 (laws_FnExpandedMarks.j1 kq a0 l1 x38_5 = some r) ∧ Aside0 (kq ≤ kj2) ∧ Aside0 (Below w.heap.size w wc))
        case first =>
          have H := HC6.out
          clear HC6
          by_cases c7 : (a0.size : Int) > 1000
          · rw [if_pos c7] at H
            have c7b0 : decide (1000 < (a0.size : Int)) = true := decide_eq_true c7
            have c7b1 : decide (1000 < a0.size) = true := decide_eq_true (by omega)
            clear c7
            (first | rw [c7b0] | (simp only [i64_w, i32_w]; rw [c7b0]) | skip)
            have H' := Aside0.mk H
            clear H
            go_wp2
            go_meet
            case rel => exact ⟨_, (true), (by first | rfl | (simp; done) | (simp [*]; done)), H', ⟨by have := HJ2.out; first | omega | exact Nat.le_refl _⟩, ⟨by repeat (first | (with_reducible first | exact HB.out | apply below_alloc | apply pw_below_drewN | apply below_drew1) | exact HB.out)⟩⟩
          · rw [if_neg c7] at H
            have c7b0 : decide (1000 < (a0.size : Int)) = false := decide_eq_false c7
            have c7b1 : decide (1000 < a0.size) = false := decide_eq_false (by omega)
            clear c7
            (first | rw [c7b0] | (simp only [i64_w, i32_w]; rw [c7b0]) | skip)
            replace H := Option.bind_eq_some_iff.mp H
            obtain ⟨t161, A80, H⟩ := H
            replace H : (if t161 = true then ((laws_marks9.f kj2 a0).bind fun t162 => (if t162 = (l1.length : Int) then ((laws_single9.f kj2 l1).bind fun t163 => (laws_FnExpandedMarks.j1 kj2 a0 l1 t163)) else (laws_FnExpandedMarks.j1 kj2 a0 l1 true))) else (laws_FnExpandedMarks.j1 kj2 a0 l1 true)) = some r := H
            have A8 := Aside0.mk A80
            clear A80
            by_cases c9 : t161 = true
            · subst c9
              have H1 : ((laws_marks9.f kj2 a0).bind fun t162 => (if t162 = (l1.length : Int) then ((laws_single9.f kj2 l1).bind fun t163 => (laws_FnExpandedMarks.j1 kj2 a0 l1 t163)) else (laws_FnExpandedMarks.j1 kj2 a0 l1 true))) = some r := by rw [if_pos rfl] at H; exact H
              clear H
              have H := H1
              clear H1
              replace H := Option.bind_eq_some_iff.mp H
              obtain ⟨t162, A100, H⟩ := H
              replace H : (if t162 = (l1.length : Int) then ((laws_single9.f kj2 l1).bind fun t163 => (laws_FnExpandedMarks.j1 kj2 a0 l1 t163)) else (laws_FnExpandedMarks.j1 kj2 a0 l1 true)) = some r := H
              have A10 := Aside0.mk A100
              clear A100
              by_cases c11 : t162 = (l1.length : Int)
              · rw [if_pos c11] at H
                have c11b0 : (t162 == (l1.length : Int)) = true := beq_iff_eq.mpr c11
                have c11b1 : (t162 != (l1.length : Int)) = false := bne_eq_false_iff_eq.mpr c11
                clear c11
                replace H := Option.bind_eq_some_iff.mp H
                obtain ⟨t163, A120, H⟩ := H
                replace H : (laws_FnExpandedMarks.j1 kj2 a0 l1 t163) = some r := H
                have A12 := Aside0.mk A120
                clear A120
                have H' := Aside0.mk H
                clear H
                go_wp2_with (first | (go_at_call 12; (with_reducible refine (laws_args9.calls kj2 _ _ l1 true _ ?side1 ?side2 A8.out).mono ?_); (case side1 => repeat (first | exact (Kd.C_below HR1.out HB.out) | (with_reducible refine Kd.C_alloc ?_ _) | (with_reducible refine Kd.C_drewN ?_ _) | (with_reducible refine Kd.C_drew ?_))); (case side2 => exact HC1.out); rintro e w13 ⟨rfl, hb⟩; have n0_ := Aside0.mk (below_step (by repeat (first | (with_reducible first | exact HB.out | apply below_alloc | apply pw_below_drewN | apply below_drew1) | exact HB.out)) hb); clear HB; have HB := n0_; clear n0_; (try clear hb); (try clear hb2); (try clear hk); (try clear hi)) | (go_at_call 15; (with_reducible refine (laws_marks9.calls kj2 a0 t162 _ A10.out).mono ?_); rintro e w' ⟨rfl, ⟨nd, rfl⟩⟩) | (go_at_call 16; (with_reducible refine (laws_single9.calls kj2 _ _ l1 t163 _ ?side1 ?side2 A12.out).mono ?_); (case side1 => repeat (first | exact (Kd.C_below HR1.out (by repeat (first | (with_reducible first | exact HB.out | apply below_alloc | apply pw_below_drewN | apply below_drew1) | exact HB.out))) | (with_reducible refine Kd.C_alloc ?_ _) | (with_reducible refine Kd.C_drewN ?_ _) | (with_reducible refine Kd.C_drew ?_))); (case side2 => exact HC1.out); rintro e w14 ⟨rfl, hb⟩; have n0_ := Aside0.mk (below_step (by repeat (first | (with_reducible first | exact HB.out | apply below_alloc | apply pw_below_drewN | apply below_drew1) | exact HB.out)) hb); clear HB; have HB := n0_; clear n0_; (try clear hb); (try clear hb2); (try clear hk); (try clear hi)))
                go_meet
                case rel => exact ⟨_, (t163), (by first | rfl | (simp; done) | (simp [*]; done)), H', ⟨by have := HJ2.out; first | omega | exact Nat.le_refl _⟩, ⟨by repeat (first | (with_reducible first | exact HB.out | apply below_alloc | apply pw_below_drewN | apply below_drew1) | exact HB.out)⟩⟩
              · rw [if_neg c11] at H
                have c11b0 : (t162 == (l1.length : Int)) = false := beq_eq_false_iff_ne.mpr c11
                have c11b1 : (t162 != (l1.length : Int)) = true := bne_iff_ne.mpr c11
                have H' := Aside0.mk H
                clear H
                go_wp2_with (first | (go_at_call 12; (with_reducible refine (laws_args9.calls kj2 _ _ l1 true _ ?side1 ?side2 A8.out).mono ?_); (case side1 => repeat (first | exact (Kd.C_below HR1.out HB.out) | (with_reducible refine Kd.C_alloc ?_ _) | (with_reducible refine Kd.C_drewN ?_ _) | (with_reducible refine Kd.C_drew ?_))); (case side2 => exact HC1.out); rintro e w15 ⟨rfl, hb⟩; have n0_ := Aside0.mk (below_step (by repeat (first | (with_reducible first | exact HB.out | apply below_alloc | apply pw_below_drewN | apply below_drew1) | exact HB.out)) hb); clear HB; have HB := n0_; clear n0_; (try clear hb); (try clear hb2); (try clear hk); (try clear hi)) | (go_at_call 15; (with_reducible refine (laws_marks9.calls kj2 a0 t162 _ A10.out).mono ?_); rintro e w' ⟨rfl, ⟨nd, rfl⟩⟩))
                go_meet
                case rel => exact ⟨_, (true), (by first | rfl | (simp; done) | (simp [*]; done)), H', ⟨by have := HJ2.out; first | omega | exact Nat.le_refl _⟩, ⟨by repeat (first | (with_reducible first | exact HB.out | apply below_alloc | apply pw_below_drewN | apply below_drew1) | exact HB.out)⟩⟩
            · replace c9 := Bool.eq_false_iff.mpr c9
              subst c9
              have H1 : (laws_FnExpandedMarks.j1 kj2 a0 l1 true) = some r := by rw [if_neg (show ¬ (false = true) by decide)] at H; exact H
              clear H
              have H := H1
              clear H1
              have H' := Aside0.mk H
              clear H
              go_wp2_with (first | (go_at_call 12; (with_reducible refine (laws_args9.calls kj2 _ _ l1 false _ ?side1 ?side2 A8.out).mono ?_); (case side1 => repeat (first | exact (Kd.C_below HR1.out HB.out) | (with_reducible refine Kd.C_alloc ?_ _) | (with_reducible refine Kd.C_drewN ?_ _) | (with_reducible refine Kd.C_drew ?_))); (case side2 => exact HC1.out); rintro e w16 ⟨rfl, hb⟩; have n0_ := Aside0.mk (below_step (by repeat (first | (with_reducible first | exact HB.out | apply below_alloc | apply pw_below_drewN | apply below_drew1) | exact HB.out)) hb); clear HB; have HB := n0_; clear n0_; (try clear hb); (try clear hb2); (try clear hk); (try clear hi)))
              go_meet
              case rel => exact ⟨_, (true), (by first | rfl | (simp; done) | (simp [*]; done)), H', ⟨by have := HJ2.out; first | omega | exact Nat.le_refl _⟩, ⟨by repeat (first | (with_reducible first | exact HB.out | apply below_alloc | apply pw_below_drewN | apply below_drew1) | exact HB.out)⟩⟩
        case rest =>
          clear HC6
          try clear c1
          try clear p2
          try clear c4
          try clear c4b0
          try clear c4b1
          try clear c5
          try clear c7
          try clear c7b0
          try clear c7b1
          try clear c9
          try clear c11
          try clear c11b0
          try clear c11b1
          try clear p2
          obtain ⟨kq, x38_5, rfl, HA, HJ5, HB⟩ := hcut
          cases kq with
          | zero => exact absurd HA.out (by simp [laws_FnExpandedMarks.j1])
          | succ kj5 =>
            have H := HA.out
            clear HA
            simp only [laws_FnExpandedMarks.j1] at H
            by_cases c17 : x38_5 = true
            · subst c17
              have H1 : (some true) = some r := by rw [if_pos rfl] at H; exact H
              clear H
              have H := H1
              clear H1
              obtain rfl := Option.some.inj H
              go_wp2
              go_ret
              exact ⟨by first | rfl | (simp [errW_none, errW_some] <;> rfl) | (simp [*, errW_none, errW_some] <;> rfl), by repeat (first | (with_reducible first | exact HB.out | apply below_alloc | apply pw_below_drewN | apply below_drew1) | exact HB.out)⟩
            · replace c17 := Bool.eq_false_iff.mpr c17
              subst c17
              have H1 : (laws_FnExpandedMarks.l0 kj5 a0 l1 0) = some r := by rw [if_neg (show ¬ (false = true) by decide)] at H; exact H
              clear H
              have H := H1
              clear H1
              have H' := Aside0.mk H
              clear H
              go_wp2
              go_loopg [5] kj5 (fun kq v5 w' => ∃ (x5_3 : Int), v5 = .int .i64 x5_3 ∧ Aside0 (laws_FnExpandedMarks.l0 kq a0 l1 x5_3 = some r) ∧ Aside0 (kq ≤ kj5) ∧ Aside0 (Below w.heap.size w w'))
              case atStart => exact ⟨(0), (by first | rfl | (simp; done) | (simp [*]; done)), H', ⟨Nat.le_refl _⟩, ⟨by repeat (first | (with_reducible first | exact HB.out | apply below_alloc | apply pw_below_drewN | apply below_drew1) | exact HB.out)⟩⟩
              case round =>
                clear H'
                try clear c1
                try clear p2
                try clear c4
                try clear c4b0
                try clear c4b1
                try clear c5
                try clear c7
                try clear c7b0
                try clear c7b1
                try clear c9
                try clear c11
                try clear c11b0
                try clear c11b1
                try clear c17
                try clear p2
                obtain ⟨x5_3, rfl, HA, HK3, HB⟩ := hrel
                cases gk with
                | zero => exact absurd HA.out (by simp [laws_FnExpandedMarks.l0])
                | succ k3 =>
                  have H := HA.out
                  clear HA
                  simp only [laws_FnExpandedMarks.l0] at H
                  by_cases c18 : x5_3 < (l1.length : Int)
                  · rw [if_pos c18] at H
                    have c18b0 : decide (x5_3 < (l1.length : Int)) = true := decide_eq_true c18
                    clear c18
                    by_cases c19 : 0 ≤ x5_3
                    · rw [if_pos c19] at H
                      have c19b0 : decide (0 ≤ x5_3) = true := decide_eq_true c19
                      clear c19
                      by_cases c20 : ((rd_T37 l1 x5_3).f0) = 5
                      · rw [if_pos c20] at H
                        have c20b0 : (((rd_T37 l1 x5_3).f0) == 5) = true := beq_iff_eq.mpr c20
                        have c20b1 : (((rd_T37 l1 x5_3).f0) != 5) = false := bne_eq_false_iff_eq.mpr c20
                        clear c20
                        by_cases c21 : (((rd_T37 l1 x5_3).f3).length : Int) = 0
                        · rw [if_pos c21] at H
                          have c21b0 : ((((rd_T37 l1 x5_3).f3).length : Int) == 0) = true := beq_iff_eq.mpr c21
                          have c21b1 : ((((rd_T37 l1 x5_3).f3).length : Int) != 0) = false := bne_eq_false_iff_eq.mpr c21
                          clear c21
                          obtain rfl := Option.some.inj H
                          have p164 : 0 ≤ (x5_3 : Int) := of_decide_eq_true (by first | (with_reducible assumption) | assumption)
                          have q164 : x5_3 < (l1.length : Int) := of_decide_eq_true (by first | (with_reducible assumption) | assumption)
                          obtain ⟨ad164, A164_3, c164_3, e164, hx164_0, hx164_1, hx164_2, hx164_3, hl164_3, hi164_3⟩ := at_T37 HR1.out x5_3 p164 q164
                          cases e164
                          replace hx164_0 := (HB.out.cell (World.block_lt_of_cell? w _ hx164_0)).trans hx164_0
                          replace hx164_1 := (HB.out.cell (World.block_lt_of_cell? w _ hx164_1)).trans hx164_1
                          replace hx164_2 := (HB.out.cell (World.block_lt_of_cell? w _ hx164_2)).trans hx164_2
                          replace hx164_3 := (HB.out.cell (World.block_lt_of_cell? w _ hx164_3)).trans hx164_3
                          have HR164_3 := Aside0.mk hi164_3
                          have HC164_3 := Aside0.mk hl164_3
                          clear hi164_3 hl164_3
                          replace p164 := eq_true p164
                          replace q164 := eq_true q164
                          have p165 : 0 ≤ (x5_3 : Int) := of_decide_eq_true (by first | (with_reducible assumption) | assumption)
                          have q165 : x5_3 < (l1.length : Int) := of_decide_eq_true (by first | (with_reducible assumption) | assumption)
                          obtain ⟨ad165, A165_3, c165_3, e165, hx165_0, hx165_1, hx165_2, hx165_3, hl165_3, hi165_3⟩ := at_T37 HR1.out x5_3 p165 q165
                          obtain rfl : ad164 = ad165 := (by injection e165)
                          replace hx165_0 := (HB.out.cell (World.block_lt_of_cell? w _ hx165_0)).trans hx165_0
                          replace hx165_1 := (HB.out.cell (World.block_lt_of_cell? w _ hx165_1)).trans hx165_1
                          replace hx165_2 := (HB.out.cell (World.block_lt_of_cell? w _ hx165_2)).trans hx165_2
                          replace hx165_3 := (HB.out.cell (World.block_lt_of_cell? w _ hx165_3)).trans hx165_3
                          have HR165_3 := Aside0.mk hi165_3
                          have HC165_3 := Aside0.mk hl165_3
                          clear hi165_3 hl165_3
                          replace p165 := eq_true p165
                          replace q165 := eq_true q165
                          have ea_ := Option.some.inj (hx164_3.symm.trans hx165_3)
                          injection ea_ with ea_ en_ ec_
                          subst ea_
                          subst ec_
                          clear en_
                          go_wp2
                          go_ret
                          exact ⟨by first | rfl | (simp [errW_none, errW_some] <;> rfl) | (simp [*, errW_none, errW_some] <;> rfl), by repeat (first | (with_reducible first | exact HB.out | apply below_alloc | apply pw_below_drewN | apply below_drew1) | exact HB.out)⟩
                        · rw [if_neg c21] at H
                          have c21b0 : ((((rd_T37 l1 x5_3).f3).length : Int) == 0) = false := beq_eq_false_iff_ne.mpr c21
                          have c21b1 : ((((rd_T37 l1 x5_3).f3).length : Int) != 0) = true := bne_iff_ne.mpr c21
                          have c21b2 : ¬ (((rd_T37 l1 x5_3).f3) = []) := fun h_ => c21 (by rw [h_]; rfl)
                          have H' := Aside0.mk H
                          clear H
                          have p164 : 0 ≤ (x5_3 : Int) := of_decide_eq_true (by first | (with_reducible assumption) | assumption)
                          have q164 : x5_3 < (l1.length : Int) := of_decide_eq_true (by first | (with_reducible assumption) | assumption)
                          obtain ⟨ad164, A164_3, c164_3, e164, hx164_0, hx164_1, hx164_2, hx164_3, hl164_3, hi164_3⟩ := at_T37 HR1.out x5_3 p164 q164
                          cases e164
                          replace hx164_0 := (HB.out.cell (World.block_lt_of_cell? w _ hx164_0)).trans hx164_0
                          replace hx164_1 := (HB.out.cell (World.block_lt_of_cell? w _ hx164_1)).trans hx164_1
                          replace hx164_2 := (HB.out.cell (World.block_lt_of_cell? w _ hx164_2)).trans hx164_2
                          replace hx164_3 := (HB.out.cell (World.block_lt_of_cell? w _ hx164_3)).trans hx164_3
                          have HR164_3 := Aside0.mk hi164_3
                          have HC164_3 := Aside0.mk hl164_3
                          clear hi164_3 hl164_3
                          replace p164 := eq_true p164
                          replace q164 := eq_true q164
                          have p165 : 0 ≤ (x5_3 : Int) := of_decide_eq_true (by first | (with_reducible assumption) | assumption)
                          have q165 : x5_3 < (l1.length : Int) := of_decide_eq_true (by first | (with_reducible assumption) | assumption)
                          obtain ⟨ad165, A165_3, c165_3, e165, hx165_0, hx165_1, hx165_2, hx165_3, hl165_3, hi165_3⟩ := at_T37 HR1.out x5_3 p165 q165
                          obtain rfl : ad164 = ad165 := (by injection e165)
                          replace hx165_0 := (HB.out.cell (World.block_lt_of_cell? w _ hx165_0)).trans hx165_0
                          replace hx165_1 := (HB.out.cell (World.block_lt_of_cell? w _ hx165_1)).trans hx165_1
                          replace hx165_2 := (HB.out.cell (World.block_lt_of_cell? w _ hx165_2)).trans hx165_2
                          replace hx165_3 := (HB.out.cell (World.block_lt_of_cell? w _ hx165_3)).trans hx165_3
                          have HR165_3 := Aside0.mk hi165_3
                          have HC165_3 := Aside0.mk hl165_3
                          clear hi165_3 hl165_3
                          replace p165 := eq_true p165
                          replace q165 := eq_true q165
                          have ea_ := Option.some.inj (hx164_3.symm.trans hx165_3)
                          injection ea_ with ea_ en_ ec_
                          subst ea_
                          subst ec_
                          clear en_
                          go_wp2
                          go_roundg k3
                          case measure => have := HJ2.out; have := HJ5.out; have := HK3.out; omega
                          case rel => exact ⟨(wrap64 (x5_3 + 1)), (by first | rfl | (simp; done) | (simp [*]; done)), H', ⟨by have := HJ2.out; have := HJ5.out; have := HK3.out; omega⟩, ⟨by repeat (first | (with_reducible first | exact HB.out | apply below_alloc | apply pw_below_drewN | apply below_drew1) | exact HB.out)⟩⟩
                      · rw [if_neg c20] at H
                        have c20b0 : (((rd_T37 l1 x5_3).f0) == 5) = false := beq_eq_false_iff_ne.mpr c20
                        have c20b1 : (((rd_T37 l1 x5_3).f0) != 5) = true := bne_iff_ne.mpr c20
                        have H' := Aside0.mk H
                        clear H
                        have p164 : 0 ≤ (x5_3 : Int) := of_decide_eq_true (by first | (with_reducible assumption) | assumption)
                        have q164 : x5_3 < (l1.length : Int) := of_decide_eq_true (by first | (with_reducible assumption) | assumption)
                        obtain ⟨ad164, A164_3, c164_3, e164, hx164_0, hx164_1, hx164_2, hx164_3, hl164_3, hi164_3⟩ := at_T37 HR1.out x5_3 p164 q164
                        cases e164
                        replace hx164_0 := (HB.out.cell (World.block_lt_of_cell? w _ hx164_0)).trans hx164_0
                        replace hx164_1 := (HB.out.cell (World.block_lt_of_cell? w _ hx164_1)).trans hx164_1
                        replace hx164_2 := (HB.out.cell (World.block_lt_of_cell? w _ hx164_2)).trans hx164_2
                        replace hx164_3 := (HB.out.cell (World.block_lt_of_cell? w _ hx164_3)).trans hx164_3
                        have HR164_3 := Aside0.mk hi164_3
                        have HC164_3 := Aside0.mk hl164_3
                        clear hi164_3 hl164_3
                        replace p164 := eq_true p164
                        replace q164 := eq_true q164
                        go_wp2
                        go_roundg k3
                        case measure => have := HJ2.out; have := HJ5.out; have := HK3.out; omega
                        case rel => exact ⟨(wrap64 (x5_3 + 1)), (by first | rfl | (simp; done) | (simp [*]; done)), H', ⟨by have := HJ2.out; have := HJ5.out; have := HK3.out; omega⟩, ⟨by repeat (first | (with_reducible first | exact HB.out | apply below_alloc | apply pw_below_drewN | apply below_drew1) | exact HB.out)⟩⟩
                    · rw [if_neg c19] at H
                      exact absurd H (by simp)
                  · rw [if_neg c18] at H
                    have c18b0 : decide (x5_3 < (l1.length : Int)) = false := decide_eq_false c18
                    clear c18
                    replace H := Option.bind_eq_some_iff.mp H
                    obtain ⟨⟨t166, t167, t168⟩, A220, H⟩ := H
                    replace H : ((impl_Expanded.f t166 t167).bind fun bt171 => (if t168 = true then (if bt171.2.2 = true then ((laws_marks9.f k3 t166).bind fun t176 => (if t176 = (t167.length : Int) then (if bt171.1.toList = t166.toList then ((spec_EqualValues.f t167 bt171.2.1).bind fun t177 => (some t177)) else (some false)) else (some false))) else (some false)) else (some false))) = some r := H
                    have A22 := Aside0.mk A220
                    clear A220
                    replace H := Option.bind_eq_some_iff.mp H
                    obtain ⟨⟨t171, t172, t173⟩, A230, H⟩ := H
                    replace H : (if t168 = true then (if t173 = true then ((laws_marks9.f k3 t166).bind fun t176 => (if t176 = (t167.length : Int) then (if t171.toList = t166.toList then ((spec_EqualValues.f t167 t172).bind fun t177 => (some t177)) else (some false)) else (some false))) else (some false)) else (some false)) = some r := H
                    have A23 := Aside0.mk A230
                    clear A230
                    by_cases c24 : t168 = true
                    · subst c24
                      have H1 : (if t173 = true then ((laws_marks9.f k3 t166).bind fun t176 => (if t176 = (t167.length : Int) then (if t171.toList = t166.toList then ((spec_EqualValues.f t167 t172).bind fun t177 => (some t177)) else (some false)) else (some false))) else (some false)) = some r := by rw [if_pos rfl] at H; exact H
                      clear H
                      have H := H1
                      clear H1
                      by_cases c25 : t173 = true
                      · subst c25
                        have H1 : ((laws_marks9.f k3 t166).bind fun t176 => (if t176 = (t167.length : Int) then (if t171.toList = t166.toList then ((spec_EqualValues.f t167 t172).bind fun t177 => (some t177)) else (some false)) else (some false))) = some r := by rw [if_pos rfl] at H; exact H
                        clear H
                        have H := H1
                        clear H1
                        replace H := Option.bind_eq_some_iff.mp H
                        obtain ⟨t176, A260, H⟩ := H
                        replace H : (if t176 = (t167.length : Int) then (if t171.toList = t166.toList then ((spec_EqualValues.f t167 t172).bind fun t177 => (some t177)) else (some false)) else (some false)) = some r := H
                        have A26 := Aside0.mk A260
                        clear A260
                        by_cases c27 : t176 = (t167.length : Int)
                        · rw [if_pos c27] at H
                          have c27b0 : (t176 == (t167.length : Int)) = true := beq_iff_eq.mpr c27
                          have c27b1 : (t176 != (t167.length : Int)) = false := bne_eq_false_iff_eq.mpr c27
                          clear c27
                          by_cases c28 : t171.toList = t166.toList
                          · rw [if_pos c28] at H
                            have c28b0 : (t171.toList == t166.toList) = true := beq_iff_eq.mpr c28
                            have c28b1 : (t171.toList != t166.toList) = false := bne_eq_false_iff_eq.mpr c28
                            clear c28
                            replace H := Option.bind_eq_some_iff.mp H
                            obtain ⟨t177, A290, H⟩ := H
                            replace H : (some t177) = some r := H
                            have A29 := Aside0.mk A290
                            clear A290
                            obtain rfl := Option.some.inj H
                            go_wp2_with (first | ((with_reducible refine gate_callee (f := 14) rfl ?_); refine goesL_ (some 63) rfl rfl Try.func14 (by kernel_rfl) rfl #[.string a0, .slice A1 l1.length c1] rfl (by (try simp only [List.map_toArray, List.map_cons, List.map_nil]); first | done | rfl | (simp only [List.length_drop, List.length_take]; rfl)) ?_; (with_reducible refine (impl_Expanded.calls a0 _ _ l1 t166 t167 true _ ?side1 ?side2 A22.out).mono ?_); (case side1 => repeat (first | exact (Kd.C_below HR1.out HB.out) | (with_reducible refine Kd.C_alloc ?_ _) | (with_reducible refine Kd.C_drewN ?_ _) | (with_reducible refine Kd.C_drew ?_))); (case side2 => exact HC1.out); rintro e w30 ⟨v169, rfl, ho0, hb⟩; refine ⟨_, rfl, ?_⟩; have n0_ := Aside0.mk (Kd.R_lower ho0 (below_size (by repeat (first | (with_reducible first | exact HB.out | apply below_alloc | apply pw_below_drewN | apply below_drew1) | exact HB.out)))); have n1_ := Aside0.mk (below_step (by repeat (first | (with_reducible first | exact HB.out | apply below_alloc | apply pw_below_drewN | apply below_drew1) | exact HB.out)) hb); clear HB; have HO170 := n0_; have HB := n1_; clear n0_ n1_; (try clear hb); (try clear hb2); (try clear hk); (try clear hi); (try clear ho0); obtain ⟨Ao31, co31, eo31⟩ := Kd.R_slice HO170.out; subst eo31) | ((with_reducible refine gate_callee (f := 14) rfl ?_); refine goesL_ (some 70) rfl rfl Try.func14 (by kernel_rfl) rfl #[.string t166, .slice Ao31 t167.length co31] rfl (by (try simp only [List.map_toArray, List.map_cons, List.map_nil]); first | done | rfl | (simp only [List.length_drop, List.length_take]; rfl)) ?_; (with_reducible refine (impl_Expanded.calls t166 _ _ t167 t171 t172 true _ ?side1 ?side2 A23.out).mono ?_); (case side1 => repeat (first | exact (Kd.R_reads' HO170.out).2.2 | (with_reducible refine Kd.C_alloc ?_ _) | (with_reducible refine Kd.C_drewN ?_ _) | (with_reducible refine Kd.C_drew ?_))); (case side2 => exact (Kd.R_reads' HO170.out).2.1); rintro e w32 ⟨v174, rfl, ho0, hb⟩; refine ⟨_, rfl, ?_⟩; have n0_ := Aside0.mk (Kd.R_elder' (by (with_reducible repeat (first | apply Kd.R_alloc | apply Kd.R_drewN | apply Kd.R_drew)); exact HO170.out) (Kd.R_base ho0) hb); have n1_ := Aside0.mk (Kd.R_lower (Kd.R_new' ho0 (Kd.R_lt (by (with_reducible repeat (first | apply Kd.R_alloc | apply Kd.R_drewN | apply Kd.R_drew)); exact HO170.out))) (below_size (by repeat (first | (with_reducible first | exact HB.out | apply below_alloc | apply pw_below_drewN | apply below_drew1) | exact HB.out)))); have n2_ := Aside0.mk (below_step (by repeat (first | (with_reducible first | exact HB.out | apply below_alloc | apply pw_below_drewN | apply below_drew1) | exact HB.out)) hb); clear HO170; clear HB; have HO170 := n0_; have HO175 := n1_; have HB := n2_; clear n0_ n1_ n2_; (try clear hb); (try clear hb2); (try clear hk); (try clear hi); (try clear ho0)) | (go_at_call 15; (with_reducible refine (laws_marks9.calls k3 t166 t176 _ A26.out).mono ?_); rintro e w' ⟨rfl, ⟨nd, rfl⟩⟩; obtain ⟨Ao33, co33, eo33⟩ := Kd.R_slice HO175.out; subst eo33) | (go_at_call 11; (with_reducible refine (spec_EqualValues.calls _ _ t167 _ _ t172 t177 _ ?side1 ?side2 ?side3 ?side4 A29.out).mono ?_); (case side1 => repeat (first | exact (Kd.R_reads' HO170.out).2.2 | (with_reducible refine Kd.C_alloc ?_ _) | (with_reducible refine Kd.C_drewN ?_ _) | (with_reducible refine Kd.C_drew ?_))); (case side2 => exact (Kd.R_reads' HO170.out).2.1); (case side3 => repeat (first | exact (Kd.R_reads' HO175.out).2.2 | (with_reducible refine Kd.C_alloc ?_ _) | (with_reducible refine Kd.C_drewN ?_ _) | (with_reducible refine Kd.C_drew ?_))); (case side4 => exact (Kd.R_reads' HO175.out).2.1); rintro e w34 ⟨rfl, hb⟩; have n0_ := Aside0.mk (Kd.R_below (by (with_reducible repeat (first | apply Kd.R_alloc | apply Kd.R_drewN | apply Kd.R_drew)); exact HO170.out) hb); have n1_ := Aside0.mk (Kd.R_below (by (with_reducible repeat (first | apply Kd.R_alloc | apply Kd.R_drewN | apply Kd.R_drew)); exact HO175.out) hb); have n2_ := Aside0.mk (below_step (by repeat (first | (with_reducible first | exact HB.out | apply below_alloc | apply pw_below_drewN | apply below_drew1) | exact HB.out)) hb); clear HO170; clear HO175; clear HB; have HO170 := n0_; have HO175 := n1_; have HB := n2_; clear n0_ n1_ n2_; (try clear hb); (try clear hb2); (try clear hk); (try clear hi)))
                            go_ret
                            exact ⟨by first | rfl | (simp [errW_none, errW_some] <;> rfl) | (simp [*, errW_none, errW_some] <;> rfl), by repeat (first | (with_reducible first | exact HB.out | apply below_alloc | apply pw_below_drewN | apply below_drew1) | exact HB.out)⟩
                          · rw [if_neg c28] at H
                            have c28b0 : (t171.toList == t166.toList) = false := beq_eq_false_iff_ne.mpr c28
                            have c28b1 : (t171.toList != t166.toList) = true := bne_iff_ne.mpr c28
                            obtain rfl := Option.some.inj H
                            go_wp2_with (first | ((with_reducible refine gate_callee (f := 14) rfl ?_); refine goesL_ (some 63) rfl rfl Try.func14 (by kernel_rfl) rfl #[.string a0, .slice A1 l1.length c1] rfl (by (try simp only [List.map_toArray, List.map_cons, List.map_nil]); first | done | rfl | (simp only [List.length_drop, List.length_take]; rfl)) ?_; (with_reducible refine (impl_Expanded.calls a0 _ _ l1 t166 t167 true _ ?side1 ?side2 A22.out).mono ?_); (case side1 => repeat (first | exact (Kd.C_below HR1.out HB.out) | (with_reducible refine Kd.C_alloc ?_ _) | (with_reducible refine Kd.C_drewN ?_ _) | (with_reducible refine Kd.C_drew ?_))); (case side2 => exact HC1.out); rintro e w35 ⟨v169, rfl, ho0, hb⟩; refine ⟨_, rfl, ?_⟩; have n0_ := Aside0.mk (Kd.R_lower ho0 (below_size (by repeat (first | (with_reducible first | exact HB.out | apply below_alloc | apply pw_below_drewN | apply below_drew1) | exact HB.out)))); have n1_ := Aside0.mk (below_step (by repeat (first | (with_reducible first | exact HB.out | apply below_alloc | apply pw_below_drewN | apply below_drew1) | exact HB.out)) hb); clear HB; have HO170 := n0_; have HB := n1_; clear n0_ n1_; (try clear hb); (try clear hb2); (try clear hk); (try clear hi); (try clear ho0); obtain ⟨Ao36, co36, eo36⟩ := Kd.R_slice HO170.out; subst eo36) | ((with_reducible refine gate_callee (f := 14) rfl ?_); refine goesL_ (some 70) rfl rfl Try.func14 (by kernel_rfl) rfl #[.string t166, .slice Ao36 t167.length co36] rfl (by (try simp only [List.map_toArray, List.map_cons, List.map_nil]); first | done | rfl | (simp only [List.length_drop, List.length_take]; rfl)) ?_; (with_reducible refine (impl_Expanded.calls t166 _ _ t167 t171 t172 true _ ?side1 ?side2 A23.out).mono ?_); (case side1 => repeat (first | exact (Kd.R_reads' HO170.out).2.2 | (with_reducible refine Kd.C_alloc ?_ _) | (with_reducible refine Kd.C_drewN ?_ _) | (with_reducible refine Kd.C_drew ?_))); (case side2 => exact (Kd.R_reads' HO170.out).2.1); rintro e w37 ⟨v174, rfl, ho0, hb⟩; refine ⟨_, rfl, ?_⟩; have n0_ := Aside0.mk (Kd.R_elder' (by (with_reducible repeat (first | apply Kd.R_alloc | apply Kd.R_drewN | apply Kd.R_drew)); exact HO170.out) (Kd.R_base ho0) hb); have n1_ := Aside0.mk (Kd.R_lower (Kd.R_new' ho0 (Kd.R_lt (by (with_reducible repeat (first | apply Kd.R_alloc | apply Kd.R_drewN | apply Kd.R_drew)); exact HO170.out))) (below_size (by repeat (first | (with_reducible first | exact HB.out | apply below_alloc | apply pw_below_drewN | apply below_drew1) | exact HB.out)))); have n2_ := Aside0.mk (below_step (by repeat (first | (with_reducible first | exact HB.out | apply below_alloc | apply pw_below_drewN | apply below_drew1) | exact HB.out)) hb); clear HO170; clear HB; have HO170 := n0_; have HO175 := n1_; have HB := n2_; clear n0_ n1_ n2_; (try clear hb); (try clear hb2); (try clear hk); (try clear hi); (try clear ho0)) | (go_at_call 15; (with_reducible refine (laws_marks9.calls k3 t166 t176 _ A26.out).mono ?_); rintro e w' ⟨rfl, ⟨nd, rfl⟩⟩))
                            go_ret
                            exact ⟨by first | rfl | (simp [errW_none, errW_some] <;> rfl) | (simp [*, errW_none, errW_some] <;> rfl), by repeat (first | (with_reducible first | exact HB.out | apply below_alloc | apply pw_below_drewN | apply below_drew1) | exact HB.out)⟩
                        · rw [if_neg c27] at H
                          have c27b0 : (t176 == (t167.length : Int)) = false := beq_eq_false_iff_ne.mpr c27
                          have c27b1 : (t176 != (t167.length : Int)) = true := bne_iff_ne.mpr c27
                          obtain rfl := Option.some.inj H
                          go_wp2_with (first | ((with_reducible refine gate_callee (f := 14) rfl ?_); refine goesL_ (some 63) rfl rfl Try.func14 (by kernel_rfl) rfl #[.string a0, .slice A1 l1.length c1] rfl (by (try simp only [List.map_toArray, List.map_cons, List.map_nil]); first | done | rfl | (simp only [List.length_drop, List.length_take]; rfl)) ?_; (with_reducible refine (impl_Expanded.calls a0 _ _ l1 t166 t167 true _ ?side1 ?side2 A22.out).mono ?_); (case side1 => repeat (first | exact (Kd.C_below HR1.out HB.out) | (with_reducible refine Kd.C_alloc ?_ _) | (with_reducible refine Kd.C_drewN ?_ _) | (with_reducible refine Kd.C_drew ?_))); (case side2 => exact HC1.out); rintro e w38 ⟨v169, rfl, ho0, hb⟩; refine ⟨_, rfl, ?_⟩; have n0_ := Aside0.mk (Kd.R_lower ho0 (below_size (by repeat (first | (with_reducible first | exact HB.out | apply below_alloc | apply pw_below_drewN | apply below_drew1) | exact HB.out)))); have n1_ := Aside0.mk (below_step (by repeat (first | (with_reducible first | exact HB.out | apply below_alloc | apply pw_below_drewN | apply below_drew1) | exact HB.out)) hb); clear HB; have HO170 := n0_; have HB := n1_; clear n0_ n1_; (try clear hb); (try clear hb2); (try clear hk); (try clear hi); (try clear ho0); obtain ⟨Ao39, co39, eo39⟩ := Kd.R_slice HO170.out; subst eo39) | ((with_reducible refine gate_callee (f := 14) rfl ?_); refine goesL_ (some 70) rfl rfl Try.func14 (by kernel_rfl) rfl #[.string t166, .slice Ao39 t167.length co39] rfl (by (try simp only [List.map_toArray, List.map_cons, List.map_nil]); first | done | rfl | (simp only [List.length_drop, List.length_take]; rfl)) ?_; (with_reducible refine (impl_Expanded.calls t166 _ _ t167 t171 t172 true _ ?side1 ?side2 A23.out).mono ?_); (case side1 => repeat (first | exact (Kd.R_reads' HO170.out).2.2 | (with_reducible refine Kd.C_alloc ?_ _) | (with_reducible refine Kd.C_drewN ?_ _) | (with_reducible refine Kd.C_drew ?_))); (case side2 => exact (Kd.R_reads' HO170.out).2.1); rintro e w40 ⟨v174, rfl, ho0, hb⟩; refine ⟨_, rfl, ?_⟩; have n0_ := Aside0.mk (Kd.R_elder' (by (with_reducible repeat (first | apply Kd.R_alloc | apply Kd.R_drewN | apply Kd.R_drew)); exact HO170.out) (Kd.R_base ho0) hb); have n1_ := Aside0.mk (Kd.R_lower (Kd.R_new' ho0 (Kd.R_lt (by (with_reducible repeat (first | apply Kd.R_alloc | apply Kd.R_drewN | apply Kd.R_drew)); exact HO170.out))) (below_size (by repeat (first | (with_reducible first | exact HB.out | apply below_alloc | apply pw_below_drewN | apply below_drew1) | exact HB.out)))); have n2_ := Aside0.mk (below_step (by repeat (first | (with_reducible first | exact HB.out | apply below_alloc | apply pw_below_drewN | apply below_drew1) | exact HB.out)) hb); clear HO170; clear HB; have HO170 := n0_; have HO175 := n1_; have HB := n2_; clear n0_ n1_ n2_; (try clear hb); (try clear hb2); (try clear hk); (try clear hi); (try clear ho0)) | (go_at_call 15; (with_reducible refine (laws_marks9.calls k3 t166 t176 _ A26.out).mono ?_); rintro e w' ⟨rfl, ⟨nd, rfl⟩⟩))
                          go_ret
                          exact ⟨by first | rfl | (simp [errW_none, errW_some] <;> rfl) | (simp [*, errW_none, errW_some] <;> rfl), by repeat (first | (with_reducible first | exact HB.out | apply below_alloc | apply pw_below_drewN | apply below_drew1) | exact HB.out)⟩
                      · replace c25 := Bool.eq_false_iff.mpr c25
                        subst c25
                        have H1 : (some false) = some r := by rw [if_neg (show ¬ (false = true) by decide)] at H; exact H
                        clear H
                        have H := H1
                        clear H1
                        obtain rfl := Option.some.inj H
                        go_wp2_with (first | ((with_reducible refine gate_callee (f := 14) rfl ?_); refine goesL_ (some 63) rfl rfl Try.func14 (by kernel_rfl) rfl #[.string a0, .slice A1 l1.length c1] rfl (by (try simp only [List.map_toArray, List.map_cons, List.map_nil]); first | done | rfl | (simp only [List.length_drop, List.length_take]; rfl)) ?_; (with_reducible refine (impl_Expanded.calls a0 _ _ l1 t166 t167 true _ ?side1 ?side2 A22.out).mono ?_); (case side1 => repeat (first | exact (Kd.C_below HR1.out HB.out) | (with_reducible refine Kd.C_alloc ?_ _) | (with_reducible refine Kd.C_drewN ?_ _) | (with_reducible refine Kd.C_drew ?_))); (case side2 => exact HC1.out); rintro e w41 ⟨v169, rfl, ho0, hb⟩; refine ⟨_, rfl, ?_⟩; have n0_ := Aside0.mk (Kd.R_lower ho0 (below_size (by repeat (first | (with_reducible first | exact HB.out | apply below_alloc | apply pw_below_drewN | apply below_drew1) | exact HB.out)))); have n1_ := Aside0.mk (below_step (by repeat (first | (with_reducible first | exact HB.out | apply below_alloc | apply pw_below_drewN | apply below_drew1) | exact HB.out)) hb); clear HB; have HO170 := n0_; have HB := n1_; clear n0_ n1_; (try clear hb); (try clear hb2); (try clear hk); (try clear hi); (try clear ho0); obtain ⟨Ao42, co42, eo42⟩ := Kd.R_slice HO170.out; subst eo42) | ((with_reducible refine gate_callee (f := 14) rfl ?_); refine goesL_ (some 70) rfl rfl Try.func14 (by kernel_rfl) rfl #[.string t166, .slice Ao42 t167.length co42] rfl (by (try simp only [List.map_toArray, List.map_cons, List.map_nil]); first | done | rfl | (simp only [List.length_drop, List.length_take]; rfl)) ?_; (with_reducible refine (impl_Expanded.calls t166 _ _ t167 t171 t172 false _ ?side1 ?side2 A23.out).mono ?_); (case side1 => repeat (first | exact (Kd.R_reads' HO170.out).2.2 | (with_reducible refine Kd.C_alloc ?_ _) | (with_reducible refine Kd.C_drewN ?_ _) | (with_reducible refine Kd.C_drew ?_))); (case side2 => exact (Kd.R_reads' HO170.out).2.1); rintro e w43 ⟨v174, rfl, ho0, hb⟩; refine ⟨_, rfl, ?_⟩; have n0_ := Aside0.mk (Kd.R_elder' (by (with_reducible repeat (first | apply Kd.R_alloc | apply Kd.R_drewN | apply Kd.R_drew)); exact HO170.out) (Kd.R_base ho0) hb); have n1_ := Aside0.mk (Kd.R_lower (Kd.R_new' ho0 (Kd.R_lt (by (with_reducible repeat (first | apply Kd.R_alloc | apply Kd.R_drewN | apply Kd.R_drew)); exact HO170.out))) (below_size (by repeat (first | (with_reducible first | exact HB.out | apply below_alloc | apply pw_below_drewN | apply below_drew1) | exact HB.out)))); have n2_ := Aside0.mk (below_step (by repeat (first | (with_reducible first | exact HB.out | apply below_alloc | apply pw_below_drewN | apply below_drew1) | exact HB.out)) hb); clear HO170; clear HB; have HO170 := n0_; have HO175 := n1_; have HB := n2_; clear n0_ n1_ n2_; (try clear hb); (try clear hb2); (try clear hk); (try clear hi); (try clear ho0)))
                        go_ret
                        exact ⟨by first | rfl | (simp [errW_none, errW_some] <;> rfl) | (simp [*, errW_none, errW_some] <;> rfl), by repeat (first | (with_reducible first | exact HB.out | apply below_alloc | apply pw_below_drewN | apply below_drew1) | exact HB.out)⟩
                    · replace c24 := Bool.eq_false_iff.mpr c24
                      subst c24
                      have H1 : (some false) = some r := by rw [if_neg (show ¬ (false = true) by decide)] at H; exact H
                      clear H
                      have H := H1
                      clear H1
                      obtain rfl := Option.some.inj H
                      go_wp2_with (first | ((with_reducible refine gate_callee (f := 14) rfl ?_); refine goesL_ (some 63) rfl rfl Try.func14 (by kernel_rfl) rfl #[.string a0, .slice A1 l1.length c1] rfl (by (try simp only [List.map_toArray, List.map_cons, List.map_nil]); first | done | rfl | (simp only [List.length_drop, List.length_take]; rfl)) ?_; (with_reducible refine (impl_Expanded.calls a0 _ _ l1 t166 t167 false _ ?side1 ?side2 A22.out).mono ?_); (case side1 => repeat (first | exact (Kd.C_below HR1.out HB.out) | (with_reducible refine Kd.C_alloc ?_ _) | (with_reducible refine Kd.C_drewN ?_ _) | (with_reducible refine Kd.C_drew ?_))); (case side2 => exact HC1.out); rintro e w44 ⟨v169, rfl, ho0, hb⟩; refine ⟨_, rfl, ?_⟩; have n0_ := Aside0.mk (Kd.R_lower ho0 (below_size (by repeat (first | (with_reducible first | exact HB.out | apply below_alloc | apply pw_below_drewN | apply below_drew1) | exact HB.out)))); have n1_ := Aside0.mk (below_step (by repeat (first | (with_reducible first | exact HB.out | apply below_alloc | apply pw_below_drewN | apply below_drew1) | exact HB.out)) hb); clear HB; have HO170 := n0_; have HB := n1_; clear n0_ n1_; (try clear hb); (try clear hb2); (try clear hk); (try clear hi); (try clear ho0); obtain ⟨Ao45, co45, eo45⟩ := Kd.R_slice HO170.out; subst eo45) | ((with_reducible refine gate_callee (f := 14) rfl ?_); refine goesL_ (some 70) rfl rfl Try.func14 (by kernel_rfl) rfl #[.string t166, .slice Ao45 t167.length co45] rfl (by (try simp only [List.map_toArray, List.map_cons, List.map_nil]); first | done | rfl | (simp only [List.length_drop, List.length_take]; rfl)) ?_; (with_reducible refine (impl_Expanded.calls t166 _ _ t167 t171 t172 t173 _ ?side1 ?side2 A23.out).mono ?_); (case side1 => repeat (first | exact (Kd.R_reads' HO170.out).2.2 | (with_reducible refine Kd.C_alloc ?_ _) | (with_reducible refine Kd.C_drewN ?_ _) | (with_reducible refine Kd.C_drew ?_))); (case side2 => exact (Kd.R_reads' HO170.out).2.1); rintro e w46 ⟨v174, rfl, ho0, hb⟩; refine ⟨_, rfl, ?_⟩; have n0_ := Aside0.mk (Kd.R_elder' (by (with_reducible repeat (first | apply Kd.R_alloc | apply Kd.R_drewN | apply Kd.R_drew)); exact HO170.out) (Kd.R_base ho0) hb); have n1_ := Aside0.mk (Kd.R_lower (Kd.R_new' ho0 (Kd.R_lt (by (with_reducible repeat (first | apply Kd.R_alloc | apply Kd.R_drewN | apply Kd.R_drew)); exact HO170.out))) (below_size (by repeat (first | (with_reducible first | exact HB.out | apply below_alloc | apply pw_below_drewN | apply below_drew1) | exact HB.out)))); have n2_ := Aside0.mk (below_step (by repeat (first | (with_reducible first | exact HB.out | apply below_alloc | apply pw_below_drewN | apply below_drew1) | exact HB.out)) hb); clear HO170; clear HB; have HO170 := n0_; have HO175 := n1_; have HB := n2_; clear n0_ n1_ n2_; (try clear hb); (try clear hb2); (try clear hk); (try clear hi); (try clear ho0)))
                      go_ret
                      exact ⟨by first | rfl | (simp [errW_none, errW_some] <;> rfl) | (simp [*, errW_none, errW_some] <;> rfl), by repeat (first | (with_reducible first | exact HB.out | apply below_alloc | apply pw_below_drewN | apply below_drew1) | exact HB.out)⟩

end Go.Proofs.Ytlclbfhnllknkaa.QE
