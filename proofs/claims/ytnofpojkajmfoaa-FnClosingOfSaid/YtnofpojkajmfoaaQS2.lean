-- WRITTEN BY A PROGRAM OF THIS SESSION (wip/print2.py): the print, with contracts of this session's own let in. Not trusted: Lean checks it.
import Derived.Test.YtnofpojkajmfoaaQS0
import Derived.Test.YtnofpojkajmfoaaQS1
namespace Go.Proofs.Ytnofpojkajmfoaa.QS
open Go.RowKit Go.Proofs.YtnofpojkajmfoaaW.PrintWords Go.Proofs.YtnofpojkajmfoaaW.PrintLast Go.Proofs.YtnofpojkajmfoaaW.PrintMore
attribute [local go_sem] max2_int min2_int max_two min_two max_three min_three max_four min_four   -- for this text's walks alone
set_option linter.unusedVariables false
set_option linter.unusedSimpArgs false

/-! ### laws_FnClosingOf: function 4 -/
mutual
def laws_FnClosingOf.j1 : Nat → ByteArray → Int → Option (Bool)
  | 0, _, _ => none
  | k + 1, x0, x3 => if x3 < (x0.size : Int) then (if 0 ≤ x3 then (laws_FnClosingOf.j2 k x0 x3 ((bt x0 x3) == 41)) else (none)) else (laws_FnClosingOf.j2 k x0 x3 false)
def laws_FnClosingOf.j2 : Nat → ByteArray → Int → Bool → Option (Bool)
  | 0, _, _, _ => none
  | k + 1, x0, x3, x37 => if x37 = true then (some true) else ((impl_ClosingOf.f x0).bind fun t103 => ((spec_Closing.f k x0 x3).bind fun t104 => (if t103 = (mx 0 t104) then ((impl_ClosingOf.f (⟨#[40, 40, 41, 41]⟩ : ByteArray)).bind fun t105 => (some (t105 == 3))) else (some false))))
def laws_FnClosingOf.l0 : Nat → ByteArray → Int → Option (Bool)
  | 0, _, _ => none
  | k + 1, x0, x3 => if x3 < (x0.size : Int) then (if 0 ≤ x3 then (if (bt x0 x3) = 40 then (laws_FnClosingOf.j1 k x0 x3) else (if (bt x0 x3) = 41 then (laws_FnClosingOf.j1 k x0 x3) else (laws_FnClosingOf.l0 k x0 (wrap64 (x3 + 1))))) else (none)) else (laws_FnClosingOf.j1 k x0 x3)
end
def laws_FnClosingOf.f (k : Nat) (a0 : ByteArray) : Option (Bool) := if (a0.size : Int) > 2147483647 then (some true) else (if (a0.size : Int) > 1000 then (some true) else (laws_FnClosingOf.l0 k a0 0))
theorem laws_FnClosingOf.mono_l : ∀ k, (∀ y0 y1, LeO (laws_FnClosingOf.j1 k y0 y1) (laws_FnClosingOf.j1 (k + 1) y0 y1)) ∧ (∀ y0 y1 y2, LeO (laws_FnClosingOf.j2 k y0 y1 y2) (laws_FnClosingOf.j2 (k + 1) y0 y1 y2)) ∧ (∀ y0 y1, LeO (laws_FnClosingOf.l0 k y0 y1) (laws_FnClosingOf.l0 (k + 1) y0 y1))
  | 0 => ⟨fun _ _ r h => by simp [laws_FnClosingOf.j1] at h, fun _ _ _ r h => by simp [laws_FnClosingOf.j2] at h, fun _ _ r h => by simp [laws_FnClosingOf.l0] at h⟩
  | k + 1 => by
    obtain ⟨ih0, ih1, ih2⟩ := laws_FnClosingOf.mono_l k
    refine ⟨?_, ?_, ?_⟩
    · intro y0 y1
      unfold laws_FnClosingOf.j1
      repeat' first
      | (with_reducible exact ih0 _ _)
      | (with_reducible exact ih1 _ _ _)
      | (with_reducible exact ih2 _ _)
      | (with_reducible exact spec_Closing.mono _ _ _)
      | (with_reducible exact LeO.refl _)
      | (with_reducible exact LeO.none _)
      | (with_reducible refine LeO.ite ?_ ?_)
      | (with_reducible refine LeO.bind ?_ (fun _ => ?_))
      | exact ih0 _ _
      | exact ih1 _ _ _
      | exact ih2 _ _
      | exact spec_Closing.mono _ _ _
      | exact LeO.none _
      | refine LeO.ite ?_ ?_
      | refine LeO.bind ?_ (fun _ => ?_)
    · intro y0 y1 y2
      unfold laws_FnClosingOf.j2
      repeat' first
      | (with_reducible exact ih0 _ _)
      | (with_reducible exact ih1 _ _ _)
      | (with_reducible exact ih2 _ _)
      | (with_reducible exact spec_Closing.mono _ _ _)
      | (with_reducible exact LeO.refl _)
      | (with_reducible exact LeO.none _)
      | (with_reducible refine LeO.ite ?_ ?_)
      | (with_reducible refine LeO.bind ?_ (fun _ => ?_))
      | exact ih0 _ _
      | exact ih1 _ _ _
      | exact ih2 _ _
      | exact spec_Closing.mono _ _ _
      | exact LeO.none _
      | refine LeO.ite ?_ ?_
      | refine LeO.bind ?_ (fun _ => ?_)
    · intro y0 y1
      unfold laws_FnClosingOf.l0
      repeat' first
      | (with_reducible exact ih0 _ _)
      | (with_reducible exact ih1 _ _ _)
      | (with_reducible exact ih2 _ _)
      | (with_reducible exact spec_Closing.mono _ _ _)
      | (with_reducible exact LeO.refl _)
      | (with_reducible exact LeO.none _)
      | (with_reducible refine LeO.ite ?_ ?_)
      | (with_reducible refine LeO.bind ?_ (fun _ => ?_))
      | exact ih0 _ _
      | exact ih1 _ _ _
      | exact ih2 _ _
      | exact spec_Closing.mono _ _ _
      | exact LeO.none _
      | refine LeO.ite ?_ ?_
      | refine LeO.bind ?_ (fun _ => ?_)
theorem laws_FnClosingOf.mono : ∀ a0 k, LeO (laws_FnClosingOf.f k a0) (laws_FnClosingOf.f (k + 1) a0) := by
  intro a0 k
  obtain ⟨ih0, ih1, ih2⟩ := laws_FnClosingOf.mono_l k
  unfold laws_FnClosingOf.f
  repeat' first
      | (with_reducible exact ih0 _ _)
      | (with_reducible exact ih1 _ _ _)
      | (with_reducible exact ih2 _ _)
      | (with_reducible exact spec_Closing.mono _ _ _)
      | (with_reducible exact LeO.refl _)
      | (with_reducible exact LeO.none _)
      | (with_reducible refine LeO.ite ?_ ?_)
      | (with_reducible refine LeO.bind ?_ (fun _ => ?_))
      | exact ih0 _ _
      | exact ih1 _ _ _
      | exact ih2 _ _
      | exact spec_Closing.mono _ _ _
      | exact LeO.none _
      | refine LeO.ite ?_ ?_
      | refine LeO.bind ?_ (fun _ => ?_)
set_option maxHeartbeats 8000000 in
set_option maxRecDepth 100000 in
theorem laws_FnClosingOf.calls (k : Nat) (a0 : ByteArray) (r : Bool) (w : World) (h : laws_FnClosingOf.f k a0 = some r) :
    Calls Try.prog 4 #[.string a0] w fun e w' => e = .returned (.bool r) ∧ Below w.heap.size w w' := by
  have HB := Aside0.mk (Below.refl w.heap.size w)
  have H : (if (a0.size : Int) > 2147483647 then (some true) else (if (a0.size : Int) > 1000 then (some true) else (laws_FnClosingOf.l0 k a0 0))) = some r := h
  clear h
  by_cases c2 : (a0.size : Int) > 2147483647
  · rw [if_pos c2] at H
    have c2b0 : decide (2147483647 < (a0.size : Int)) = true := decide_eq_true c2
    have c2b1 : decide (2147483647 < a0.size) = true := decide_eq_true (by omega)
    clear c2
    obtain rfl := Option.some.inj H
    go_enter Try.func4, Try.ntmps4
    go_wp2
    go_ret
    exact ⟨by first | rfl | (simp [errW_none, errW_some] <;> rfl) | (simp [*, errW_none, errW_some] <;> rfl), by repeat (first | (with_reducible first | exact HB.out | apply below_alloc | apply pw_below_drewN | apply below_drew1) | exact HB.out)⟩
  · rw [if_neg c2] at H
    have c2b0 : decide (2147483647 < (a0.size : Int)) = false := decide_eq_false c2
    have c2b1 : decide (2147483647 < a0.size) = false := decide_eq_false (by omega)
    clear c2
    by_cases c3 : (a0.size : Int) > 1000
    · rw [if_pos c3] at H
      have c3b0 : decide (1000 < (a0.size : Int)) = true := decide_eq_true c3
      have c3b1 : decide (1000 < a0.size) = true := decide_eq_true (by omega)
      clear c3
      obtain rfl := Option.some.inj H
      go_enter Try.func4, Try.ntmps4
      go_wp2
      go_ret
      exact ⟨by first | rfl | (simp [errW_none, errW_some] <;> rfl) | (simp [*, errW_none, errW_some] <;> rfl), by repeat (first | (with_reducible first | exact HB.out | apply below_alloc | apply pw_below_drewN | apply below_drew1) | exact HB.out)⟩
    · rw [if_neg c3] at H
      have c3b0 : decide (1000 < (a0.size : Int)) = false := decide_eq_false c3
      have c3b1 : decide (1000 < a0.size) = false := decide_eq_false (by omega)
      clear c3
      have HC4 := Aside0.mk H
      clear H
      go_enter Try.func4, Try.ntmps4
      go_upto_block 0 with (fail)
      go_cut [3] (fun v3 wc => ∃ (kq : Nat) (x3_3 : Int), v3 = .int .i64 x3_3 ∧ Aside0 (laws_FnClosingOf.j1 kq a0 x3_3 = some r) ∧ Aside0 (kq ≤ k) ∧ Aside0 (Below w.heap.size w wc))
      case first =>
        have H := HC4.out
        clear HC4
        have H' := Aside0.mk H
        clear H
        go_wp2
        go_loopg [3] k (fun kq v3 w' => ∃ (x3_1 : Int), v3 = .int .i64 x3_1 ∧ Aside0 (laws_FnClosingOf.l0 kq a0 x3_1 = some r) ∧ Aside0 (kq ≤ k) ∧ Aside0 (Below w.heap.size w w'))
        case atStart => exact ⟨(0), (by first | rfl | (simp; done) | (simp [*]; done)), H', ⟨Nat.le_refl _⟩, ⟨by repeat (first | (with_reducible first | exact HB.out | apply below_alloc | apply pw_below_drewN | apply below_drew1) | exact HB.out)⟩⟩
        case round =>
          clear H'
          try clear c2
          try clear c2b0
          try clear c2b1
          try clear p2
          try clear c3
          try clear c3b0
          try clear c3b1
          try clear c4
          obtain ⟨x3_1, rfl, HA, HK1, HB⟩ := hrel
          cases gk with
          | zero => exact absurd HA.out (by simp [laws_FnClosingOf.l0])
          | succ k1 =>
            have H := HA.out
            clear HA
            simp only [laws_FnClosingOf.l0] at H
            by_cases c5 : x3_1 < (a0.size : Int)
            · rw [if_pos c5] at H
              have c5b0 : decide (x3_1 < (a0.size : Int)) = true := decide_eq_true c5
              clear c5
              (first | rw [c5b0] | (simp only [i64_w, i32_w]; rw [c5b0]) | skip)
              by_cases c6 : 0 ≤ x3_1
              · rw [if_pos c6] at H
                have c6b0 : decide (0 ≤ x3_1) = true := decide_eq_true c6
                clear c6
                by_cases c8 : (bt a0 x3_1) = 40
                · rw [if_pos c8] at H
                  have c8b0 : ((bt a0 x3_1) == 40) = true := beq_iff_eq.mpr c8
                  have c8b1 : ((bt a0 x3_1) != 40) = false := bne_eq_false_iff_eq.mpr c8
                  clear c8
                  have H' := Aside0.mk H
                  clear H
                  have p7 : 0 ≤ (x3_1 : Int) := of_decide_eq_true (by first | (with_reducible assumption) | assumption)
                  have q7 : x3_1 < (a0.size : Int) := of_decide_eq_true (by first | (with_reducible assumption) | assumption)
                  have hx7 := bt_at a0 x3_1
                  replace p7 := eq_true p7
                  replace q7 := eq_true q7
                  go_wp2
                  go_meet
                  case rel => exact ⟨_, (x3_1), (by first | rfl | (simp; done) | (simp [*]; done)), H', ⟨by have := HK1.out; first | omega | exact Nat.le_refl _⟩, ⟨by repeat (first | (with_reducible first | exact HB.out | apply below_alloc | apply pw_below_drewN | apply below_drew1) | exact HB.out)⟩⟩
                · rw [if_neg c8] at H
                  have c8b0 : ((bt a0 x3_1) == 40) = false := beq_eq_false_iff_ne.mpr c8
                  have c8b1 : ((bt a0 x3_1) != 40) = true := bne_iff_ne.mpr c8
                  by_cases c10 : (bt a0 x3_1) = 41
                  · rw [if_pos c10] at H
                    have c10b0 : ((bt a0 x3_1) == 41) = true := beq_iff_eq.mpr c10
                    have c10b1 : ((bt a0 x3_1) != 41) = false := bne_eq_false_iff_eq.mpr c10
                    clear c10
                    have H' := Aside0.mk H
                    clear H
                    have p7 : 0 ≤ (x3_1 : Int) := of_decide_eq_true (by first | (with_reducible assumption) | assumption)
                    have q7 : x3_1 < (a0.size : Int) := of_decide_eq_true (by first | (with_reducible assumption) | assumption)
                    have hx7 := bt_at a0 x3_1
                    replace p7 := eq_true p7
                    replace q7 := eq_true q7
                    have p9 : 0 ≤ (x3_1 : Int) := of_decide_eq_true (by first | (with_reducible assumption) | assumption)
                    have q9 : x3_1 < (a0.size : Int) := of_decide_eq_true (by first | (with_reducible assumption) | assumption)
                    have hx9 := bt_at a0 x3_1
                    replace p9 := eq_true p9
                    replace q9 := eq_true q9
                    go_wp2
                    go_meet
                    case rel => exact ⟨_, (x3_1), (by first | rfl | (simp; done) | (simp [*]; done)), H', ⟨by have := HK1.out; first | omega | exact Nat.le_refl _⟩, ⟨by repeat (first | (with_reducible first | exact HB.out | apply below_alloc | apply pw_below_drewN | apply below_drew1) | exact HB.out)⟩⟩
                  · rw [if_neg c10] at H
                    have c10b0 : ((bt a0 x3_1) == 41) = false := beq_eq_false_iff_ne.mpr c10
                    have c10b1 : ((bt a0 x3_1) != 41) = true := bne_iff_ne.mpr c10
                    have H' := Aside0.mk H
                    clear H
                    have p7 : 0 ≤ (x3_1 : Int) := of_decide_eq_true (by first | (with_reducible assumption) | assumption)
                    have q7 : x3_1 < (a0.size : Int) := of_decide_eq_true (by first | (with_reducible assumption) | assumption)
                    have hx7 := bt_at a0 x3_1
                    replace p7 := eq_true p7
                    replace q7 := eq_true q7
                    have p9 : 0 ≤ (x3_1 : Int) := of_decide_eq_true (by first | (with_reducible assumption) | assumption)
                    have q9 : x3_1 < (a0.size : Int) := of_decide_eq_true (by first | (with_reducible assumption) | assumption)
                    have hx9 := bt_at a0 x3_1
                    replace p9 := eq_true p9
                    replace q9 := eq_true q9
                    go_wp2
                    go_roundg k1
                    case measure => have := HK1.out; omega
                    case rel => exact ⟨(wrap64 (x3_1 + 1)), (by first | rfl | (simp; done) | (simp [*]; done)), H', ⟨by have := HK1.out; omega⟩, ⟨by repeat (first | (with_reducible first | exact HB.out | apply below_alloc | apply pw_below_drewN | apply below_drew1) | exact HB.out)⟩⟩
              · rw [if_neg c6] at H
                exact absurd H (by simp)
            · rw [if_neg c5] at H
              have c5b0 : decide (x3_1 < (a0.size : Int)) = false := decide_eq_false c5
              clear c5
              (first | rw [c5b0] | (simp only [i64_w, i32_w]; rw [c5b0]) | skip)
              have H' := Aside0.mk H
              clear H
              go_wp2
              go_meet
              case rel => exact ⟨_, (x3_1), (by first | rfl | (simp; done) | (simp [*]; done)), H', ⟨by have := HK1.out; first | omega | exact Nat.le_refl _⟩, ⟨by repeat (first | (with_reducible first | exact HB.out | apply below_alloc | apply pw_below_drewN | apply below_drew1) | exact HB.out)⟩⟩
      case rest =>
        clear HC4
        try clear c1
        try clear c2
        try clear c2b0
        try clear c2b1
        try clear p2
        try clear c3
        try clear c3b0
        try clear c3b1
        try clear c4
        try clear c5
        try clear c5b0
        try clear c6
        try clear c6b0
        try clear p6
        try clear p7
        try clear q7
        try clear hx7
        try clear c8
        try clear c8b0
        try clear c8b1
        try clear p9
        try clear q9
        try clear hx9
        try clear c10
        try clear c10b0
        try clear c10b1
        try clear p2
        try clear p7
        try clear p9
        try clear q7
        try clear q9
        obtain ⟨kq, x3_3, rfl, HA, HJ3, HB⟩ := hcut
        cases kq with
        | zero => exact absurd HA.out (by simp [laws_FnClosingOf.j1])
        | succ kj3 =>
          have H := HA.out
          clear HA
          simp only [laws_FnClosingOf.j1] at H
          have HC11 := Aside0.mk H
          clear H
          go_upto_region 8 with (fail)
          go_cut [37] (fun v37 wc => ∃ (kq : Nat) (x37_10 : Bool), v37 = .bool x37_10 ∧ Aside0 (laws_FnClosingOf.j2 kq a0 x3_3 x37_10 = some r) ∧ Aside0 (kq ≤ kj3) ∧ Aside0 (Below w.heap.size w wc))
          case first =>
            have H := HC11.out
            clear HC11
            by_cases c12 : x3_3 < (a0.size : Int)
            · rw [if_pos c12] at H
              have c12b0 : decide (x3_3 < (a0.size : Int)) = true := decide_eq_true c12
              clear c12
              (first | rw [c12b0] | (simp only [i64_w, i32_w]; rw [c12b0]) | skip)
              by_cases c13 : 0 ≤ x3_3
              · rw [if_pos c13] at H
                have c13b0 : decide (0 ≤ x3_3) = true := decide_eq_true c13
                clear c13
                have H' := Aside0.mk H
                clear H
                have p14 : 0 ≤ (x3_3 : Int) := of_decide_eq_true (by first | (with_reducible assumption) | assumption)
                have q14 : x3_3 < (a0.size : Int) := of_decide_eq_true (by first | (with_reducible assumption) | assumption)
                have hx14 := bt_at a0 x3_3
                replace p14 := eq_true p14
                replace q14 := eq_true q14
                go_wp2
                go_meet
                case rel => exact ⟨_, (((bt a0 x3_3) == 41)), (by first | rfl | (simp; done) | (simp [*]; done)), H', ⟨by have := HJ3.out; first | omega | exact Nat.le_refl _⟩, ⟨by repeat (first | (with_reducible first | exact HB.out | apply below_alloc | apply pw_below_drewN | apply below_drew1) | exact HB.out)⟩⟩
              · rw [if_neg c13] at H
                exact absurd H (by simp)
            · rw [if_neg c12] at H
              have c12b0 : decide (x3_3 < (a0.size : Int)) = false := decide_eq_false c12
              clear c12
              (first | rw [c12b0] | (simp only [i64_w, i32_w]; rw [c12b0]) | skip)
              have H' := Aside0.mk H
              clear H
              go_wp2
              go_meet
              case rel => exact ⟨_, (false), (by first | rfl | (simp; done) | (simp [*]; done)), H', ⟨by have := HJ3.out; first | omega | exact Nat.le_refl _⟩, ⟨by repeat (first | (with_reducible first | exact HB.out | apply below_alloc | apply pw_below_drewN | apply below_drew1) | exact HB.out)⟩⟩
          case rest =>
            clear HC11
            try clear c1
            try clear p1
            try clear q1
            try clear hx1
            try clear c2
            try clear c2b0
            try clear c2b1
            try clear p2
            try clear c3
            try clear c3b0
            try clear c3b1
            try clear c4
            try clear c5
            try clear c5b0
            try clear c6
            try clear c6b0
            try clear p6
            try clear p7
            try clear q7
            try clear hx7
            try clear c8
            try clear c8b0
            try clear c8b1
            try clear p9
            try clear q9
            try clear hx9
            try clear c10
            try clear c10b0
            try clear c10b1
            try clear c12
            try clear c12b0
            try clear c13
            try clear c13b0
            try clear p14
            try clear q14
            try clear hx14
            try clear p14
            try clear p2
            try clear p6
            try clear p7
            try clear p9
            try clear q14
            try clear q7
            try clear q9
            obtain ⟨kq, x37_10, rfl, HA, HJ10, HB⟩ := hcut
            cases kq with
            | zero => exact absurd HA.out (by simp [laws_FnClosingOf.j2])
            | succ kj10 =>
              have H := HA.out
              clear HA
              simp only [laws_FnClosingOf.j2] at H
              by_cases c15 : x37_10 = true
              · subst c15
                have H1 : (some true) = some r := by rw [if_pos rfl] at H; exact H
                clear H
                have H := H1
                clear H1
                obtain rfl := Option.some.inj H
                go_wp2
                go_ret
                exact ⟨by first | rfl | (simp [errW_none, errW_some] <;> rfl) | (simp [*, errW_none, errW_some] <;> rfl), by repeat (first | (with_reducible first | exact HB.out | apply below_alloc | apply pw_below_drewN | apply below_drew1) | exact HB.out)⟩
              · replace c15 := Bool.eq_false_iff.mpr c15
                subst c15
                have H1 : ((impl_ClosingOf.f a0).bind fun t103 => ((spec_Closing.f kj10 a0 x3_3).bind fun t104 => (if t103 = (mx 0 t104) then ((impl_ClosingOf.f (⟨#[40, 40, 41, 41]⟩ : ByteArray)).bind fun t105 => (some (t105 == 3))) else (some false)))) = some r := by rw [if_neg (show ¬ (false = true) by decide)] at H; exact H
                clear H
                have H := H1
                clear H1
                replace H := Option.bind_eq_some_iff.mp H
                obtain ⟨t103, A160, H⟩ := H
                replace H : ((spec_Closing.f kj10 a0 x3_3).bind fun t104 => (if t103 = (mx 0 t104) then ((impl_ClosingOf.f (⟨#[40, 40, 41, 41]⟩ : ByteArray)).bind fun t105 => (some (t105 == 3))) else (some false))) = some r := H
                have A16 := Aside0.mk A160
                clear A160
                replace H := Option.bind_eq_some_iff.mp H
                obtain ⟨t104, A170, H⟩ := H
                replace H : (if t103 = (mx 0 t104) then ((impl_ClosingOf.f (⟨#[40, 40, 41, 41]⟩ : ByteArray)).bind fun t105 => (some (t105 == 3))) else (some false)) = some r := H
                have A17 := Aside0.mk A170
                clear A170
                obtain ⟨ji18, hji18⟩ : ∃ j_ : Int, (mx 0 t104) = j_ := ⟨_, rfl⟩
                replace H : (if t103 = (ji18) then ((impl_ClosingOf.f (⟨#[40, 40, 41, 41]⟩ : ByteArray)).bind fun t105 => (some (t105 == 3))) else (some false)) = some r := by first | (rw [hji18] at H; exact H) | (simp only [hji18] at H ⊢; exact H)
                (try rw [hji18] at A16)
                (try rw [hji18] at A17)
                (try (have hji18l : 0 ≤ ji18 := by (rw [← hji18]; unfold mx; (repeat' split) <;> omega)))
                (try (have hji18m : 0 ≤ ji18 := by omega))
                have hji18_ : (if 0 < t104 then t104 else 0) = ji18 := hji18
                by_cases c19 : t103 = (ji18)
                · rw [if_pos c19] at H
                  have c19b0 : (t103 == (ji18)) = true := beq_iff_eq.mpr c19
                  have c19b1 : (t103 != (ji18)) = false := bne_eq_false_iff_eq.mpr c19
                  clear c19
                  replace H := Option.bind_eq_some_iff.mp H
                  obtain ⟨t105, A200, H⟩ := H
                  replace H : (some (t105 == 3)) = some r := H
                  have A20 := Aside0.mk A200
                  clear A200
                  obtain rfl := Option.some.inj H
                  go_wp2_with (first | ((with_reducible refine gate_callee (f := 13) rfl ?_); refine goesL_ (some 39) rfl rfl Try.func13 (by kernel_rfl) rfl #[.string a0] rfl (by (try simp only [List.map_toArray, List.map_cons, List.map_nil]); first | done | rfl | (simp only [List.length_drop, List.length_take]; rfl)) ?_; (with_reducible refine (impl_ClosingOf.calls a0 t103 _ A16.out).mono ?_); rintro e w21 ⟨rfl, hb⟩; refine ⟨_, rfl, ?_⟩; have n0_ := Aside0.mk (below_step (by repeat (first | (with_reducible first | exact HB.out | apply below_alloc | apply pw_below_drewN | apply below_drew1) | exact HB.out)) hb); clear HB; have HB := n0_; clear n0_; (try clear hb); (try clear hb2); (try clear hk); (try clear hi)) | ((with_reducible refine gate_callee (f := 14) rfl ?_); refine goesL_ (some 42) rfl rfl Try.func14 (by kernel_rfl) rfl #[.string a0, .int .i64 x3_3] rfl (by (try simp only [List.map_toArray, List.map_cons, List.map_nil]); first | done | rfl | (simp only [List.length_drop, List.length_take]; rfl)) ?_; (with_reducible refine (spec_Closing.calls kj10 a0 x3_3 t104 _ A17.out).mono ?_); rintro e w' ⟨rfl, ⟨nd, rfl⟩⟩; refine ⟨_, rfl, ?_⟩) | (go_at_call 13; (with_reducible refine (impl_ClosingOf.calls (⟨#[40, 40, 41, 41]⟩ : ByteArray) t105 _ A20.out).mono ?_); rintro e w22 ⟨rfl, hb⟩; have n0_ := Aside0.mk (below_step (by repeat (first | (with_reducible first | exact HB.out | apply below_alloc | apply pw_below_drewN | apply below_drew1) | exact HB.out)) hb); clear HB; have HB := n0_; clear n0_; (try clear hb); (try clear hb2); (try clear hk); (try clear hi)))
                  go_ret
                  exact ⟨by first | rfl | (simp [errW_none, errW_some] <;> rfl) | (simp only [← hji18]; first | rfl | (simp [errW_none, errW_some] <;> rfl)) | (simp [*, errW_none, errW_some] <;> rfl), by repeat (first | (with_reducible first | exact HB.out | apply below_alloc | apply pw_below_drewN | apply below_drew1) | exact HB.out)⟩
                · rw [if_neg c19] at H
                  have c19b0 : (t103 == (ji18)) = false := beq_eq_false_iff_ne.mpr c19
                  have c19b1 : (t103 != (ji18)) = true := bne_iff_ne.mpr c19
                  obtain rfl := Option.some.inj H
                  go_wp2_with (first | ((with_reducible refine gate_callee (f := 13) rfl ?_); refine goesL_ (some 39) rfl rfl Try.func13 (by kernel_rfl) rfl #[.string a0] rfl (by (try simp only [List.map_toArray, List.map_cons, List.map_nil]); first | done | rfl | (simp only [List.length_drop, List.length_take]; rfl)) ?_; (with_reducible refine (impl_ClosingOf.calls a0 t103 _ A16.out).mono ?_); rintro e w23 ⟨rfl, hb⟩; refine ⟨_, rfl, ?_⟩; have n0_ := Aside0.mk (below_step (by repeat (first | (with_reducible first | exact HB.out | apply below_alloc | apply pw_below_drewN | apply below_drew1) | exact HB.out)) hb); clear HB; have HB := n0_; clear n0_; (try clear hb); (try clear hb2); (try clear hk); (try clear hi)) | ((with_reducible refine gate_callee (f := 14) rfl ?_); refine goesL_ (some 42) rfl rfl Try.func14 (by kernel_rfl) rfl #[.string a0, .int .i64 x3_3] rfl (by (try simp only [List.map_toArray, List.map_cons, List.map_nil]); first | done | rfl | (simp only [List.length_drop, List.length_take]; rfl)) ?_; (with_reducible refine (spec_Closing.calls kj10 a0 x3_3 t104 _ A17.out).mono ?_); rintro e w' ⟨rfl, ⟨nd, rfl⟩⟩; refine ⟨_, rfl, ?_⟩))
                  go_ret
                  exact ⟨by first | rfl | (simp [errW_none, errW_some] <;> rfl) | (simp only [← hji18]; first | rfl | (simp [errW_none, errW_some] <;> rfl)) | (simp [*, errW_none, errW_some] <;> rfl), by repeat (first | (with_reducible first | exact HB.out | apply below_alloc | apply pw_below_drewN | apply below_drew1) | exact HB.out)⟩

/-- THE ONE PURE STATEMENT of laws_FnClosingOf: yours. -/
def laws_FnClosingOf.Pure : Prop := ∀ (a0 : ByteArray), a0.size ≤ 140737488351232 → ∃ k, laws_FnClosingOf.f k a0 = some true
theorem laws_FnClosingOf.walk (P : laws_FnClosingOf.Pure) (a0 : ByteArray) (w : World) (w0 : a0.size ≤ 140737488351232) :
    Calls Try.prog 4 #[.string a0] w fun e w' => e = .returned (.bool true) ∧ Below w.heap.size w w' := by
  obtain ⟨k, h⟩ := P a0 w0
  refine (laws_FnClosingOf.calls k a0 true w h).mono ?_
  rintro e w' ⟨rfl, hd⟩
  exact ⟨rfl, hd⟩

end Go.Proofs.Ytnofpojkajmfoaa.QS
