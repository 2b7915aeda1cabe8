-- WRITTEN BY A PROGRAM OF THIS SESSION (wip/print2.py): the print, with contracts of this session's own let in. Not trusted: Lean checks it.
import Derived.Test.YtnmhoghmhglimaaDoorQB0
namespace Go.Proofs.YtnmhoghmhglimaaDoor.QB
open Go.RowKit Go.Proofs.YtnmhoghmhglimaaDoorW.PrintWords Go.Proofs.YtnmhoghmhglimaaDoorW.PrintLast Go.Proofs.YtnmhoghmhglimaaDoorW.PrintMore
attribute [local go_sem] max2_int min2_int max_two min_two max_three min_three max_four min_four   -- for this text's walks alone
set_option linter.unusedVariables false
set_option linter.unusedSimpArgs false

/-! ### spec_isSpace: function 63 -/
def spec_isSpace.f (a0 : Int) : Option (Bool) := if a0 = 32 then (some true) else (if a0 = 9 then (some true) else (if a0 = 10 then (some true) else (if a0 = 13 then (some true) else (some (a0 == 12)))))
set_option maxHeartbeats 8000000 in
set_option maxRecDepth 100000 in
theorem spec_isSpace.calls (a0 : Int) (r : Bool) (w : World) (h : spec_isSpace.f a0 = some r) :
    Calls Tryd.prog 63 #[.int .u8 a0] w fun e w' => e = .returned (.bool r) ∧ Drawn0 w w' := by
  have H : (if a0 = 32 then (some true) else (if a0 = 9 then (some true) else (if a0 = 10 then (some true) else (if a0 = 13 then (some true) else (some (a0 == 12)))))) = some r := h
  clear h
  by_cases c2 : a0 = 32
  · rw [if_pos c2] at H
    have c2b0 : (a0 == 32) = true := beq_iff_eq.mpr c2
    have c2b1 : (a0 != 32) = false := bne_eq_false_iff_eq.mpr c2
    clear c2
    obtain rfl := Option.some.inj H
    go_enter Tryd.func63, Tryd.ntmps63
    go_wp2
    go_ret
    exact ⟨by first | rfl | (simp; done) | (simp [*]; done), by repeat (first | exact Drawn0.refl _ | apply Drawn0.step)⟩
  · rw [if_neg c2] at H
    have c2b0 : (a0 == 32) = false := beq_eq_false_iff_ne.mpr c2
    have c2b1 : (a0 != 32) = true := bne_iff_ne.mpr c2
    by_cases c3 : a0 = 9
    · rw [if_pos c3] at H
      have c3b0 : (a0 == 9) = true := beq_iff_eq.mpr c3
      have c3b1 : (a0 != 9) = false := bne_eq_false_iff_eq.mpr c3
      clear c3
      obtain rfl := Option.some.inj H
      go_enter Tryd.func63, Tryd.ntmps63
      go_wp2
      go_ret
      exact ⟨by first | rfl | (simp; done) | (simp [*]; done), by repeat (first | exact Drawn0.refl _ | apply Drawn0.step)⟩
    · rw [if_neg c3] at H
      have c3b0 : (a0 == 9) = false := beq_eq_false_iff_ne.mpr c3
      have c3b1 : (a0 != 9) = true := bne_iff_ne.mpr c3
      by_cases c4 : a0 = 10
      · rw [if_pos c4] at H
        have c4b0 : (a0 == 10) = true := beq_iff_eq.mpr c4
        have c4b1 : (a0 != 10) = false := bne_eq_false_iff_eq.mpr c4
        clear c4
        obtain rfl := Option.some.inj H
        go_enter Tryd.func63, Tryd.ntmps63
        go_wp2
        go_ret
        exact ⟨by first | rfl | (simp; done) | (simp [*]; done), by repeat (first | exact Drawn0.refl _ | apply Drawn0.step)⟩
      · rw [if_neg c4] at H
        have c4b0 : (a0 == 10) = false := beq_eq_false_iff_ne.mpr c4
        have c4b1 : (a0 != 10) = true := bne_iff_ne.mpr c4
        by_cases c5 : a0 = 13
        · rw [if_pos c5] at H
          have c5b0 : (a0 == 13) = true := beq_iff_eq.mpr c5
          have c5b1 : (a0 != 13) = false := bne_eq_false_iff_eq.mpr c5
          clear c5
          obtain rfl := Option.some.inj H
          go_enter Tryd.func63, Tryd.ntmps63
          go_wp2
          go_ret
          exact ⟨by first | rfl | (simp; done) | (simp [*]; done), by repeat (first | exact Drawn0.refl _ | apply Drawn0.step)⟩
        · rw [if_neg c5] at H
          have c5b0 : (a0 == 13) = false := beq_eq_false_iff_ne.mpr c5
          have c5b1 : (a0 != 13) = true := bne_iff_ne.mpr c5
          obtain rfl := Option.some.inj H
          go_enter Tryd.func63, Tryd.ntmps63
          go_wp2
          go_ret
          exact ⟨by first | rfl | (simp; done) | (simp [*]; done), by repeat (first | exact Drawn0.refl _ | apply Drawn0.step)⟩

/-! ### spec_spaces: function 47 -/
def spec_spaces.l0 : Nat → ByteArray → Int → Option (Int)
  | 0, _, _ => none
  | k + 1, x0, x1 => if x1 < (x0.size : Int) then (if 0 ≤ x1 then ((spec_isSpace.f (bt x0 x1)).bind fun t101 => (if t101 = true then (spec_spaces.l0 k x0 (wrap64 (x1 + 1))) else (some x1))) else (none)) else (some x1)
def spec_spaces.f (k : Nat) (a0 : ByteArray) (a1 : Int) : Option (Int) := spec_spaces.l0 k a0 a1
theorem spec_spaces.mono_l : ∀ k, (∀ y0 y1, LeO (spec_spaces.l0 k y0 y1) (spec_spaces.l0 (k + 1) y0 y1))
  | 0 => fun _ _ r h => by simp [spec_spaces.l0] at h
  | k + 1 => by
    have ih0 := spec_spaces.mono_l k
    · intro y0 y1
      unfold spec_spaces.l0
      repeat' first
      | (with_reducible exact ih0 _ _)
      | (with_reducible exact LeO.refl _)
      | (with_reducible exact LeO.none _)
      | (with_reducible refine LeO.ite ?_ ?_)
      | (with_reducible refine LeO.bind ?_ (fun _ => ?_))
      | exact ih0 _ _
      | exact LeO.none _
      | refine LeO.ite ?_ ?_
      | refine LeO.bind ?_ (fun _ => ?_)
theorem spec_spaces.mono : ∀ a0 a1 k, LeO (spec_spaces.f k a0 a1) (spec_spaces.f (k + 1) a0 a1) := by
  intro a0 a1 k
  have ih0 := spec_spaces.mono_l k
  unfold spec_spaces.f
  repeat' first
      | (with_reducible exact ih0 _ _)
      | (with_reducible exact LeO.refl _)
      | (with_reducible exact LeO.none _)
      | (with_reducible refine LeO.ite ?_ ?_)
      | (with_reducible refine LeO.bind ?_ (fun _ => ?_))
      | exact ih0 _ _
      | exact LeO.none _
      | refine LeO.ite ?_ ?_
      | refine LeO.bind ?_ (fun _ => ?_)
set_option maxHeartbeats 8000000 in
set_option maxRecDepth 100000 in
theorem spec_spaces.calls (k : Nat) (a0 : ByteArray) (a1 : Int) (r : Int) (w : World) (h : spec_spaces.f k a0 a1 = some r) :
    Calls Tryd.prog 47 #[.string a0, .int .i64 a1] w fun e w' => e = .returned (.int .i64 r) ∧ Drawn0 w w' := by
  have H : (spec_spaces.l0 k a0 a1) = some r := h
  clear h
  have H' := Aside0.mk H
  clear H
  go_enter Tryd.func47, Tryd.ntmps47
  go_wp2
  go_loopg [1] k (fun kq v1 w' => ∃ (x1_1 : Int), v1 = .int .i64 x1_1 ∧ Aside0 (spec_spaces.l0 kq a0 x1_1 = some r) ∧ Aside0 (kq ≤ k) ∧ Drawn0 w w')
  case atStart => exact ⟨(a1), (by first | rfl | (simp; done) | (simp [*]; done)), H', ⟨Nat.le_refl _⟩, by repeat (first | exact Drawn0.refl _ | apply Drawn0.step)⟩
  case round =>
    clear H'
    try clear p2
    obtain ⟨x1_1, rfl, HA, HK1, ⟨m1, rfl⟩⟩ := hrel
    cases gk with
    | zero => exact absurd HA.out (by simp [spec_spaces.l0])
    | succ k1 =>
      have H := HA.out
      clear HA
      simp only [spec_spaces.l0] at H
      by_cases c3 : x1_1 < (a0.size : Int)
      · rw [if_pos c3] at H
        have c3b0 : decide (x1_1 < (a0.size : Int)) = true := decide_eq_true c3
        clear c3
        by_cases c4 : 0 ≤ x1_1
        · rw [if_pos c4] at H
          have c4b0 : decide (0 ≤ x1_1) = true := decide_eq_true c4
          clear c4
          replace H := Option.bind_eq_some_iff.mp H
          obtain ⟨t101, A60, H⟩ := H
          replace H : (if t101 = true then (spec_spaces.l0 k1 a0 (wrap64 (x1_1 + 1))) else (some x1_1)) = some r := H
          have A6 := Aside0.mk A60
          clear A60
          by_cases c7 : t101 = true
          · subst c7
            have H1 : (spec_spaces.l0 k1 a0 (wrap64 (x1_1 + 1))) = some r := by rw [if_pos rfl] at H; exact H
            clear H
            have H := H1
            clear H1
            have H' := Aside0.mk H
            clear H
            have p5 : 0 ≤ (x1_1 : Int) := of_decide_eq_true (by first | (with_reducible assumption) | assumption)
            have q5 : x1_1 < (a0.size : Int) := of_decide_eq_true (by first | (with_reducible assumption) | assumption)
            have hx5 := bt_at a0 x1_1
            replace p5 := eq_true p5
            replace q5 := eq_true q5
            go_wp2_with (first | (go_at_call 63; (with_reducible refine (spec_isSpace.calls (bt a0 x1_1) true _ A6.out).mono ?_); rintro e w' ⟨rfl, ⟨nd, rfl⟩⟩))
            go_roundg k1
            case measure => have := HK1.out; omega
            case rel => exact ⟨(wrap64 (x1_1 + 1)), (by first | rfl | (simp; done) | (simp [*]; done)), H', ⟨by have := HK1.out; omega⟩, by repeat (first | exact Drawn0.refl _ | apply Drawn0.step)⟩
          · replace c7 := Bool.eq_false_iff.mpr c7
            subst c7
            have H1 : (some x1_1) = some r := by rw [if_neg (show ¬ (false = true) by decide)] at H; exact H
            clear H
            have H := H1
            clear H1
            obtain rfl := Option.some.inj H
            have p5 : 0 ≤ (x1_1 : Int) := of_decide_eq_true (by first | (with_reducible assumption) | assumption)
            have q5 : x1_1 < (a0.size : Int) := of_decide_eq_true (by first | (with_reducible assumption) | assumption)
            have hx5 := bt_at a0 x1_1
            replace p5 := eq_true p5
            replace q5 := eq_true q5
            go_wp2_with (first | (go_at_call 63; (with_reducible refine (spec_isSpace.calls (bt a0 x1_1) false _ A6.out).mono ?_); rintro e w' ⟨rfl, ⟨nd, rfl⟩⟩))
            go_ret
            exact ⟨by first | rfl | (simp; done) | (simp [*]; done), by repeat (first | exact Drawn0.refl _ | apply Drawn0.step)⟩
        · rw [if_neg c4] at H
          exact absurd H (by simp)
      · rw [if_neg c3] at H
        have c3b0 : decide (x1_1 < (a0.size : Int)) = false := decide_eq_false c3
        clear c3
        obtain rfl := Option.some.inj H
        go_wp2
        go_ret
        exact ⟨by first | rfl | (simp; done) | (simp [*]; done), by repeat (first | exact Drawn0.refl _ | apply Drawn0.step)⟩

/-! ### spec_isWord: function 48 -/
def spec_isWord.l0 : Nat → ByteArray → Int → ByteArray → Int → Option (Bool)
  | 0, _, _, _, _ => none
  | k + 1, x0, x1, x2, x7 => if x7 < (x2.size : Int) then (if 0 ≤ (wrap64 (x1 + x7)) then (if (wrap64 (x1 + x7)) < (x0.size : Int) then (if 0 ≤ x7 then (if (bt x0 (wrap64 (x1 + x7))) = (bt x2 x7) then (spec_isWord.l0 k x0 x1 x2 (wrap64 (x7 + 1))) else (if (bt x0 (wrap64 (x1 + x7))) = (((((bt x2 x7) + 97) % 256) - 65) % 256) then (spec_isWord.l0 k x0 x1 x2 (wrap64 (x7 + 1))) else (some false))) else (none)) else (none)) else (none)) else (some true)
def spec_isWord.f (k : Nat) (a0 : ByteArray) (a1 : Int) (a2 : ByteArray) : Option (Bool) := if (wrap64 (a1 + (a2.size : Int))) > (a0.size : Int) then (some false) else (spec_isWord.l0 k a0 a1 a2 0)
theorem spec_isWord.mono_l : ∀ k, (∀ y0 y1 y2 y3, LeO (spec_isWord.l0 k y0 y1 y2 y3) (spec_isWord.l0 (k + 1) y0 y1 y2 y3))
  | 0 => fun _ _ _ _ r h => by simp [spec_isWord.l0] at h
  | k + 1 => by
    have ih0 := spec_isWord.mono_l k
    · intro y0 y1 y2 y3
      unfold spec_isWord.l0
      repeat' first
      | (with_reducible exact ih0 _ _ _ _)
      | (with_reducible exact LeO.refl _)
      | (with_reducible exact LeO.none _)
      | (with_reducible refine LeO.ite ?_ ?_)
      | (with_reducible refine LeO.bind ?_ (fun _ => ?_))
      | exact ih0 _ _ _ _
      | exact LeO.none _
      | refine LeO.ite ?_ ?_
      | refine LeO.bind ?_ (fun _ => ?_)
theorem spec_isWord.mono : ∀ a0 a1 a2 k, LeO (spec_isWord.f k a0 a1 a2) (spec_isWord.f (k + 1) a0 a1 a2) := by
  intro a0 a1 a2 k
  have ih0 := spec_isWord.mono_l k
  unfold spec_isWord.f
  repeat' first
      | (with_reducible exact ih0 _ _ _ _)
      | (with_reducible exact LeO.refl _)
      | (with_reducible exact LeO.none _)
      | (with_reducible refine LeO.ite ?_ ?_)
      | (with_reducible refine LeO.bind ?_ (fun _ => ?_))
      | exact ih0 _ _ _ _
      | exact LeO.none _
      | refine LeO.ite ?_ ?_
      | refine LeO.bind ?_ (fun _ => ?_)
set_option maxHeartbeats 8000000 in
set_option maxRecDepth 100000 in
theorem spec_isWord.calls (k : Nat) (a0 : ByteArray) (a1 : Int) (a2 : ByteArray) (r : Bool) (w : World) (h : spec_isWord.f k a0 a1 a2 = some r) :
    Calls Tryd.prog 48 #[.string a0, .int .i64 a1, .string a2] w fun e w' => e = .returned (.bool r) ∧ Drawn0 w w' := by
  have H : (if (wrap64 (a1 + (a2.size : Int))) > (a0.size : Int) then (some false) else (spec_isWord.l0 k a0 a1 a2 0)) = some r := h
  clear h
  by_cases c4 : (wrap64 (a1 + (a2.size : Int))) > (a0.size : Int)
  · rw [if_pos c4] at H
    have c4b0 : decide ((a0.size : Int) < (wrap64 (a1 + (a2.size : Int)))) = true := decide_eq_true c4
    clear c4
    obtain rfl := Option.some.inj H
    go_enter Tryd.func48, Tryd.ntmps48
    go_wp2
    go_ret
    exact ⟨by first | rfl | (simp; done) | (simp [*]; done), by repeat (first | exact Drawn0.refl _ | apply Drawn0.step)⟩
  · rw [if_neg c4] at H
    have c4b0 : decide ((a0.size : Int) < (wrap64 (a1 + (a2.size : Int)))) = false := decide_eq_false c4
    clear c4
    have H' := Aside0.mk H
    clear H
    go_enter Tryd.func48, Tryd.ntmps48
    go_wp2
    go_loopg [7] k (fun kq v7 w' => ∃ (x7_1 : Int), v7 = .int .i64 x7_1 ∧ Aside0 (spec_isWord.l0 kq a0 a1 a2 x7_1 = some r) ∧ Aside0 (kq ≤ k) ∧ Drawn0 w w')
    case atStart => exact ⟨(0), (by first | rfl | (simp; done) | (simp [*]; done)), H', ⟨Nat.le_refl _⟩, by repeat (first | exact Drawn0.refl _ | apply Drawn0.step)⟩
    case round =>
      clear H'
      try clear p2
      try clear c4
      try clear c4b0
      obtain ⟨x7_1, rfl, HA, HK1, ⟨m1, rfl⟩⟩ := hrel
      cases gk with
      | zero => exact absurd HA.out (by simp [spec_isWord.l0])
      | succ k1 =>
        have H := HA.out
        clear HA
        simp only [spec_isWord.l0] at H
        by_cases c5 : x7_1 < (a2.size : Int)
        · rw [if_pos c5] at H
          have c5b0 : decide (x7_1 < (a2.size : Int)) = true := decide_eq_true c5
          clear c5
          obtain ⟨ji6, hji6⟩ : ∃ j_ : Int, (wrap64 (a1 + x7_1)) = j_ := ⟨_, rfl⟩
          replace H : (if 0 ≤ (ji6) then (if (ji6) < (a0.size : Int) then (if 0 ≤ x7_1 then (if (bt a0 (ji6)) = (bt a2 x7_1) then (spec_isWord.l0 k1 a0 a1 a2 (wrap64 (x7_1 + 1))) else (if (bt a0 (ji6)) = (((((bt a2 x7_1) + 97) % 256) - 65) % 256) then (spec_isWord.l0 k1 a0 a1 a2 (wrap64 (x7_1 + 1))) else (some false))) else (none)) else (none)) else (none)) = some r := by first | (rw [hji6] at H; exact H) | (simp only [hji6] at H ⊢; exact H)
          have hji6w : (IntKind.i64.wrap (a1 + x7_1)) = ji6 := (i64_w _).trans hji6
          by_cases c7 : 0 ≤ (ji6)
          · rw [if_pos c7] at H
            have c7b0 : decide (0 ≤ (ji6)) = true := decide_eq_true c7
            clear c7
            by_cases c8 : (ji6) < (a0.size : Int)
            · rw [if_pos c8] at H
              have c8b0 : decide ((ji6) < (a0.size : Int)) = true := decide_eq_true c8
              clear c8
              by_cases c10 : 0 ≤ x7_1
              · rw [if_pos c10] at H
                have c10b0 : decide (0 ≤ x7_1) = true := decide_eq_true c10
                clear c10
                by_cases c12 : (bt a0 (ji6)) = (bt a2 x7_1)
                · rw [if_pos c12] at H
                  have c12b0 : ((bt a0 (ji6)) == (bt a2 x7_1)) = true := beq_iff_eq.mpr c12
                  have c12b1 : ((bt a0 (ji6)) != (bt a2 x7_1)) = false := bne_eq_false_iff_eq.mpr c12
                  clear c12
                  have H' := Aside0.mk H
                  clear H
                  have p9 : 0 ≤ ((ji6) : Int) := of_decide_eq_true (by first | (with_reducible assumption) | assumption)
                  have q9 : (ji6) < (a0.size : Int) := of_decide_eq_true (by first | (with_reducible assumption) | assumption)
                  have hx9 := bt_at a0 (ji6)
                  replace p9 := eq_true p9
                  replace q9 := eq_true q9
                  have p11 : 0 ≤ (x7_1 : Int) := of_decide_eq_true (by first | (with_reducible assumption) | assumption)
                  have q11 : x7_1 < (a2.size : Int) := of_decide_eq_true (by first | (with_reducible assumption) | assumption)
                  have hx11 := bt_at a2 x7_1
                  replace p11 := eq_true p11
                  replace q11 := eq_true q11
                  go_wp2
                  go_roundg k1
                  case measure => have := HK1.out; omega
                  case rel => exact ⟨(wrap64 (x7_1 + 1)), (by first | rfl | (simp; done) | (simp [*]; done)), H', ⟨by have := HK1.out; omega⟩, by repeat (first | exact Drawn0.refl _ | apply Drawn0.step)⟩
                · rw [if_neg c12] at H
                  have c12b0 : ((bt a0 (ji6)) == (bt a2 x7_1)) = false := beq_eq_false_iff_ne.mpr c12
                  have c12b1 : ((bt a0 (ji6)) != (bt a2 x7_1)) = true := bne_iff_ne.mpr c12
                  by_cases c14 : (bt a0 (ji6)) = (((((bt a2 x7_1) + 97) % 256) - 65) % 256)
                  · rw [if_pos c14] at H
                    have c14b0 : ((bt a0 (ji6)) == (((((bt a2 x7_1) + 97) % 256) - 65) % 256)) = true := beq_iff_eq.mpr c14
                    have c14b1 : ((bt a0 (ji6)) != (((((bt a2 x7_1) + 97) % 256) - 65) % 256)) = false := bne_eq_false_iff_eq.mpr c14
                    clear c14
                    have H' := Aside0.mk H
                    clear H
                    have p9 : 0 ≤ ((ji6) : Int) := of_decide_eq_true (by first | (with_reducible assumption) | assumption)
                    have q9 : (ji6) < (a0.size : Int) := of_decide_eq_true (by first | (with_reducible assumption) | assumption)
                    have hx9 := bt_at a0 (ji6)
                    replace p9 := eq_true p9
                    replace q9 := eq_true q9
                    have p11 : 0 ≤ (x7_1 : Int) := of_decide_eq_true (by first | (with_reducible assumption) | assumption)
                    have q11 : x7_1 < (a2.size : Int) := of_decide_eq_true (by first | (with_reducible assumption) | assumption)
                    have hx11 := bt_at a2 x7_1
                    replace p11 := eq_true p11
                    replace q11 := eq_true q11
                    have p13 : 0 ≤ (x7_1 : Int) := of_decide_eq_true (by first | (with_reducible assumption) | assumption)
                    have q13 : x7_1 < (a2.size : Int) := of_decide_eq_true (by first | (with_reducible assumption) | assumption)
                    have hx13 := bt_at a2 x7_1
                    replace p13 := eq_true p13
                    replace q13 := eq_true q13
                    go_wp2
                    go_roundg k1
                    case measure => have := HK1.out; omega
                    case rel => exact ⟨(wrap64 (x7_1 + 1)), (by first | rfl | (simp; done) | (simp [*]; done)), H', ⟨by have := HK1.out; omega⟩, by repeat (first | exact Drawn0.refl _ | apply Drawn0.step)⟩
                  · rw [if_neg c14] at H
                    have c14b0 : ((bt a0 (ji6)) == (((((bt a2 x7_1) + 97) % 256) - 65) % 256)) = false := beq_eq_false_iff_ne.mpr c14
                    have c14b1 : ((bt a0 (ji6)) != (((((bt a2 x7_1) + 97) % 256) - 65) % 256)) = true := bne_iff_ne.mpr c14
                    obtain rfl := Option.some.inj H
                    have p9 : 0 ≤ ((ji6) : Int) := of_decide_eq_true (by first | (with_reducible assumption) | assumption)
                    have q9 : (ji6) < (a0.size : Int) := of_decide_eq_true (by first | (with_reducible assumption) | assumption)
                    have hx9 := bt_at a0 (ji6)
                    replace p9 := eq_true p9
                    replace q9 := eq_true q9
                    have p11 : 0 ≤ (x7_1 : Int) := of_decide_eq_true (by first | (with_reducible assumption) | assumption)
                    have q11 : x7_1 < (a2.size : Int) := of_decide_eq_true (by first | (with_reducible assumption) | assumption)
                    have hx11 := bt_at a2 x7_1
                    replace p11 := eq_true p11
                    replace q11 := eq_true q11
                    have p13 : 0 ≤ (x7_1 : Int) := of_decide_eq_true (by first | (with_reducible assumption) | assumption)
                    have q13 : x7_1 < (a2.size : Int) := of_decide_eq_true (by first | (with_reducible assumption) | assumption)
                    have hx13 := bt_at a2 x7_1
                    replace p13 := eq_true p13
                    replace q13 := eq_true q13
                    go_wp2
                    go_ret
                    exact ⟨by first | rfl | (simp; done) | (simp only [← hji6] <;> (first | rfl | simp)) | (simp [*]; done), by repeat (first | exact Drawn0.refl _ | apply Drawn0.step)⟩
              · rw [if_neg c10] at H
                exact absurd H (by simp)
            · rw [if_neg c8] at H
              exact absurd H (by simp)
          · rw [if_neg c7] at H
            exact absurd H (by simp)
        · rw [if_neg c5] at H
          have c5b0 : decide (x7_1 < (a2.size : Int)) = false := decide_eq_false c5
          clear c5
          obtain rfl := Option.some.inj H
          go_wp2
          go_ret
          exact ⟨by first | rfl | (simp; done) | (simp [*]; done), by repeat (first | exact Drawn0.refl _ | apply Drawn0.step)⟩

end Go.Proofs.YtnmhoghmhglimaaDoor.QB
