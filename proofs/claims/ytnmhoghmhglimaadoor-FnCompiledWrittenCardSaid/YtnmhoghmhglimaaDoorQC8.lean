-- WRITTEN BY A PROGRAM OF THIS SESSION (wip/print2.py): the print, with contracts of this session's own let in. Not trusted: Lean checks it.
import Derived.Test.YtnmhoghmhglimaaDoorQC0
import Derived.Test.YtnmhoghmhglimaaDoorQC2
namespace Go.Proofs.YtnmhoghmhglimaaDoor.QC
open Go.RowKit Go.Proofs.YtnmhoghmhglimaaDoorW.PrintWords Go.Proofs.YtnmhoghmhglimaaDoorW.PrintLast Go.Proofs.YtnmhoghmhglimaaDoorW.PrintMore
attribute [local go_sem] max2_int min2_int max_two min_two max_three min_three max_four min_four   -- for this text's walks alone
set_option linter.unusedVariables false
set_option linter.unusedSimpArgs false

/-! ### spec_IsGap: function 31 -/
mutual
def spec_IsGap.j0 : Nat → ByteArray → Bool → Option (Bool)
  | 0, _, _ => none
  | k + 1, x0, x15 => if x15 = true then (some false) else (spec_IsGap.l0 k x0 0)
def spec_IsGap.l0 : Nat → ByteArray → Int → Option (Bool)
  | 0, _, _ => none
  | k + 1, x0, x3 => if x3 < (x0.size : Int) then (if 0 ≤ x3 then (if (bt x0 x3) = 58 then (some false) else (spec_IsGap.l0 k x0 (wrap64 (x3 + 1)))) else (none)) else (some true)
end
def spec_IsGap.f (k : Nat) (a0 : ByteArray) : Option (Bool) := if a0.toList = ([] : List UInt8) then (spec_IsGap.j0 k a0 true) else (if 0 < (a0.size : Int) then ((spec_isNameByte.f (bt a0 0)).bind fun t177 => (if t177 = true then (spec_IsGap.j0 k a0 true) else (spec_IsGap.j0 k a0 (decide ((bt a0 0) ≥ 128))))) else (none))
theorem spec_IsGap.mono_l : ∀ k, (∀ y0 y1, LeO (spec_IsGap.j0 k y0 y1) (spec_IsGap.j0 (k + 1) y0 y1)) ∧ (∀ y0 y1, LeO (spec_IsGap.l0 k y0 y1) (spec_IsGap.l0 (k + 1) y0 y1))
  | 0 => ⟨fun _ _ r h => by simp [spec_IsGap.j0] at h, fun _ _ r h => by simp [spec_IsGap.l0] at h⟩
  | k + 1 => by
    obtain ⟨ih0, ih1⟩ := spec_IsGap.mono_l k
    refine ⟨?_, ?_⟩
    · intro y0 y1
      unfold spec_IsGap.j0
      repeat' first
      | (with_reducible exact ih0 _ _)
      | (with_reducible exact ih1 _ _)
      | (with_reducible exact LeO.refl _)
      | (with_reducible exact LeO.none _)
      | (with_reducible refine LeO.ite ?_ ?_)
      | (with_reducible refine LeO.bind ?_ (fun _ => ?_))
      | exact ih0 _ _
      | exact ih1 _ _
      | exact LeO.none _
      | refine LeO.ite ?_ ?_
      | refine LeO.bind ?_ (fun _ => ?_)
    · intro y0 y1
      unfold spec_IsGap.l0
      repeat' first
      | (with_reducible exact ih0 _ _)
      | (with_reducible exact ih1 _ _)
      | (with_reducible exact LeO.refl _)
      | (with_reducible exact LeO.none _)
      | (with_reducible refine LeO.ite ?_ ?_)
      | (with_reducible refine LeO.bind ?_ (fun _ => ?_))
      | exact ih0 _ _
      | exact ih1 _ _
      | exact LeO.none _
      | refine LeO.ite ?_ ?_
      | refine LeO.bind ?_ (fun _ => ?_)
theorem spec_IsGap.mono : ∀ a0 k, LeO (spec_IsGap.f k a0) (spec_IsGap.f (k + 1) a0) := by
  intro a0 k
  obtain ⟨ih0, ih1⟩ := spec_IsGap.mono_l k
  unfold spec_IsGap.f
  repeat' first
      | (with_reducible exact ih0 _ _)
      | (with_reducible exact ih1 _ _)
      | (with_reducible exact LeO.refl _)
      | (with_reducible exact LeO.none _)
      | (with_reducible refine LeO.ite ?_ ?_)
      | (with_reducible refine LeO.bind ?_ (fun _ => ?_))
      | exact ih0 _ _
      | exact ih1 _ _
      | exact LeO.none _
      | refine LeO.ite ?_ ?_
      | refine LeO.bind ?_ (fun _ => ?_)
set_option maxHeartbeats 8000000 in
set_option maxRecDepth 100000 in
theorem spec_IsGap.calls (k : Nat) (a0 : ByteArray) (r : Bool) (w : World) (h : spec_IsGap.f k a0 = some r) :
    Calls Tryd.prog 31 #[.string a0] w fun e w' => e = .returned (.bool r) ∧ Drawn0 w w' := by
  have H : (if a0.toList = ([] : List UInt8) then (spec_IsGap.j0 k a0 true) else (if 0 < (a0.size : Int) then ((spec_isNameByte.f (bt a0 0)).bind fun t177 => (if t177 = true then (spec_IsGap.j0 k a0 true) else (spec_IsGap.j0 k a0 (decide ((bt a0 0) ≥ 128))))) else (none))) = some r := h
  clear h
  have HC2 := Aside0.mk H
  clear H
  go_enter Tryd.func31, Tryd.ntmps31
  go_upto_region 1 with (fail)
  go_cut [15] (fun v15 wc => ∃ (kq : Nat) (x15_1 : Bool), v15 = .bool x15_1 ∧ Aside0 (spec_IsGap.j0 kq a0 x15_1 = some r) ∧ Aside0 (kq ≤ k) ∧ Drawn0 w wc)
  case first =>
    have H := HC2.out
    clear HC2
    by_cases c3 : a0.toList = ([] : List UInt8)
    · rw [if_pos c3] at H
      have c3b0 : (a0.toList == ([] : List UInt8)) = true := beq_iff_eq.mpr c3
      have c3b1 : (a0.toList != ([] : List UInt8)) = false := bne_eq_false_iff_eq.mpr c3
      clear c3
      (first | rw [c3b0] | (simp only [i64_w, i32_w]; rw [c3b0]) | skip)
      have H' := Aside0.mk H
      clear H
      go_wp2
      go_meet
      case rel => exact ⟨_, (true), (by first | rfl | (simp; done) | (simp [*]; done)), H', ⟨by first | omega | exact Nat.le_refl _⟩, by repeat (first | exact Drawn0.refl _ | apply Drawn0.step)⟩
    · rw [if_neg c3] at H
      have c3b0 : (a0.toList == ([] : List UInt8)) = false := beq_eq_false_iff_ne.mpr c3
      have c3b1 : (a0.toList != ([] : List UInt8)) = true := bne_iff_ne.mpr c3
      (first | rw [c3b0] | (simp only [i64_w, i32_w]; rw [c3b0]) | skip)
      by_cases c4 : 0 < (a0.size : Int)
      · rw [if_pos c4] at H
        have c4b0 : decide (0 < (a0.size : Int)) = true := decide_eq_true c4
        have c4b1 : decide (0 < a0.size) = true := decide_eq_true (by omega)
        clear c4
        replace H := Option.bind_eq_some_iff.mp H
        obtain ⟨t177, A60, H⟩ := H
        replace H : (if t177 = true then (spec_IsGap.j0 k a0 true) else (spec_IsGap.j0 k a0 (decide ((bt a0 0) ≥ 128)))) = some r := H
        have A6 := Aside0.mk A60
        clear A60
        by_cases c7 : t177 = true
        · subst c7
          have H1 : (spec_IsGap.j0 k a0 true) = some r := by rw [if_pos rfl] at H; exact H
          clear H
          have H := H1
          clear H1
          have H' := Aside0.mk H
          clear H
          have p5 : 0 ≤ (0 : Int) := (by omega)
          have q5 : 0 < a0.size := (by have : (0 : Int) < (a0.size : Int) := of_decide_eq_true (by first | (with_reducible assumption) | assumption); omega)
          have hx5 : ∀ h : 0 < a0.size, ((a0[0]'h).toNat : Int) = bt a0 0 := bt_at a0 0
          clear p5
          have qi5 : (0 < (a0.size : Int)) = True := eq_true (of_decide_eq_true (by first | (with_reducible assumption) | assumption))
          replace q5 := eq_true q5
          go_wp2_with (first | (go_at_call 53; (with_reducible refine (spec_isNameByte.calls (bt a0 0) true _ A6.out).mono ?_); rintro e w' ⟨rfl, ⟨nd, rfl⟩⟩))
          go_meet
          case rel => exact ⟨_, (true), (by first | rfl | (simp; done) | (simp [*]; done)), H', ⟨by first | omega | exact Nat.le_refl _⟩, by repeat (first | exact Drawn0.refl _ | apply Drawn0.step)⟩
        · replace c7 := Bool.eq_false_iff.mpr c7
          subst c7
          have H1 : (spec_IsGap.j0 k a0 (decide ((bt a0 0) ≥ 128))) = some r := by rw [if_neg (show ¬ (false = true) by decide)] at H; exact H
          clear H
          have H := H1
          clear H1
          have H' := Aside0.mk H
          clear H
          have p5 : 0 ≤ (0 : Int) := (by omega)
          have q5 : 0 < a0.size := (by have : (0 : Int) < (a0.size : Int) := of_decide_eq_true (by first | (with_reducible assumption) | assumption); omega)
          have hx5 : ∀ h : 0 < a0.size, ((a0[0]'h).toNat : Int) = bt a0 0 := bt_at a0 0
          clear p5
          have qi5 : (0 < (a0.size : Int)) = True := eq_true (of_decide_eq_true (by first | (with_reducible assumption) | assumption))
          replace q5 := eq_true q5
          go_wp2_with (first | (go_at_call 53; (with_reducible refine (spec_isNameByte.calls (bt a0 0) false _ A6.out).mono ?_); rintro e w' ⟨rfl, ⟨nd, rfl⟩⟩; have p8 : 0 ≤ (0 : Int) := (by omega); have q8 : 0 < a0.size := (by have : (0 : Int) < (a0.size : Int) := of_decide_eq_true (by first | (with_reducible assumption) | assumption); omega); have hx8 : ∀ h : 0 < a0.size, ((a0[0]'h).toNat : Int) = bt a0 0 := bt_at a0 0; clear p8; have qi8 : (0 < (a0.size : Int)) = True := eq_true (of_decide_eq_true (by first | (with_reducible assumption) | assumption)); replace q8 := eq_true q8))
          go_meet
          case rel => exact ⟨_, (decide ((bt a0 0) ≥ 128)), (by first | rfl | (simp; done) | (simp [*]; done)), H', ⟨by first | omega | exact Nat.le_refl _⟩, by repeat (first | exact Drawn0.refl _ | apply Drawn0.step)⟩
      · rw [if_neg c4] at H
        exact absurd H (by simp)
  case rest =>
    clear HC2
    try clear p2
    try clear c3
    try clear c3b0
    try clear c3b1
    try clear c4
    try clear c4b0
    try clear c4b1
    try clear p5
    try clear q5
    try clear hx5
    try clear qi5
    try clear c7
    try clear p8
    try clear q8
    try clear hx8
    try clear qi8
    try clear p5
    try clear p8
    try clear q5
    try clear q8
    obtain ⟨kq, x15_1, rfl, HA, HJ1, ⟨mc1, rfl⟩⟩ := hcut
    cases kq with
    | zero => exact absurd HA.out (by simp [spec_IsGap.j0])
    | succ kj1 =>
      have H := HA.out
      clear HA
      simp only [spec_IsGap.j0] at H
      by_cases c9 : x15_1 = true
      · subst c9
        have H1 : (some false) = some r := by rw [if_pos rfl] at H; exact H
        clear H
        have H := H1
        clear H1
        obtain rfl := Option.some.inj H
        go_wp2
        go_ret
        exact ⟨by first | rfl | (simp; done) | (simp [*]; done), by repeat (first | exact Drawn0.refl _ | apply Drawn0.step)⟩
      · replace c9 := Bool.eq_false_iff.mpr c9
        subst c9
        have H1 : (spec_IsGap.l0 kj1 a0 0) = some r := by rw [if_neg (show ¬ (false = true) by decide)] at H; exact H
        clear H
        have H := H1
        clear H1
        have H' := Aside0.mk H
        clear H
        go_wp2
        go_loopg [3] kj1 (fun kq v3 w' => ∃ (x3_2 : Int), v3 = .int .i64 x3_2 ∧ Aside0 (spec_IsGap.l0 kq a0 x3_2 = some r) ∧ Aside0 (kq ≤ kj1) ∧ Drawn0 w w')
        case atStart => exact ⟨(0), (by first | rfl | (simp; done) | (simp [*]; done)), H', ⟨Nat.le_refl _⟩, by repeat (first | exact Drawn0.refl _ | apply Drawn0.step)⟩
        case round =>
          clear H'
          try clear c1
          try clear p2
          try clear c3
          try clear c3b0
          try clear c3b1
          try clear c4
          try clear c4b0
          try clear c4b1
          try clear p5
          try clear q5
          try clear hx5
          try clear qi5
          try clear c7
          try clear p8
          try clear q8
          try clear hx8
          try clear qi8
          try clear c9
          try clear p2
          try clear p5
          try clear p8
          try clear q5
          try clear q8
          obtain ⟨x3_2, rfl, HA, HK2, ⟨m2, rfl⟩⟩ := hrel
          cases gk with
          | zero => exact absurd HA.out (by simp [spec_IsGap.l0])
          | succ k2 =>
            have H := HA.out
            clear HA
            simp only [spec_IsGap.l0] at H
            by_cases c10 : x3_2 < (a0.size : Int)
            · rw [if_pos c10] at H
              have c10b0 : decide (x3_2 < (a0.size : Int)) = true := decide_eq_true c10
              clear c10
              by_cases c11 : 0 ≤ x3_2
              · rw [if_pos c11] at H
                have c11b0 : decide (0 ≤ x3_2) = true := decide_eq_true c11
                clear c11
                by_cases c13 : (bt a0 x3_2) = 58
                · rw [if_pos c13] at H
                  have c13b0 : ((bt a0 x3_2) == 58) = true := beq_iff_eq.mpr c13
                  have c13b1 : ((bt a0 x3_2) != 58) = false := bne_eq_false_iff_eq.mpr c13
                  clear c13
                  obtain rfl := Option.some.inj H
                  have p12 : 0 ≤ (x3_2 : Int) := of_decide_eq_true (by first | (with_reducible assumption) | assumption)
                  have q12 : x3_2 < (a0.size : Int) := of_decide_eq_true (by first | (with_reducible assumption) | assumption)
                  have hx12 := bt_at a0 x3_2
                  replace p12 := eq_true p12
                  replace q12 := eq_true q12
                  go_wp2
                  go_ret
                  exact ⟨by first | rfl | (simp; done) | (simp [*]; done), by repeat (first | exact Drawn0.refl _ | apply Drawn0.step)⟩
                · rw [if_neg c13] at H
                  have c13b0 : ((bt a0 x3_2) == 58) = false := beq_eq_false_iff_ne.mpr c13
                  have c13b1 : ((bt a0 x3_2) != 58) = true := bne_iff_ne.mpr c13
                  have H' := Aside0.mk H
                  clear H
                  have p12 : 0 ≤ (x3_2 : Int) := of_decide_eq_true (by first | (with_reducible assumption) | assumption)
                  have q12 : x3_2 < (a0.size : Int) := of_decide_eq_true (by first | (with_reducible assumption) | assumption)
                  have hx12 := bt_at a0 x3_2
                  replace p12 := eq_true p12
                  replace q12 := eq_true q12
                  go_wp2
                  go_roundg k2
                  case measure => have := HJ1.out; have := HK2.out; omega
                  case rel => exact ⟨(wrap64 (x3_2 + 1)), (by first | rfl | (simp; done) | (simp [*]; done)), H', ⟨by have := HJ1.out; have := HK2.out; omega⟩, by repeat (first | exact Drawn0.refl _ | apply Drawn0.step)⟩
              · rw [if_neg c11] at H
                exact absurd H (by simp)
            · rw [if_neg c10] at H
              have c10b0 : decide (x3_2 < (a0.size : Int)) = false := decide_eq_false c10
              clear c10
              obtain rfl := Option.some.inj H
              go_wp2
              go_ret
              exact ⟨by first | rfl | (simp; done) | (simp [*]; done), by repeat (first | exact Drawn0.refl _ | apply Drawn0.step)⟩

end Go.Proofs.YtnmhoghmhglimaaDoor.QC
