/-
  MERGED BY A PROGRAM OF THIS SESSION (wip/pack.py): QB0, QB1, QB2, QB3, QL0, QL1, QL2, QL3.
-/
import Derived.Test.YtnmhoghmhglimaaDoorProg
import Derived.Below
import Derived.Deep.Draws
import Derived.Deep.AppendLies
import Derived.Maps.AppendAt
import Derived.OwnWalk
import Derived.Laws.BytesArg
import Derived.Laws.MakeOwn
import Derived.Laws.OwnMore
import Derived.Deep.OwnRows
import Derived.Tactics
import Derived.Lib.ConvBytes
import Derived.Laws.Slices
import Derived.WalkKit
import Derived.KernelRfl
import Derived.RowKit3
import Derived.Deep.LoopGhost
import Derived.Deep.QuietTactic
import Derived.BigQuiet
import Derived.WideLaws
import Derived.Deep.DeepCutAuto
import Derived.Deep.CutBlock
import Derived.Deep.RegionHeld3
import Derived.Laws.Rows
import Derived.Lib.AppendStr
import Derived.ArgAppend
import Derived.Laws.IdiomCopy
import Derived.OrdersHeld
import Derived.Laws.BitsLemmas
import Derived.RowKit
import Derived.Test.YtnmhoghmhglimaaDoorZA
-- WRITTEN BY A PROGRAM OF THIS SESSION (wip/print2.py): the print, with contracts of this session's own let in. Not trusted: Lean checks it.
namespace Go.Proofs.YtnmhoghmhglimaaDoor.QB
open Go.RowKit Go.Proofs.YtnmhoghmhglimaaDoorW.PrintWords Go.Proofs.YtnmhoghmhglimaaDoorW.PrintLast Go.Proofs.YtnmhoghmhglimaaDoorW.PrintMore
attribute [local go_sem] max2_int min2_int max_two min_two max_three min_three max_four min_four   -- for this text's walks alone
set_option linter.unusedVariables false
set_option linter.unusedSimpArgs false



def errW : Option Int → Value
  | none => .nilIface
  | some c => .iface 0 (.int .i64 c)
theorem errW_none : errW none = .nilIface := rfl
theorem errW_some (c : Int) : errW (some c) = .iface 0 (.int .i64 c) := rfl

-- the values' own types

end Go.Proofs.YtnmhoghmhglimaaDoor.QB
-- WRITTEN BY A PROGRAM OF THIS SESSION (wip/print2.py): the print, with contracts of this session's own let in. Not trusted: Lean checks it.
namespace Go.Proofs.YtnmhoghmhglimaaDoor.QB
open Go.RowKit Go.Proofs.YtnmhoghmhglimaaDoorW.PrintWords Go.Proofs.YtnmhoghmhglimaaDoorW.PrintLast Go.Proofs.YtnmhoghmhglimaaDoorW.PrintMore
attribute [local go_sem] max2_int min2_int max_two min_two max_three min_three max_four min_four   -- for this text's walks alone
set_option linter.unusedVariables false
set_option linter.unusedSimpArgs false

/-! ### spec_isSpace: function 63 -/
def spec_isSpace.f (a0 : Int) : Option (Bool) := if a0 = 32 then (some true) else (if a0 = 9 then (some true) else (if a0 = 10 then (some true) else (if a0 = 13 then (some true) else (some (a0 == 12)))))
set_option maxHeartbeats 8000000 in
set_option maxRecDepth 100000 in
theorem spec_isSpace.calls (a0 : Int) (r : Bool) (w : World) (h : spec_isSpace.f a0 = some r) :
    Calls Tryd.prog 63 #[.int .u8 a0] w fun e w' => e = .returned (.bool r) ∧ Drawn0 w w' := by
  have H : (if a0 = 32 then (some true) else (if a0 = 9 then (some true) else (if a0 = 10 then (some true) else (if a0 = 13 then (some true) else (some (a0 == 12)))))) = some r := h
  clear h
  by_cases c2 : a0 = 32
  · rw [if_pos c2] at H
    have c2b0 : (a0 == 32) = true := beq_iff_eq.mpr c2
    have c2b1 : (a0 != 32) = false := bne_eq_false_iff_eq.mpr c2
    clear c2
    obtain rfl := Option.some.inj H
    go_enter Tryd.func63, Tryd.ntmps63
    go_wp2
    go_ret
    exact ⟨by first | rfl | (simp; done) | (simp [*]; done), by repeat (first | exact Drawn0.refl _ | apply Drawn0.step)⟩
  · rw [if_neg c2] at H
    have c2b0 : (a0 == 32) = false := beq_eq_false_iff_ne.mpr c2
    have c2b1 : (a0 != 32) = true := bne_iff_ne.mpr c2
    by_cases c3 : a0 = 9
    · rw [if_pos c3] at H
      have c3b0 : (a0 == 9) = true := beq_iff_eq.mpr c3
      have c3b1 : (a0 != 9) = false := bne_eq_false_iff_eq.mpr c3
      clear c3
      obtain rfl := Option.some.inj H
      go_enter Tryd.func63, Tryd.ntmps63
      go_wp2
      go_ret
      exact ⟨by first | rfl | (simp; done) | (simp [*]; done), by repeat (first | exact Drawn0.refl _ | apply Drawn0.step)⟩
    · rw [if_neg c3] at H
      have c3b0 : (a0 == 9) = false := beq_eq_false_iff_ne.mpr c3
      have c3b1 : (a0 != 9) = true := bne_iff_ne.mpr c3
      by_cases c4 : a0 = 10
      · rw [if_pos c4] at H
        have c4b0 : (a0 == 10) = true := beq_iff_eq.mpr c4
        have c4b1 : (a0 != 10) = false := bne_eq_false_iff_eq.mpr c4
        clear c4
        obtain rfl := Option.some.inj H
        go_enter Tryd.func63, Tryd.ntmps63
        go_wp2
        go_ret
        exact ⟨by first | rfl | (simp; done) | (simp [*]; done), by repeat (first | exact Drawn0.refl _ | apply Drawn0.step)⟩
      · rw [if_neg c4] at H
        have c4b0 : (a0 == 10) = false := beq_eq_false_iff_ne.mpr c4
        have c4b1 : (a0 != 10) = true := bne_iff_ne.mpr c4
        by_cases c5 : a0 = 13
        · rw [if_pos c5] at H
          have c5b0 : (a0 == 13) = true := beq_iff_eq.mpr c5
          have c5b1 : (a0 != 13) = false := bne_eq_false_iff_eq.mpr c5
          clear c5
          obtain rfl := Option.some.inj H
          go_enter Tryd.func63, Tryd.ntmps63
          go_wp2
          go_ret
          exact ⟨by first | rfl | (simp; done) | (simp [*]; done), by repeat (first | exact Drawn0.refl _ | apply Drawn0.step)⟩
        · rw [if_neg c5] at H
          have c5b0 : (a0 == 13) = false := beq_eq_false_iff_ne.mpr c5
          have c5b1 : (a0 != 13) = true := bne_iff_ne.mpr c5
          obtain rfl := Option.some.inj H
          go_enter Tryd.func63, Tryd.ntmps63
          go_wp2
          go_ret
          exact ⟨by first | rfl | (simp; done) | (simp [*]; done), by repeat (first | exact Drawn0.refl _ | apply Drawn0.step)⟩

/-! ### spec_spaces: function 47 -/
def spec_spaces.l0 : Nat → ByteArray → Int → Option (Int)
  | 0, _, _ => none
  | k + 1, x0, x1 => if x1 < (x0.size : Int) then (if 0 ≤ x1 then ((spec_isSpace.f (bt x0 x1)).bind fun t101 => (if t101 = true then (spec_spaces.l0 k x0 (wrap64 (x1 + 1))) else (some x1))) else (none)) else (some x1)
def spec_spaces.f (k : Nat) (a0 : ByteArray) (a1 : Int) : Option (Int) := spec_spaces.l0 k a0 a1
theorem spec_spaces.mono_l : ∀ k, (∀ y0 y1, LeO (spec_spaces.l0 k y0 y1) (spec_spaces.l0 (k + 1) y0 y1))
  | 0 => fun _ _ r h => by simp [spec_spaces.l0] at h
  | k + 1 => by
    have ih0 := spec_spaces.mono_l k
    · intro y0 y1
      unfold spec_spaces.l0
      repeat' first
      | (with_reducible exact ih0 _ _)
      | (with_reducible exact LeO.refl _)
      | (with_reducible exact LeO.none _)
      | (with_reducible refine LeO.ite ?_ ?_)
      | (with_reducible refine LeO.bind ?_ (fun _ => ?_))
      | exact ih0 _ _
      | exact LeO.none _
      | refine LeO.ite ?_ ?_
      | refine LeO.bind ?_ (fun _ => ?_)
theorem spec_spaces.mono : ∀ a0 a1 k, LeO (spec_spaces.f k a0 a1) (spec_spaces.f (k + 1) a0 a1) := by
  intro a0 a1 k
  have ih0 := spec_spaces.mono_l k
  unfold spec_spaces.f
  repeat' first
      | (with_reducible exact ih0 _ _)
      | (with_reducible exact LeO.refl _)
      | (with_reducible exact LeO.none _)
      | (with_reducible refine LeO.ite ?_ ?_)
      | (with_reducible refine LeO.bind ?_ (fun _ => ?_))
      | exact ih0 _ _
      | exact LeO.none _
      | refine LeO.ite ?_ ?_
      | refine LeO.bind ?_ (fun _ => ?_)
set_option maxHeartbeats 8000000 in
set_option maxRecDepth 100000 in
theorem spec_spaces.calls (k : Nat) (a0 : ByteArray) (a1 : Int) (r : Int) (w : World) (h : spec_spaces.f k a0 a1 = some r) :
    Calls Tryd.prog 47 #[.string a0, .int .i64 a1] w fun e w' => e = .returned (.int .i64 r) ∧ Drawn0 w w' := by
  have H : (spec_spaces.l0 k a0 a1) = some r := h
  clear h
  have H' := Aside0.mk H
  clear H
  go_enter Tryd.func47, Tryd.ntmps47
  go_wp2
  go_loopg [1] k (fun kq v1 w' => ∃ (x1_1 : Int), v1 = .int .i64 x1_1 ∧ Aside0 (spec_spaces.l0 kq a0 x1_1 = some r) ∧ Aside0 (kq ≤ k) ∧ Drawn0 w w')
  case atStart => exact ⟨(a1), (by first | rfl | (simp; done) | (simp [*]; done)), H', ⟨Nat.le_refl _⟩, by repeat (first | exact Drawn0.refl _ | apply Drawn0.step)⟩
  case round =>
    clear H'
    try clear p2
    obtain ⟨x1_1, rfl, HA, HK1, ⟨m1, rfl⟩⟩ := hrel
    cases gk with
    | zero => exact absurd HA.out (by simp [spec_spaces.l0])
    | succ k1 =>
      have H := HA.out
      clear HA
      simp only [spec_spaces.l0] at H
      by_cases c3 : x1_1 < (a0.size : Int)
      · rw [if_pos c3] at H
        have c3b0 : decide (x1_1 < (a0.size : Int)) = true := decide_eq_true c3
        clear c3
        by_cases c4 : 0 ≤ x1_1
        · rw [if_pos c4] at H
          have c4b0 : decide (0 ≤ x1_1) = true := decide_eq_true c4
          clear c4
          replace H := Option.bind_eq_some_iff.mp H
          obtain ⟨t101, A60, H⟩ := H
          replace H : (if t101 = true then (spec_spaces.l0 k1 a0 (wrap64 (x1_1 + 1))) else (some x1_1)) = some r := H
          have A6 := Aside0.mk A60
          clear A60
          by_cases c7 : t101 = true
          · subst c7
            have H1 : (spec_spaces.l0 k1 a0 (wrap64 (x1_1 + 1))) = some r := by rw [if_pos rfl] at H; exact H
            clear H
            have H := H1
            clear H1
            have H' := Aside0.mk H
            clear H
            have p5 : 0 ≤ (x1_1 : Int) := of_decide_eq_true (by first | (with_reducible assumption) | assumption)
            have q5 : x1_1 < (a0.size : Int) := of_decide_eq_true (by first | (with_reducible assumption) | assumption)
            have hx5 := bt_at a0 x1_1
            replace p5 := eq_true p5
            replace q5 := eq_true q5
            go_wp2_with (first | (go_at_call 63; (with_reducible refine (spec_isSpace.calls (bt a0 x1_1) true _ A6.out).mono ?_); rintro e w' ⟨rfl, ⟨nd, rfl⟩⟩))
            go_roundg k1
            case measure => have := HK1.out; omega
            case rel => exact ⟨(wrap64 (x1_1 + 1)), (by first | rfl | (simp; done) | (simp [*]; done)), H', ⟨by have := HK1.out; omega⟩, by repeat (first | exact Drawn0.refl _ | apply Drawn0.step)⟩
          · replace c7 := Bool.eq_false_iff.mpr c7
            subst c7
            have H1 : (some x1_1) = some r := by rw [if_neg (show ¬ (false = true) by decide)] at H; exact H
            clear H
            have H := H1
            clear H1
            obtain rfl := Option.some.inj H
            have p5 : 0 ≤ (x1_1 : Int) := of_decide_eq_true (by first | (with_reducible assumption) | assumption)
            have q5 : x1_1 < (a0.size : Int) := of_decide_eq_true (by first | (with_reducible assumption) | assumption)
            have hx5 := bt_at a0 x1_1
            replace p5 := eq_true p5
            replace q5 := eq_true q5
            go_wp2_with (first | (go_at_call 63; (with_reducible refine (spec_isSpace.calls (bt a0 x1_1) false _ A6.out).mono ?_); rintro e w' ⟨rfl, ⟨nd, rfl⟩⟩))
            go_ret
            exact ⟨by first | rfl | (simp; done) | (simp [*]; done), by repeat (first | exact Drawn0.refl _ | apply Drawn0.step)⟩
        · rw [if_neg c4] at H
          exact absurd H (by simp)
      · rw [if_neg c3] at H
        have c3b0 : decide (x1_1 < (a0.size : Int)) = false := decide_eq_false c3
        clear c3
        obtain rfl := Option.some.inj H
        go_wp2
        go_ret
        exact ⟨by first | rfl | (simp; done) | (simp [*]; done), by repeat (first | exact Drawn0.refl _ | apply Drawn0.step)⟩

/-! ### spec_isWord: function 48 -/
def spec_isWord.l0 : Nat → ByteArray → Int → ByteArray → Int → Option (Bool)
  | 0, _, _, _, _ => none
  | k + 1, x0, x1, x2, x7 => if x7 < (x2.size : Int) then (if 0 ≤ (wrap64 (x1 + x7)) then (if (wrap64 (x1 + x7)) < (x0.size : Int) then (if 0 ≤ x7 then (if (bt x0 (wrap64 (x1 + x7))) = (bt x2 x7) then (spec_isWord.l0 k x0 x1 x2 (wrap64 (x7 + 1))) else (if (bt x0 (wrap64 (x1 + x7))) = (((((bt x2 x7) + 97) % 256) - 65) % 256) then (spec_isWord.l0 k x0 x1 x2 (wrap64 (x7 + 1))) else (some false))) else (none)) else (none)) else (none)) else (some true)
def spec_isWord.f (k : Nat) (a0 : ByteArray) (a1 : Int) (a2 : ByteArray) : Option (Bool) := if (wrap64 (a1 + (a2.size : Int))) > (a0.size : Int) then (some false) else (spec_isWord.l0 k a0 a1 a2 0)
theorem spec_isWord.mono_l : ∀ k, (∀ y0 y1 y2 y3, LeO (spec_isWord.l0 k y0 y1 y2 y3) (spec_isWord.l0 (k + 1) y0 y1 y2 y3))
  | 0 => fun _ _ _ _ r h => by simp [spec_isWord.l0] at h
  | k + 1 => by
    have ih0 := spec_isWord.mono_l k
    · intro y0 y1 y2 y3
      unfold spec_isWord.l0
      repeat' first
      | (with_reducible exact ih0 _ _ _ _)
      | (with_reducible exact LeO.refl _)
      | (with_reducible exact LeO.none _)
      | (with_reducible refine LeO.ite ?_ ?_)
      | (with_reducible refine LeO.bind ?_ (fun _ => ?_))
      | exact ih0 _ _ _ _
      | exact LeO.none _
      | refine LeO.ite ?_ ?_
      | refine LeO.bind ?_ (fun _ => ?_)
theorem spec_isWord.mono : ∀ a0 a1 a2 k, LeO (spec_isWord.f k a0 a1 a2) (spec_isWord.f (k + 1) a0 a1 a2) := by
  intro a0 a1 a2 k
  have ih0 := spec_isWord.mono_l k
  unfold spec_isWord.f
  repeat' first
      | (with_reducible exact ih0 _ _ _ _)
      | (with_reducible exact LeO.refl _)
      | (with_reducible exact LeO.none _)
      | (with_reducible refine LeO.ite ?_ ?_)
      | (with_reducible refine LeO.bind ?_ (fun _ => ?_))
      | exact ih0 _ _ _ _
      | exact LeO.none _
      | refine LeO.ite ?_ ?_
      | refine LeO.bind ?_ (fun _ => ?_)
set_option maxHeartbeats 8000000 in
set_option maxRecDepth 100000 in
theorem spec_isWord.calls (k : Nat) (a0 : ByteArray) (a1 : Int) (a2 : ByteArray) (r : Bool) (w : World) (h : spec_isWord.f k a0 a1 a2 = some r) :
    Calls Tryd.prog 48 #[.string a0, .int .i64 a1, .string a2] w fun e w' => e = .returned (.bool r) ∧ Drawn0 w w' := by
  have H : (if (wrap64 (a1 + (a2.size : Int))) > (a0.size : Int) then (some false) else (spec_isWord.l0 k a0 a1 a2 0)) = some r := h
  clear h
  by_cases c4 : (wrap64 (a1 + (a2.size : Int))) > (a0.size : Int)
  · rw [if_pos c4] at H
    have c4b0 : decide ((a0.size : Int) < (wrap64 (a1 + (a2.size : Int)))) = true := decide_eq_true c4
    clear c4
    obtain rfl := Option.some.inj H
    go_enter Tryd.func48, Tryd.ntmps48
    go_wp2
    go_ret
    exact ⟨by first | rfl | (simp; done) | (simp [*]; done), by repeat (first | exact Drawn0.refl _ | apply Drawn0.step)⟩
  · rw [if_neg c4] at H
    have c4b0 : decide ((a0.size : Int) < (wrap64 (a1 + (a2.size : Int)))) = false := decide_eq_false c4
    clear c4
    have H' := Aside0.mk H
    clear H
    go_enter Tryd.func48, Tryd.ntmps48
    go_wp2
    go_loopg [7] k (fun kq v7 w' => ∃ (x7_1 : Int), v7 = .int .i64 x7_1 ∧ Aside0 (spec_isWord.l0 kq a0 a1 a2 x7_1 = some r) ∧ Aside0 (kq ≤ k) ∧ Drawn0 w w')
    case atStart => exact ⟨(0), (by first | rfl | (simp; done) | (simp [*]; done)), H', ⟨Nat.le_refl _⟩, by repeat (first | exact Drawn0.refl _ | apply Drawn0.step)⟩
    case round =>
      clear H'
      try clear p2
      try clear c4
      try clear c4b0
      obtain ⟨x7_1, rfl, HA, HK1, ⟨m1, rfl⟩⟩ := hrel
      cases gk with
      | zero => exact absurd HA.out (by simp [spec_isWord.l0])
      | succ k1 =>
        have H := HA.out
        clear HA
        simp only [spec_isWord.l0] at H
        by_cases c5 : x7_1 < (a2.size : Int)
        · rw [if_pos c5] at H
          have c5b0 : decide (x7_1 < (a2.size : Int)) = true := decide_eq_true c5
          clear c5
          obtain ⟨ji6, hji6⟩ : ∃ j_ : Int, (wrap64 (a1 + x7_1)) = j_ := ⟨_, rfl⟩
          replace H : (if 0 ≤ (ji6) then (if (ji6) < (a0.size : Int) then (if 0 ≤ x7_1 then (if (bt a0 (ji6)) = (bt a2 x7_1) then (spec_isWord.l0 k1 a0 a1 a2 (wrap64 (x7_1 + 1))) else (if (bt a0 (ji6)) = (((((bt a2 x7_1) + 97) % 256) - 65) % 256) then (spec_isWord.l0 k1 a0 a1 a2 (wrap64 (x7_1 + 1))) else (some false))) else (none)) else (none)) else (none)) = some r := by first | (rw [hji6] at H; exact H) | (simp only [hji6] at H ⊢; exact H)
          have hji6w : (IntKind.i64.wrap (a1 + x7_1)) = ji6 := (i64_w _).trans hji6
          by_cases c7 : 0 ≤ (ji6)
          · rw [if_pos c7] at H
            have c7b0 : decide (0 ≤ (ji6)) = true := decide_eq_true c7
            clear c7
            by_cases c8 : (ji6) < (a0.size : Int)
            · rw [if_pos c8] at H
              have c8b0 : decide ((ji6) < (a0.size : Int)) = true := decide_eq_true c8
              clear c8
              by_cases c10 : 0 ≤ x7_1
              · rw [if_pos c10] at H
                have c10b0 : decide (0 ≤ x7_1) = true := decide_eq_true c10
                clear c10
                by_cases c12 : (bt a0 (ji6)) = (bt a2 x7_1)
                · rw [if_pos c12] at H
                  have c12b0 : ((bt a0 (ji6)) == (bt a2 x7_1)) = true := beq_iff_eq.mpr c12
                  have c12b1 : ((bt a0 (ji6)) != (bt a2 x7_1)) = false := bne_eq_false_iff_eq.mpr c12
                  clear c12
                  have H' := Aside0.mk H
                  clear H
                  have p9 : 0 ≤ ((ji6) : Int) := of_decide_eq_true (by first | (with_reducible assumption) | assumption)
                  have q9 : (ji6) < (a0.size : Int) := of_decide_eq_true (by first | (with_reducible assumption) | assumption)
                  have hx9 := bt_at a0 (ji6)
                  replace p9 := eq_true p9
                  replace q9 := eq_true q9
                  have p11 : 0 ≤ (x7_1 : Int) := of_decide_eq_true (by first | (with_reducible assumption) | assumption)
                  have q11 : x7_1 < (a2.size : Int) := of_decide_eq_true (by first | (with_reducible assumption) | assumption)
                  have hx11 := bt_at a2 x7_1
                  replace p11 := eq_true p11
                  replace q11 := eq_true q11
                  go_wp2
                  go_roundg k1
                  case measure => have := HK1.out; omega
                  case rel => exact ⟨(wrap64 (x7_1 + 1)), (by first | rfl | (simp; done) | (simp [*]; done)), H', ⟨by have := HK1.out; omega⟩, by repeat (first | exact Drawn0.refl _ | apply Drawn0.step)⟩
                · rw [if_neg c12] at H
                  have c12b0 : ((bt a0 (ji6)) == (bt a2 x7_1)) = false := beq_eq_false_iff_ne.mpr c12
                  have c12b1 : ((bt a0 (ji6)) != (bt a2 x7_1)) = true := bne_iff_ne.mpr c12
                  by_cases c14 : (bt a0 (ji6)) = (((((bt a2 x7_1) + 97) % 256) - 65) % 256)
                  · rw [if_pos c14] at H
                    have c14b0 : ((bt a0 (ji6)) == (((((bt a2 x7_1) + 97) % 256) - 65) % 256)) = true := beq_iff_eq.mpr c14
                    have c14b1 : ((bt a0 (ji6)) != (((((bt a2 x7_1) + 97) % 256) - 65) % 256)) = false := bne_eq_false_iff_eq.mpr c14
                    clear c14
                    have H' := Aside0.mk H
                    clear H
                    have p9 : 0 ≤ ((ji6) : Int) := of_decide_eq_true (by first | (with_reducible assumption) | assumption)
                    have q9 : (ji6) < (a0.size : Int) := of_decide_eq_true (by first | (with_reducible assumption) | assumption)
                    have hx9 := bt_at a0 (ji6)
                    replace p9 := eq_true p9
                    replace q9 := eq_true q9
                    have p11 : 0 ≤ (x7_1 : Int) := of_decide_eq_true (by first | (with_reducible assumption) | assumption)
                    have q11 : x7_1 < (a2.size : Int) := of_decide_eq_true (by first | (with_reducible assumption) | assumption)
                    have hx11 := bt_at a2 x7_1
                    replace p11 := eq_true p11
                    replace q11 := eq_true q11
                    have p13 : 0 ≤ (x7_1 : Int) := of_decide_eq_true (by first | (with_reducible assumption) | assumption)
                    have q13 : x7_1 < (a2.size : Int) := of_decide_eq_true (by first | (with_reducible assumption) | assumption)
                    have hx13 := bt_at a2 x7_1
                    replace p13 := eq_true p13
                    replace q13 := eq_true q13
                    go_wp2
                    go_roundg k1
                    case measure => have := HK1.out; omega
                    case rel => exact ⟨(wrap64 (x7_1 + 1)), (by first | rfl | (simp; done) | (simp [*]; done)), H', ⟨by have := HK1.out; omega⟩, by repeat (first | exact Drawn0.refl _ | apply Drawn0.step)⟩
                  · rw [if_neg c14] at H
                    have c14b0 : ((bt a0 (ji6)) == (((((bt a2 x7_1) + 97) % 256) - 65) % 256)) = false := beq_eq_false_iff_ne.mpr c14
                    have c14b1 : ((bt a0 (ji6)) != (((((bt a2 x7_1) + 97) % 256) - 65) % 256)) = true := bne_iff_ne.mpr c14
                    obtain rfl := Option.some.inj H
                    have p9 : 0 ≤ ((ji6) : Int) := of_decide_eq_true (by first | (with_reducible assumption) | assumption)
                    have q9 : (ji6) < (a0.size : Int) := of_decide_eq_true (by first | (with_reducible assumption) | assumption)
                    have hx9 := bt_at a0 (ji6)
                    replace p9 := eq_true p9
                    replace q9 := eq_true q9
                    have p11 : 0 ≤ (x7_1 : Int) := of_decide_eq_true (by first | (with_reducible assumption) | assumption)
                    have q11 : x7_1 < (a2.size : Int) := of_decide_eq_true (by first | (with_reducible assumption) | assumption)
                    have hx11 := bt_at a2 x7_1
                    replace p11 := eq_true p11
                    replace q11 := eq_true q11
                    have p13 : 0 ≤ (x7_1 : Int) := of_decide_eq_true (by first | (with_reducible assumption) | assumption)
                    have q13 : x7_1 < (a2.size : Int) := of_decide_eq_true (by first | (with_reducible assumption) | assumption)
                    have hx13 := bt_at a2 x7_1
                    replace p13 := eq_true p13
                    replace q13 := eq_true q13
                    go_wp2
                    go_ret
                    exact ⟨by first | rfl | (simp; done) | (simp only [← hji6] <;> (first | rfl | simp)) | (simp [*]; done), by repeat (first | exact Drawn0.refl _ | apply Drawn0.step)⟩
              · rw [if_neg c10] at H
                exact absurd H (by simp)
            · rw [if_neg c8] at H
              exact absurd H (by simp)
          · rw [if_neg c7] at H
            exact absurd H (by simp)
        · rw [if_neg c5] at H
          have c5b0 : decide (x7_1 < (a2.size : Int)) = false := decide_eq_false c5
          clear c5
          obtain rfl := Option.some.inj H
          go_wp2
          go_ret
          exact ⟨by first | rfl | (simp; done) | (simp [*]; done), by repeat (first | exact Drawn0.refl _ | apply Drawn0.step)⟩

end Go.Proofs.YtnmhoghmhglimaaDoor.QB
-- WRITTEN BY A PROGRAM OF THIS SESSION (wip/print2.py): the print, with contracts of this session's own let in. Not trusted: Lean checks it.
namespace Go.Proofs.YtnmhoghmhglimaaDoor.QB
open Go.RowKit Go.Proofs.YtnmhoghmhglimaaDoorW.PrintWords Go.Proofs.YtnmhoghmhglimaaDoorW.PrintLast Go.Proofs.YtnmhoghmhglimaaDoorW.PrintMore
attribute [local go_sem] max2_int min2_int max_two min_two max_three min_three max_four min_four   -- for this text's walks alone
set_option linter.unusedVariables false
set_option linter.unusedSimpArgs false

/-! ### spec_ValuesAt: function 21 -/
def spec_ValuesAt.l0 : Nat → ByteArray → Int → Option (Int)
  | 0, _, _ => none
  | k + 1, x0, x3 => if x3 < (x0.size : Int) then (if 0 ≤ x3 then (if (bt x0 x3) = 41 then ((spec_spaces.f k x0 (wrap64 (x3 + 1))).bind fun t102 => ((spec_isWord.f k x0 t102 (⟨#[86, 65, 76, 85, 69, 83]⟩ : ByteArray)).bind fun t103 => (if t103 = true then ((spec_spaces.f k x0 (wrap64 (t102 + 6))).bind fun t104 => (if t104 < (x0.size : Int) then (if 0 ≤ t104 then (if (bt x0 t104) = 40 then (some t104) else (spec_ValuesAt.l0 k x0 (wrap64 (x3 + 1)))) else (none)) else (spec_ValuesAt.l0 k x0 (wrap64 (x3 + 1))))) else (spec_ValuesAt.l0 k x0 (wrap64 (x3 + 1)))))) else (spec_ValuesAt.l0 k x0 (wrap64 (x3 + 1)))) else (none)) else (some (-1))
def spec_ValuesAt.f (k : Nat) (a0 : ByteArray) : Option (Int) := spec_ValuesAt.l0 k a0 0
theorem spec_ValuesAt.mono_l : ∀ k, (∀ y0 y1, LeO (spec_ValuesAt.l0 k y0 y1) (spec_ValuesAt.l0 (k + 1) y0 y1))
  | 0 => fun _ _ r h => by simp [spec_ValuesAt.l0] at h
  | k + 1 => by
    have ih0 := spec_ValuesAt.mono_l k
    · intro y0 y1
      unfold spec_ValuesAt.l0
      repeat' first
      | (with_reducible exact ih0 _ _)
      | (with_reducible exact spec_isWord.mono _ _ _ _)
      | (with_reducible exact spec_spaces.mono _ _ _)
      | (with_reducible exact LeO.refl _)
      | (with_reducible exact LeO.none _)
      | (with_reducible refine LeO.ite ?_ ?_)
      | (with_reducible refine LeO.bind ?_ (fun _ => ?_))
      | exact ih0 _ _
      | exact spec_isWord.mono _ _ _ _
      | exact spec_spaces.mono _ _ _
      | exact LeO.none _
      | refine LeO.ite ?_ ?_
      | refine LeO.bind ?_ (fun _ => ?_)
theorem spec_ValuesAt.mono : ∀ a0 k, LeO (spec_ValuesAt.f k a0) (spec_ValuesAt.f (k + 1) a0) := by
  intro a0 k
  have ih0 := spec_ValuesAt.mono_l k
  unfold spec_ValuesAt.f
  repeat' first
      | (with_reducible exact ih0 _ _)
      | (with_reducible exact spec_isWord.mono _ _ _ _)
      | (with_reducible exact spec_spaces.mono _ _ _)
      | (with_reducible exact LeO.refl _)
      | (with_reducible exact LeO.none _)
      | (with_reducible refine LeO.ite ?_ ?_)
      | (with_reducible refine LeO.bind ?_ (fun _ => ?_))
      | exact ih0 _ _
      | exact spec_isWord.mono _ _ _ _
      | exact spec_spaces.mono _ _ _
      | exact LeO.none _
      | refine LeO.ite ?_ ?_
      | refine LeO.bind ?_ (fun _ => ?_)
set_option maxHeartbeats 8000000 in
set_option maxRecDepth 100000 in
theorem spec_ValuesAt.calls (k : Nat) (a0 : ByteArray) (r : Int) (w : World) (h : spec_ValuesAt.f k a0 = some r) :
    Calls Tryd.prog 21 #[.string a0] w fun e w' => e = .returned (.int .i64 r) ∧ Drawn0 w w' := by
  have H : (spec_ValuesAt.l0 k a0 0) = some r := h
  clear h
  have H' := Aside0.mk H
  clear H
  go_enter Tryd.func21, Tryd.ntmps21
  go_wp2
  go_loopg [3] k (fun kq v3 w' => ∃ (x3_1 : Int), v3 = .int .i64 x3_1 ∧ Aside0 (spec_ValuesAt.l0 kq a0 x3_1 = some r) ∧ Aside0 (kq ≤ k) ∧ Drawn0 w w')
  case atStart => exact ⟨(0), (by first | rfl | (simp; done) | (simp [*]; done)), H', ⟨Nat.le_refl _⟩, by repeat (first | exact Drawn0.refl _ | apply Drawn0.step)⟩
  case round =>
    clear H'
    obtain ⟨x3_1, rfl, HA, HK1, ⟨m1, rfl⟩⟩ := hrel
    cases gk with
    | zero => exact absurd HA.out (by simp [spec_ValuesAt.l0])
    | succ k1 =>
      have H := HA.out
      clear HA
      simp only [spec_ValuesAt.l0] at H
      by_cases c2 : x3_1 < (a0.size : Int)
      · rw [if_pos c2] at H
        have c2b0 : decide (x3_1 < (a0.size : Int)) = true := decide_eq_true c2
        clear c2
        by_cases c3 : 0 ≤ x3_1
        · rw [if_pos c3] at H
          have c3b0 : decide (0 ≤ x3_1) = true := decide_eq_true c3
          clear c3
          by_cases c5 : (bt a0 x3_1) = 41
          · rw [if_pos c5] at H
            have c5b0 : ((bt a0 x3_1) == 41) = true := beq_iff_eq.mpr c5
            have c5b1 : ((bt a0 x3_1) != 41) = false := bne_eq_false_iff_eq.mpr c5
            clear c5
            replace H := Option.bind_eq_some_iff.mp H
            obtain ⟨t102, A60, H⟩ := H
            replace H : ((spec_isWord.f k1 a0 t102 (⟨#[86, 65, 76, 85, 69, 83]⟩ : ByteArray)).bind fun t103 => (if t103 = true then ((spec_spaces.f k1 a0 (wrap64 (t102 + 6))).bind fun t104 => (if t104 < (a0.size : Int) then (if 0 ≤ t104 then (if (bt a0 t104) = 40 then (some t104) else (spec_ValuesAt.l0 k1 a0 (wrap64 (x3_1 + 1)))) else (none)) else (spec_ValuesAt.l0 k1 a0 (wrap64 (x3_1 + 1))))) else (spec_ValuesAt.l0 k1 a0 (wrap64 (x3_1 + 1))))) = some r := H
            have A6 := Aside0.mk A60
            clear A60
            replace H := Option.bind_eq_some_iff.mp H
            obtain ⟨t103, A70, H⟩ := H
            replace H : (if t103 = true then ((spec_spaces.f k1 a0 (wrap64 (t102 + 6))).bind fun t104 => (if t104 < (a0.size : Int) then (if 0 ≤ t104 then (if (bt a0 t104) = 40 then (some t104) else (spec_ValuesAt.l0 k1 a0 (wrap64 (x3_1 + 1)))) else (none)) else (spec_ValuesAt.l0 k1 a0 (wrap64 (x3_1 + 1))))) else (spec_ValuesAt.l0 k1 a0 (wrap64 (x3_1 + 1)))) = some r := H
            have A7 := Aside0.mk A70
            clear A70
            by_cases c8 : t103 = true
            · subst c8
              have H1 : ((spec_spaces.f k1 a0 (wrap64 (t102 + 6))).bind fun t104 => (if t104 < (a0.size : Int) then (if 0 ≤ t104 then (if (bt a0 t104) = 40 then (some t104) else (spec_ValuesAt.l0 k1 a0 (wrap64 (x3_1 + 1)))) else (none)) else (spec_ValuesAt.l0 k1 a0 (wrap64 (x3_1 + 1))))) = some r := by rw [if_pos rfl] at H; exact H
              clear H
              have H := H1
              clear H1
              replace H := Option.bind_eq_some_iff.mp H
              obtain ⟨t104, A90, H⟩ := H
              replace H : (if t104 < (a0.size : Int) then (if 0 ≤ t104 then (if (bt a0 t104) = 40 then (some t104) else (spec_ValuesAt.l0 k1 a0 (wrap64 (x3_1 + 1)))) else (none)) else (spec_ValuesAt.l0 k1 a0 (wrap64 (x3_1 + 1)))) = some r := H
              have A9 := Aside0.mk A90
              clear A90
              by_cases c10 : t104 < (a0.size : Int)
              · rw [if_pos c10] at H
                have c10b0 : decide (t104 < (a0.size : Int)) = true := decide_eq_true c10
                clear c10
                by_cases c11 : 0 ≤ t104
                · rw [if_pos c11] at H
                  have c11b0 : decide (0 ≤ t104) = true := decide_eq_true c11
                  clear c11
                  by_cases c13 : (bt a0 t104) = 40
                  · rw [if_pos c13] at H
                    have c13b0 : ((bt a0 t104) == 40) = true := beq_iff_eq.mpr c13
                    have c13b1 : ((bt a0 t104) != 40) = false := bne_eq_false_iff_eq.mpr c13
                    clear c13
                    obtain rfl := Option.some.inj H
                    have p4 : 0 ≤ (x3_1 : Int) := of_decide_eq_true (by first | (with_reducible assumption) | assumption)
                    have q4 : x3_1 < (a0.size : Int) := of_decide_eq_true (by first | (with_reducible assumption) | assumption)
                    have hx4 := bt_at a0 x3_1
                    replace p4 := eq_true p4
                    replace q4 := eq_true q4
                    go_wp2_with (first | ((with_reducible refine gate_callee (f := 47) rfl ?_); refine goesL_ (some 18) rfl rfl Tryd.func47 (by kernel_rfl) rfl #[.string a0, .int .i64 (wrap64 (x3_1 + 1))] rfl (by (try simp only [List.map_toArray, List.map_cons, List.map_nil]); first | done | rfl | (simp only [List.length_drop, List.length_take]; rfl)) ?_; (with_reducible refine (spec_spaces.calls k1 a0 (wrap64 (x3_1 + 1)) t102 _ A6.out).mono ?_); rintro e w' ⟨rfl, ⟨nd, rfl⟩⟩; refine ⟨_, rfl, ?_⟩) | ((with_reducible refine gate_callee (f := 48) rfl ?_); refine goesL_ (some 21) rfl rfl Tryd.func48 (by kernel_rfl) rfl #[.string a0, .int .i64 t102, .string (⟨#[86, 65, 76, 85, 69, 83]⟩ : ByteArray)] rfl (by (try simp only [List.map_toArray, List.map_cons, List.map_nil]); first | done | rfl | (simp only [List.length_drop, List.length_take]; rfl)) ?_; (with_reducible refine (spec_isWord.calls k1 a0 t102 (⟨#[86, 65, 76, 85, 69, 83]⟩ : ByteArray) true _ A7.out).mono ?_); rintro e w' ⟨rfl, ⟨nd, rfl⟩⟩; refine ⟨_, rfl, ?_⟩) | ((with_reducible refine gate_callee (f := 47) rfl ?_); refine goesL_ (some 26) rfl rfl Tryd.func47 (by kernel_rfl) rfl #[.string a0, .int .i64 (wrap64 (t102 + 6))] rfl (by (try simp only [List.map_toArray, List.map_cons, List.map_nil]); first | done | rfl | (simp only [List.length_drop, List.length_take]; rfl)) ?_; (with_reducible refine (spec_spaces.calls k1 a0 (wrap64 (t102 + 6)) t104 _ A9.out).mono ?_); rintro e w' ⟨rfl, ⟨nd, rfl⟩⟩; refine ⟨_, rfl, ?_⟩; have p12 : 0 ≤ (t104 : Int) := of_decide_eq_true (by first | (with_reducible assumption) | assumption); have q12 : t104 < (a0.size : Int) := of_decide_eq_true (by first | (with_reducible assumption) | assumption); have hx12 := bt_at a0 t104; replace p12 := eq_true p12; replace q12 := eq_true q12))
                    go_ret
                    exact ⟨by first | rfl | (simp; done) | (simp [*]; done), by repeat (first | exact Drawn0.refl _ | apply Drawn0.step)⟩
                  · rw [if_neg c13] at H
                    have c13b0 : ((bt a0 t104) == 40) = false := beq_eq_false_iff_ne.mpr c13
                    have c13b1 : ((bt a0 t104) != 40) = true := bne_iff_ne.mpr c13
                    have H' := Aside0.mk H
                    clear H
                    have p4 : 0 ≤ (x3_1 : Int) := of_decide_eq_true (by first | (with_reducible assumption) | assumption)
                    have q4 : x3_1 < (a0.size : Int) := of_decide_eq_true (by first | (with_reducible assumption) | assumption)
                    have hx4 := bt_at a0 x3_1
                    replace p4 := eq_true p4
                    replace q4 := eq_true q4
                    go_wp2_with (first | ((with_reducible refine gate_callee (f := 47) rfl ?_); refine goesL_ (some 18) rfl rfl Tryd.func47 (by kernel_rfl) rfl #[.string a0, .int .i64 (wrap64 (x3_1 + 1))] rfl (by (try simp only [List.map_toArray, List.map_cons, List.map_nil]); first | done | rfl | (simp only [List.length_drop, List.length_take]; rfl)) ?_; (with_reducible refine (spec_spaces.calls k1 a0 (wrap64 (x3_1 + 1)) t102 _ A6.out).mono ?_); rintro e w' ⟨rfl, ⟨nd, rfl⟩⟩; refine ⟨_, rfl, ?_⟩) | ((with_reducible refine gate_callee (f := 48) rfl ?_); refine goesL_ (some 21) rfl rfl Tryd.func48 (by kernel_rfl) rfl #[.string a0, .int .i64 t102, .string (⟨#[86, 65, 76, 85, 69, 83]⟩ : ByteArray)] rfl (by (try simp only [List.map_toArray, List.map_cons, List.map_nil]); first | done | rfl | (simp only [List.length_drop, List.length_take]; rfl)) ?_; (with_reducible refine (spec_isWord.calls k1 a0 t102 (⟨#[86, 65, 76, 85, 69, 83]⟩ : ByteArray) true _ A7.out).mono ?_); rintro e w' ⟨rfl, ⟨nd, rfl⟩⟩; refine ⟨_, rfl, ?_⟩) | ((with_reducible refine gate_callee (f := 47) rfl ?_); refine goesL_ (some 26) rfl rfl Tryd.func47 (by kernel_rfl) rfl #[.string a0, .int .i64 (wrap64 (t102 + 6))] rfl (by (try simp only [List.map_toArray, List.map_cons, List.map_nil]); first | done | rfl | (simp only [List.length_drop, List.length_take]; rfl)) ?_; (with_reducible refine (spec_spaces.calls k1 a0 (wrap64 (t102 + 6)) t104 _ A9.out).mono ?_); rintro e w' ⟨rfl, ⟨nd, rfl⟩⟩; refine ⟨_, rfl, ?_⟩; have p12 : 0 ≤ (t104 : Int) := of_decide_eq_true (by first | (with_reducible assumption) | assumption); have q12 : t104 < (a0.size : Int) := of_decide_eq_true (by first | (with_reducible assumption) | assumption); have hx12 := bt_at a0 t104; replace p12 := eq_true p12; replace q12 := eq_true q12))
                    go_roundg k1
                    case measure => have := HK1.out; omega
                    case rel => exact ⟨(wrap64 (x3_1 + 1)), (by first | rfl | (simp; done) | (simp [*]; done)), H', ⟨by have := HK1.out; omega⟩, by repeat (first | exact Drawn0.refl _ | apply Drawn0.step)⟩
                · rw [if_neg c11] at H
                  exact absurd H (by simp)
              · rw [if_neg c10] at H
                have c10b0 : decide (t104 < (a0.size : Int)) = false := decide_eq_false c10
                clear c10
                have H' := Aside0.mk H
                clear H
                have p4 : 0 ≤ (x3_1 : Int) := of_decide_eq_true (by first | (with_reducible assumption) | assumption)
                have q4 : x3_1 < (a0.size : Int) := of_decide_eq_true (by first | (with_reducible assumption) | assumption)
                have hx4 := bt_at a0 x3_1
                replace p4 := eq_true p4
                replace q4 := eq_true q4
                go_wp2_with (first | ((with_reducible refine gate_callee (f := 47) rfl ?_); refine goesL_ (some 18) rfl rfl Tryd.func47 (by kernel_rfl) rfl #[.string a0, .int .i64 (wrap64 (x3_1 + 1))] rfl (by (try simp only [List.map_toArray, List.map_cons, List.map_nil]); first | done | rfl | (simp only [List.length_drop, List.length_take]; rfl)) ?_; (with_reducible refine (spec_spaces.calls k1 a0 (wrap64 (x3_1 + 1)) t102 _ A6.out).mono ?_); rintro e w' ⟨rfl, ⟨nd, rfl⟩⟩; refine ⟨_, rfl, ?_⟩) | ((with_reducible refine gate_callee (f := 48) rfl ?_); refine goesL_ (some 21) rfl rfl Tryd.func48 (by kernel_rfl) rfl #[.string a0, .int .i64 t102, .string (⟨#[86, 65, 76, 85, 69, 83]⟩ : ByteArray)] rfl (by (try simp only [List.map_toArray, List.map_cons, List.map_nil]); first | done | rfl | (simp only [List.length_drop, List.length_take]; rfl)) ?_; (with_reducible refine (spec_isWord.calls k1 a0 t102 (⟨#[86, 65, 76, 85, 69, 83]⟩ : ByteArray) true _ A7.out).mono ?_); rintro e w' ⟨rfl, ⟨nd, rfl⟩⟩; refine ⟨_, rfl, ?_⟩) | ((with_reducible refine gate_callee (f := 47) rfl ?_); refine goesL_ (some 26) rfl rfl Tryd.func47 (by kernel_rfl) rfl #[.string a0, .int .i64 (wrap64 (t102 + 6))] rfl (by (try simp only [List.map_toArray, List.map_cons, List.map_nil]); first | done | rfl | (simp only [List.length_drop, List.length_take]; rfl)) ?_; (with_reducible refine (spec_spaces.calls k1 a0 (wrap64 (t102 + 6)) t104 _ A9.out).mono ?_); rintro e w' ⟨rfl, ⟨nd, rfl⟩⟩; refine ⟨_, rfl, ?_⟩))
                go_roundg k1
                case measure => have := HK1.out; omega
                case rel => exact ⟨(wrap64 (x3_1 + 1)), (by first | rfl | (simp; done) | (simp [*]; done)), H', ⟨by have := HK1.out; omega⟩, by repeat (first | exact Drawn0.refl _ | apply Drawn0.step)⟩
            · replace c8 := Bool.eq_false_iff.mpr c8
              subst c8
              have H1 : (spec_ValuesAt.l0 k1 a0 (wrap64 (x3_1 + 1))) = some r := by rw [if_neg (show ¬ (false = true) by decide)] at H; exact H
              clear H
              have H := H1
              clear H1
              have H' := Aside0.mk H
              clear H
              have p4 : 0 ≤ (x3_1 : Int) := of_decide_eq_true (by first | (with_reducible assumption) | assumption)
              have q4 : x3_1 < (a0.size : Int) := of_decide_eq_true (by first | (with_reducible assumption) | assumption)
              have hx4 := bt_at a0 x3_1
              replace p4 := eq_true p4
              replace q4 := eq_true q4
              go_wp2_with (first | ((with_reducible refine gate_callee (f := 47) rfl ?_); refine goesL_ (some 18) rfl rfl Tryd.func47 (by kernel_rfl) rfl #[.string a0, .int .i64 (wrap64 (x3_1 + 1))] rfl (by (try simp only [List.map_toArray, List.map_cons, List.map_nil]); first | done | rfl | (simp only [List.length_drop, List.length_take]; rfl)) ?_; (with_reducible refine (spec_spaces.calls k1 a0 (wrap64 (x3_1 + 1)) t102 _ A6.out).mono ?_); rintro e w' ⟨rfl, ⟨nd, rfl⟩⟩; refine ⟨_, rfl, ?_⟩) | ((with_reducible refine gate_callee (f := 48) rfl ?_); refine goesL_ (some 21) rfl rfl Tryd.func48 (by kernel_rfl) rfl #[.string a0, .int .i64 t102, .string (⟨#[86, 65, 76, 85, 69, 83]⟩ : ByteArray)] rfl (by (try simp only [List.map_toArray, List.map_cons, List.map_nil]); first | done | rfl | (simp only [List.length_drop, List.length_take]; rfl)) ?_; (with_reducible refine (spec_isWord.calls k1 a0 t102 (⟨#[86, 65, 76, 85, 69, 83]⟩ : ByteArray) false _ A7.out).mono ?_); rintro e w' ⟨rfl, ⟨nd, rfl⟩⟩; refine ⟨_, rfl, ?_⟩))
              go_roundg k1
              case measure => have := HK1.out; omega
              case rel => exact ⟨(wrap64 (x3_1 + 1)), (by first | rfl | (simp; done) | (simp [*]; done)), H', ⟨by have := HK1.out; omega⟩, by repeat (first | exact Drawn0.refl _ | apply Drawn0.step)⟩
          · rw [if_neg c5] at H
            have c5b0 : ((bt a0 x3_1) == 41) = false := beq_eq_false_iff_ne.mpr c5
            have c5b1 : ((bt a0 x3_1) != 41) = true := bne_iff_ne.mpr c5
            have H' := Aside0.mk H
            clear H
            have p4 : 0 ≤ (x3_1 : Int) := of_decide_eq_true (by first | (with_reducible assumption) | assumption)
            have q4 : x3_1 < (a0.size : Int) := of_decide_eq_true (by first | (with_reducible assumption) | assumption)
            have hx4 := bt_at a0 x3_1
            replace p4 := eq_true p4
            replace q4 := eq_true q4
            go_wp2
            go_roundg k1
            case measure => have := HK1.out; omega
            case rel => exact ⟨(wrap64 (x3_1 + 1)), (by first | rfl | (simp; done) | (simp [*]; done)), H', ⟨by have := HK1.out; omega⟩, by repeat (first | exact Drawn0.refl _ | apply Drawn0.step)⟩
        · rw [if_neg c3] at H
          exact absurd H (by simp)
      · rw [if_neg c2] at H
        have c2b0 : decide (x3_1 < (a0.size : Int)) = false := decide_eq_false c2
        clear c2
        obtain rfl := Option.some.inj H
        go_wp2
        go_ret
        exact ⟨by first | rfl | (simp; done) | (simp [*]; done), by repeat (first | exact Drawn0.refl _ | apply Drawn0.step)⟩

/-! ### spec_Closing: function 22 -/
def spec_Closing.l0 : Nat → ByteArray → Int → Int → Option (Int)
  | 0, _, _, _ => none
  | k + 1, x0, x5, x6 => if x6 < (x0.size : Int) then (if 0 ≤ x6 then (if (bt x0 x6) = 40 then (spec_Closing.l0 k x0 (wrap64 (x5 + 1)) (wrap64 (x6 + 1))) else (if (bt x0 x6) = 41 then (if (wrap64 (x5 - 1)) = 0 then (some x6) else (spec_Closing.l0 k x0 (wrap64 (x5 - 1)) (wrap64 (x6 + 1)))) else (spec_Closing.l0 k x0 x5 (wrap64 (x6 + 1))))) else (none)) else (some (-1))
def spec_Closing.f (k : Nat) (a0 : ByteArray) (a1 : Int) : Option (Int) := spec_Closing.l0 k a0 0 a1
theorem spec_Closing.mono_l : ∀ k, (∀ y0 y1 y2, LeO (spec_Closing.l0 k y0 y1 y2) (spec_Closing.l0 (k + 1) y0 y1 y2))
  | 0 => fun _ _ _ r h => by simp [spec_Closing.l0] at h
  | k + 1 => by
    have ih0 := spec_Closing.mono_l k
    · intro y0 y1 y2
      unfold spec_Closing.l0
      repeat' first
      | (with_reducible exact ih0 _ _ _)
      | (with_reducible exact LeO.refl _)
      | (with_reducible exact LeO.none _)
      | (with_reducible refine LeO.ite ?_ ?_)
      | (with_reducible refine LeO.bind ?_ (fun _ => ?_))
      | exact ih0 _ _ _
      | exact LeO.none _
      | refine LeO.ite ?_ ?_
      | refine LeO.bind ?_ (fun _ => ?_)
theorem spec_Closing.mono : ∀ a0 a1 k, LeO (spec_Closing.f k a0 a1) (spec_Closing.f (k + 1) a0 a1) := by
  intro a0 a1 k
  have ih0 := spec_Closing.mono_l k
  unfold spec_Closing.f
  repeat' first
      | (with_reducible exact ih0 _ _ _)
      | (with_reducible exact LeO.refl _)
      | (with_reducible exact LeO.none _)
      | (with_reducible refine LeO.ite ?_ ?_)
      | (with_reducible refine LeO.bind ?_ (fun _ => ?_))
      | exact ih0 _ _ _
      | exact LeO.none _
      | refine LeO.ite ?_ ?_
      | refine LeO.bind ?_ (fun _ => ?_)
set_option maxHeartbeats 8000000 in
set_option maxRecDepth 100000 in
theorem spec_Closing.calls (k : Nat) (a0 : ByteArray) (a1 : Int) (r : Int) (w : World) (h : spec_Closing.f k a0 a1 = some r) :
    Calls Tryd.prog 22 #[.string a0, .int .i64 a1] w fun e w' => e = .returned (.int .i64 r) ∧ Drawn0 w w' := by
  have H : (spec_Closing.l0 k a0 0 a1) = some r := h
  clear h
  have H' := Aside0.mk H
  clear H
  go_enter Tryd.func22, Tryd.ntmps22
  go_wp2
  go_loopg [5, 6] k (fun kq v5 v6 w' => ∃ (x5_1 : Int) (x6_1 : Int), v5 = .int .i64 x5_1 ∧ v6 = .int .i64 x6_1 ∧ Aside0 (spec_Closing.l0 kq a0 x5_1 x6_1 = some r) ∧ Aside0 (kq ≤ k) ∧ Drawn0 w w')
  case atStart => exact ⟨(0), (a1), (by first | rfl | (simp; done) | (simp [*]; done)), (by first | rfl | (simp; done) | (simp [*]; done)), H', ⟨Nat.le_refl _⟩, by repeat (first | exact Drawn0.refl _ | apply Drawn0.step)⟩
  case round =>
    clear H'
    try clear c2
    try clear p2
    obtain ⟨x5_1, x6_1, rfl, rfl, HA, HK1, ⟨m1, rfl⟩⟩ := hrel
    cases gk with
    | zero => exact absurd HA.out (by simp [spec_Closing.l0])
    | succ k1 =>
      have H := HA.out
      clear HA
      simp only [spec_Closing.l0] at H
      by_cases c3 : x6_1 < (a0.size : Int)
      · rw [if_pos c3] at H
        have c3b0 : decide (x6_1 < (a0.size : Int)) = true := decide_eq_true c3
        clear c3
        by_cases c4 : 0 ≤ x6_1
        · rw [if_pos c4] at H
          have c4b0 : decide (0 ≤ x6_1) = true := decide_eq_true c4
          clear c4
          by_cases c6 : (bt a0 x6_1) = 40
          · rw [if_pos c6] at H
            have c6b0 : ((bt a0 x6_1) == 40) = true := beq_iff_eq.mpr c6
            have c6b1 : ((bt a0 x6_1) != 40) = false := bne_eq_false_iff_eq.mpr c6
            clear c6
            have H' := Aside0.mk H
            clear H
            have p5 : 0 ≤ (x6_1 : Int) := of_decide_eq_true (by first | (with_reducible assumption) | assumption)
            have q5 : x6_1 < (a0.size : Int) := of_decide_eq_true (by first | (with_reducible assumption) | assumption)
            have hx5 := bt_at a0 x6_1
            replace p5 := eq_true p5
            replace q5 := eq_true q5
            go_wp2
            go_roundg k1
            case measure => have := HK1.out; omega
            case rel => exact ⟨(wrap64 (x5_1 + 1)), (wrap64 (x6_1 + 1)), (by first | rfl | (simp; done) | (simp [*]; done)), (by first | rfl | (simp; done) | (simp [*]; done)), H', ⟨by have := HK1.out; omega⟩, by repeat (first | exact Drawn0.refl _ | apply Drawn0.step)⟩
          · rw [if_neg c6] at H
            have c6b0 : ((bt a0 x6_1) == 40) = false := beq_eq_false_iff_ne.mpr c6
            have c6b1 : ((bt a0 x6_1) != 40) = true := bne_iff_ne.mpr c6
            by_cases c7 : (bt a0 x6_1) = 41
            · rw [if_pos c7] at H
              have c7b0 : ((bt a0 x6_1) == 41) = true := beq_iff_eq.mpr c7
              have c7b1 : ((bt a0 x6_1) != 41) = false := bne_eq_false_iff_eq.mpr c7
              clear c7
              by_cases c8 : (wrap64 (x5_1 - 1)) = 0
              · rw [if_pos c8] at H
                have c8b0 : ((wrap64 (x5_1 - 1)) == 0) = true := beq_iff_eq.mpr c8
                have c8b1 : ((wrap64 (x5_1 - 1)) != 0) = false := bne_eq_false_iff_eq.mpr c8
                clear c8
                obtain rfl := Option.some.inj H
                have p5 : 0 ≤ (x6_1 : Int) := of_decide_eq_true (by first | (with_reducible assumption) | assumption)
                have q5 : x6_1 < (a0.size : Int) := of_decide_eq_true (by first | (with_reducible assumption) | assumption)
                have hx5 := bt_at a0 x6_1
                replace p5 := eq_true p5
                replace q5 := eq_true q5
                go_wp2
                go_ret
                exact ⟨by first | rfl | (simp; done) | (simp [*]; done), by repeat (first | exact Drawn0.refl _ | apply Drawn0.step)⟩
              · rw [if_neg c8] at H
                have c8b0 : ((wrap64 (x5_1 - 1)) == 0) = false := beq_eq_false_iff_ne.mpr c8
                have c8b1 : ((wrap64 (x5_1 - 1)) != 0) = true := bne_iff_ne.mpr c8
                have H' := Aside0.mk H
                clear H
                have p5 : 0 ≤ (x6_1 : Int) := of_decide_eq_true (by first | (with_reducible assumption) | assumption)
                have q5 : x6_1 < (a0.size : Int) := of_decide_eq_true (by first | (with_reducible assumption) | assumption)
                have hx5 := bt_at a0 x6_1
                replace p5 := eq_true p5
                replace q5 := eq_true q5
                go_wp2
                go_roundg k1
                case measure => have := HK1.out; omega
                case rel => exact ⟨(wrap64 (x5_1 - 1)), (wrap64 (x6_1 + 1)), (by first | rfl | (simp; done) | (simp [*]; done)), (by first | rfl | (simp; done) | (simp [*]; done)), H', ⟨by have := HK1.out; omega⟩, by repeat (first | exact Drawn0.refl _ | apply Drawn0.step)⟩
            · rw [if_neg c7] at H
              have c7b0 : ((bt a0 x6_1) == 41) = false := beq_eq_false_iff_ne.mpr c7
              have c7b1 : ((bt a0 x6_1) != 41) = true := bne_iff_ne.mpr c7
              have H' := Aside0.mk H
              clear H
              have p5 : 0 ≤ (x6_1 : Int) := of_decide_eq_true (by first | (with_reducible assumption) | assumption)
              have q5 : x6_1 < (a0.size : Int) := of_decide_eq_true (by first | (with_reducible assumption) | assumption)
              have hx5 := bt_at a0 x6_1
              replace p5 := eq_true p5
              replace q5 := eq_true q5
              go_wp2
              go_roundg k1
              case measure => have := HK1.out; omega
              case rel => exact ⟨(x5_1), (wrap64 (x6_1 + 1)), (by first | rfl | (simp; done) | (simp [*]; done)), (by first | rfl | (simp; done) | (simp [*]; done)), H', ⟨by have := HK1.out; omega⟩, by repeat (first | exact Drawn0.refl _ | apply Drawn0.step)⟩
        · rw [if_neg c4] at H
          exact absurd H (by simp)
      · rw [if_neg c3] at H
        have c3b0 : decide (x6_1 < (a0.size : Int)) = false := decide_eq_false c3
        clear c3
        obtain rfl := Option.some.inj H
        go_wp2
        go_ret
        exact ⟨by first | rfl | (simp; done) | (simp [*]; done), by repeat (first | exact Drawn0.refl _ | apply Drawn0.step)⟩

end Go.Proofs.YtnmhoghmhglimaaDoor.QB
-- WRITTEN BY A PROGRAM OF THIS SESSION (wip/print2.py): the print, with contracts of this session's own let in. Not trusted: Lean checks it.
namespace Go.Proofs.YtnmhoghmhglimaaDoor.QB
open Go.RowKit Go.Proofs.YtnmhoghmhglimaaDoorW.PrintWords Go.Proofs.YtnmhoghmhglimaaDoorW.PrintLast Go.Proofs.YtnmhoghmhglimaaDoorW.PrintMore
attribute [local go_sem] max2_int min2_int max_two min_two max_three min_three max_four min_four   -- for this text's walks alone
set_option linter.unusedVariables false
set_option linter.unusedSimpArgs false

/-! ### spec_LongS: function 18 -/
def spec_LongS.l0 : Nat → ByteArray → Int → Option (Bool)
  | 0, _, _ => none
  | k + 1, x0, x3 => if (wrap64 (x3 + 1)) < (x0.size : Int) then (if 0 ≤ x3 then (if x3 < (x0.size : Int) then (if (bt x0 x3) = 197 then (if 0 ≤ (wrap64 (x3 + 1)) then (if (bt x0 (wrap64 (x3 + 1))) = 191 then (some true) else (spec_LongS.l0 k x0 (wrap64 (x3 + 1)))) else (none)) else (spec_LongS.l0 k x0 (wrap64 (x3 + 1)))) else (none)) else (none)) else (some false)
def spec_LongS.f (k : Nat) (a0 : ByteArray) : Option (Bool) := spec_LongS.l0 k a0 0
theorem spec_LongS.mono_l : ∀ k, (∀ y0 y1, LeO (spec_LongS.l0 k y0 y1) (spec_LongS.l0 (k + 1) y0 y1))
  | 0 => fun _ _ r h => by simp [spec_LongS.l0] at h
  | k + 1 => by
    have ih0 := spec_LongS.mono_l k
    · intro y0 y1
      unfold spec_LongS.l0
      repeat' first
      | (with_reducible exact ih0 _ _)
      | (with_reducible exact LeO.refl _)
      | (with_reducible exact LeO.none _)
      | (with_reducible refine LeO.ite ?_ ?_)
      | (with_reducible refine LeO.bind ?_ (fun _ => ?_))
      | exact ih0 _ _
      | exact LeO.none _
      | refine LeO.ite ?_ ?_
      | refine LeO.bind ?_ (fun _ => ?_)
theorem spec_LongS.mono : ∀ a0 k, LeO (spec_LongS.f k a0) (spec_LongS.f (k + 1) a0) := by
  intro a0 k
  have ih0 := spec_LongS.mono_l k
  unfold spec_LongS.f
  repeat' first
      | (with_reducible exact ih0 _ _)
      | (with_reducible exact LeO.refl _)
      | (with_reducible exact LeO.none _)
      | (with_reducible refine LeO.ite ?_ ?_)
      | (with_reducible refine LeO.bind ?_ (fun _ => ?_))
      | exact ih0 _ _
      | exact LeO.none _
      | refine LeO.ite ?_ ?_
      | refine LeO.bind ?_ (fun _ => ?_)
set_option maxHeartbeats 8000000 in
set_option maxRecDepth 100000 in
theorem spec_LongS.calls (k : Nat) (a0 : ByteArray) (r : Bool) (w : World) (h : spec_LongS.f k a0 = some r) :
    Calls Tryd.prog 18 #[.string a0] w fun e w' => e = .returned (.bool r) ∧ Drawn0 w w' := by
  have H : (spec_LongS.l0 k a0 0) = some r := h
  clear h
  have H' := Aside0.mk H
  clear H
  go_enter Tryd.func18, Tryd.ntmps18
  go_wp2
  go_loopg [3] k (fun kq v3 w' => ∃ (x3_1 : Int), v3 = .int .i64 x3_1 ∧ Aside0 (spec_LongS.l0 kq a0 x3_1 = some r) ∧ Aside0 (kq ≤ k) ∧ Drawn0 w w')
  case atStart => exact ⟨(0), (by first | rfl | (simp; done) | (simp [*]; done)), H', ⟨Nat.le_refl _⟩, by repeat (first | exact Drawn0.refl _ | apply Drawn0.step)⟩
  case round =>
    clear H'
    try clear c1
    obtain ⟨x3_1, rfl, HA, HK1, ⟨m1, rfl⟩⟩ := hrel
    cases gk with
    | zero => exact absurd HA.out (by simp [spec_LongS.l0])
    | succ k1 =>
      have H := HA.out
      clear HA
      simp only [spec_LongS.l0] at H
      by_cases c2 : (wrap64 (x3_1 + 1)) < (a0.size : Int)
      · rw [if_pos c2] at H
        have c2b0 : decide ((wrap64 (x3_1 + 1)) < (a0.size : Int)) = true := decide_eq_true c2
        clear c2
        by_cases c3 : 0 ≤ x3_1
        · rw [if_pos c3] at H
          have c3b0 : decide (0 ≤ x3_1) = true := decide_eq_true c3
          clear c3
          by_cases c4 : x3_1 < (a0.size : Int)
          · rw [if_pos c4] at H
            have c4b0 : decide (x3_1 < (a0.size : Int)) = true := decide_eq_true c4
            clear c4
            by_cases c6 : (bt a0 x3_1) = 197
            · rw [if_pos c6] at H
              have c6b0 : ((bt a0 x3_1) == 197) = true := beq_iff_eq.mpr c6
              have c6b1 : ((bt a0 x3_1) != 197) = false := bne_eq_false_iff_eq.mpr c6
              clear c6
              obtain ⟨ji7, hji7⟩ : ∃ j_ : Int, (wrap64 (x3_1 + 1)) = j_ := ⟨_, rfl⟩
              replace H : (if 0 ≤ (ji7) then (if (bt a0 (ji7)) = 191 then (some true) else (spec_LongS.l0 k1 a0 ji7)) else (none)) = some r := by first | (rw [hji7] at H; exact H) | (simp only [hji7] at H ⊢; exact H)
              (try rw [hji7] at c2b0)
              have hji7w : (IntKind.i64.wrap (x3_1 + 1)) = ji7 := (i64_w _).trans hji7
              by_cases c8 : 0 ≤ (ji7)
              · rw [if_pos c8] at H
                have c8b0 : decide (0 ≤ (ji7)) = true := decide_eq_true c8
                clear c8
                by_cases c10 : (bt a0 (ji7)) = 191
                · rw [if_pos c10] at H
                  have c10b0 : ((bt a0 (ji7)) == 191) = true := beq_iff_eq.mpr c10
                  have c10b1 : ((bt a0 (ji7)) != 191) = false := bne_eq_false_iff_eq.mpr c10
                  clear c10
                  obtain rfl := Option.some.inj H
                  have p5 : 0 ≤ (x3_1 : Int) := of_decide_eq_true (by first | (with_reducible assumption) | assumption)
                  have q5 : x3_1 < (a0.size : Int) := of_decide_eq_true (by first | (with_reducible assumption) | assumption)
                  have hx5 := bt_at a0 x3_1
                  replace p5 := eq_true p5
                  replace q5 := eq_true q5
                  have p9 : 0 ≤ ((ji7) : Int) := of_decide_eq_true (by first | (with_reducible assumption) | assumption)
                  have q9 : (ji7) < (a0.size : Int) := of_decide_eq_true (by first | (with_reducible assumption) | assumption)
                  have hx9 := bt_at a0 (ji7)
                  replace p9 := eq_true p9
                  replace q9 := eq_true q9
                  go_wp2
                  go_ret
                  exact ⟨by first | rfl | (simp; done) | (simp only [← hji7] <;> (first | rfl | simp)) | (simp [*]; done), by repeat (first | exact Drawn0.refl _ | apply Drawn0.step)⟩
                · rw [if_neg c10] at H
                  have c10b0 : ((bt a0 (ji7)) == 191) = false := beq_eq_false_iff_ne.mpr c10
                  have c10b1 : ((bt a0 (ji7)) != 191) = true := bne_iff_ne.mpr c10
                  have H' := Aside0.mk H
                  clear H
                  have p5 : 0 ≤ (x3_1 : Int) := of_decide_eq_true (by first | (with_reducible assumption) | assumption)
                  have q5 : x3_1 < (a0.size : Int) := of_decide_eq_true (by first | (with_reducible assumption) | assumption)
                  have hx5 := bt_at a0 x3_1
                  replace p5 := eq_true p5
                  replace q5 := eq_true q5
                  have p9 : 0 ≤ ((ji7) : Int) := of_decide_eq_true (by first | (with_reducible assumption) | assumption)
                  have q9 : (ji7) < (a0.size : Int) := of_decide_eq_true (by first | (with_reducible assumption) | assumption)
                  have hx9 := bt_at a0 (ji7)
                  replace p9 := eq_true p9
                  replace q9 := eq_true q9
                  go_wp2
                  go_roundg k1
                  case measure => have := HK1.out; omega
                  case rel => exact ⟨(ji7), (by first | rfl | (simp; done) | (simp only [← hji7] <;> (first | rfl | simp)) | (simp [*]; done)), H', ⟨by have := HK1.out; omega⟩, by repeat (first | exact Drawn0.refl _ | apply Drawn0.step)⟩
              · rw [if_neg c8] at H
                exact absurd H (by simp)
            · rw [if_neg c6] at H
              have c6b0 : ((bt a0 x3_1) == 197) = false := beq_eq_false_iff_ne.mpr c6
              have c6b1 : ((bt a0 x3_1) != 197) = true := bne_iff_ne.mpr c6
              have H' := Aside0.mk H
              clear H
              have p5 : 0 ≤ (x3_1 : Int) := of_decide_eq_true (by first | (with_reducible assumption) | assumption)
              have q5 : x3_1 < (a0.size : Int) := of_decide_eq_true (by first | (with_reducible assumption) | assumption)
              have hx5 := bt_at a0 x3_1
              replace p5 := eq_true p5
              replace q5 := eq_true q5
              go_wp2
              go_roundg k1
              case measure => have := HK1.out; omega
              case rel => exact ⟨(wrap64 (x3_1 + 1)), (by first | rfl | (simp; done) | (simp [*]; done)), H', ⟨by have := HK1.out; omega⟩, by repeat (first | exact Drawn0.refl _ | apply Drawn0.step)⟩
          · rw [if_neg c4] at H
            exact absurd H (by simp)
        · rw [if_neg c3] at H
          exact absurd H (by simp)
      · rw [if_neg c2] at H
        have c2b0 : decide ((wrap64 (x3_1 + 1)) < (a0.size : Int)) = false := decide_eq_false c2
        clear c2
        obtain rfl := Option.some.inj H
        go_wp2
        go_ret
        exact ⟨by first | rfl | (simp; done) | (simp [*]; done), by repeat (first | exact Drawn0.refl _ | apply Drawn0.step)⟩

/-- THE ONE PURE STATEMENT of spec_LongS: yours. -/
def spec_LongS.Pure : Prop := ∀ (a0 : ByteArray), a0.size ≤ 140737488351232 → ∃ k, spec_LongS.f k a0 = some true
end Go.Proofs.YtnmhoghmhglimaaDoor.QB
-- WRITTEN BY A PROGRAM OF THIS SESSION (wip/print2.py): the print, with contracts of this session's own let in. Not trusted: Lean checks it.
namespace Go.Proofs.YtnmhoghmhglimaaDoor.QL
open Go.RowKit Go.Proofs.YtnmhoghmhglimaaDoorW.PrintWords Go.Proofs.YtnmhoghmhglimaaDoorW.PrintLast Go.Proofs.YtnmhoghmhglimaaDoorW.PrintMore
attribute [local go_sem] max2_int min2_int max_two min_two max_three min_three max_four min_four   -- for this text's walks alone
set_option linter.unusedVariables false
set_option linter.unusedSimpArgs false



def errW : Option Int → Value
  | none => .nilIface
  | some c => .iface 0 (.int .i64 c)
theorem errW_none : errW none = .nilIface := rfl
theorem errW_some (c : Int) : errW (some c) = .iface 0 (.int .i64 c) := rfl

-- the values' own types

end Go.Proofs.YtnmhoghmhglimaaDoor.QL
-- WRITTEN BY A PROGRAM OF THIS SESSION (wip/print2.py): the print, with contracts of this session's own let in. Not trusted: Lean checks it.
namespace Go.Proofs.YtnmhoghmhglimaaDoor.QL
open Go.RowKit Go.Proofs.YtnmhoghmhglimaaDoorW.PrintWords Go.Proofs.YtnmhoghmhglimaaDoorW.PrintLast Go.Proofs.YtnmhoghmhglimaaDoorW.PrintMore
attribute [local go_sem] max2_int min2_int max_two min_two max_three min_three max_four min_four   -- for this text's walks alone
set_option linter.unusedVariables false
set_option linter.unusedSimpArgs false

/-! ### sqlx_zzAllowed: function 83 -/
def sqlx_zzAllowed.f (a0 : Int) : Option (Bool) := if a0 ≥ 97 then (if a0 ≤ 122 then (some true) else (if a0 ≥ 65 then (if a0 ≤ 90 then (some true) else (if a0 ≥ 48 then (if a0 ≤ 57 then (some true) else (if a0 = 170 then (some true) else (if a0 = 181 then (some true) else (if a0 = 186 then (some true) else (if a0 ≥ 192 then (if a0 = 215 then (some false) else (some (a0 != 247))) else (some false)))))) else (if a0 = 170 then (some true) else (if a0 = 181 then (some true) else (if a0 = 186 then (some true) else (if a0 ≥ 192 then (if a0 = 215 then (some false) else (some (a0 != 247))) else (some false))))))) else (if a0 ≥ 48 then (if a0 ≤ 57 then (some true) else (if a0 = 170 then (some true) else (if a0 = 181 then (some true) else (if a0 = 186 then (some true) else (if a0 ≥ 192 then (if a0 = 215 then (some false) else (some (a0 != 247))) else (some false)))))) else (if a0 = 170 then (some true) else (if a0 = 181 then (some true) else (if a0 = 186 then (some true) else (if a0 ≥ 192 then (if a0 = 215 then (some false) else (some (a0 != 247))) else (some false)))))))) else (if a0 ≥ 65 then (if a0 ≤ 90 then (some true) else (if a0 ≥ 48 then (if a0 ≤ 57 then (some true) else (if a0 = 170 then (some true) else (if a0 = 181 then (some true) else (if a0 = 186 then (some true) else (if a0 ≥ 192 then (if a0 = 215 then (some false) else (some (a0 != 247))) else (some false)))))) else (if a0 = 170 then (some true) else (if a0 = 181 then (some true) else (if a0 = 186 then (some true) else (if a0 ≥ 192 then (if a0 = 215 then (some false) else (some (a0 != 247))) else (some false))))))) else (if a0 ≥ 48 then (if a0 ≤ 57 then (some true) else (if a0 = 170 then (some true) else (if a0 = 181 then (some true) else (if a0 = 186 then (some true) else (if a0 ≥ 192 then (if a0 = 215 then (some false) else (some (a0 != 247))) else (some false)))))) else (if a0 = 170 then (some true) else (if a0 = 181 then (some true) else (if a0 = 186 then (some true) else (if a0 ≥ 192 then (if a0 = 215 then (some false) else (some (a0 != 247))) else (some false)))))))
set_option maxHeartbeats 8000000 in
set_option maxRecDepth 100000 in
theorem sqlx_zzAllowed.calls (a0 : Int) (r : Bool) (w : World) (h : sqlx_zzAllowed.f a0 = some r) :
    Calls Tryd.prog 83 #[.int .u8 a0] w fun e w' => e = .returned (.bool r) ∧ Drawn0 w w' := by
  have H : (if a0 ≥ 97 then (if a0 ≤ 122 then (some true) else (if a0 ≥ 65 then (if a0 ≤ 90 then (some true) else (if a0 ≥ 48 then (if a0 ≤ 57 then (some true) else (if a0 = 170 then (some true) else (if a0 = 181 then (some true) else (if a0 = 186 then (some true) else (if a0 ≥ 192 then (if a0 = 215 then (some false) else (some (a0 != 247))) else (some false)))))) else (if a0 = 170 then (some true) else (if a0 = 181 then (some true) else (if a0 = 186 then (some true) else (if a0 ≥ 192 then (if a0 = 215 then (some false) else (some (a0 != 247))) else (some false))))))) else (if a0 ≥ 48 then (if a0 ≤ 57 then (some true) else (if a0 = 170 then (some true) else (if a0 = 181 then (some true) else (if a0 = 186 then (some true) else (if a0 ≥ 192 then (if a0 = 215 then (some false) else (some (a0 != 247))) else (some false)))))) else (if a0 = 170 then (some true) else (if a0 = 181 then (some true) else (if a0 = 186 then (some true) else (if a0 ≥ 192 then (if a0 = 215 then (some false) else (some (a0 != 247))) else (some false)))))))) else (if a0 ≥ 65 then (if a0 ≤ 90 then (some true) else (if a0 ≥ 48 then (if a0 ≤ 57 then (some true) else (if a0 = 170 then (some true) else (if a0 = 181 then (some true) else (if a0 = 186 then (some true) else (if a0 ≥ 192 then (if a0 = 215 then (some false) else (some (a0 != 247))) else (some false)))))) else (if a0 = 170 then (some true) else (if a0 = 181 then (some true) else (if a0 = 186 then (some true) else (if a0 ≥ 192 then (if a0 = 215 then (some false) else (some (a0 != 247))) else (some false))))))) else (if a0 ≥ 48 then (if a0 ≤ 57 then (some true) else (if a0 = 170 then (some true) else (if a0 = 181 then (some true) else (if a0 = 186 then (some true) else (if a0 ≥ 192 then (if a0 = 215 then (some false) else (some (a0 != 247))) else (some false)))))) else (if a0 = 170 then (some true) else (if a0 = 181 then (some true) else (if a0 = 186 then (some true) else (if a0 ≥ 192 then (if a0 = 215 then (some false) else (some (a0 != 247))) else (some false)))))))) = some r := h
  clear h
  by_cases c2 : a0 ≥ 97
  · rw [if_pos c2] at H
    have c2b0 : decide (97 ≤ a0) = true := decide_eq_true c2
    clear c2
    by_cases c3 : a0 ≤ 122
    · rw [if_pos c3] at H
      have c3b0 : decide (a0 ≤ 122) = true := decide_eq_true c3
      clear c3
      obtain rfl := Option.some.inj H
      go_enter Tryd.func83, Tryd.ntmps83
      go_wp2
      go_ret
      exact ⟨by first | rfl | (simp; done) | (simp [*]; done), by repeat (first | exact Drawn0.refl _ | apply Drawn0.step)⟩
    · rw [if_neg c3] at H
      have c3b0 : decide (a0 ≤ 122) = false := decide_eq_false c3
      clear c3
      by_cases c4 : a0 ≥ 65
      · rw [if_pos c4] at H
        have c4b0 : decide (65 ≤ a0) = true := decide_eq_true c4
        clear c4
        by_cases c5 : a0 ≤ 90
        · rw [if_pos c5] at H
          have c5b0 : decide (a0 ≤ 90) = true := decide_eq_true c5
          clear c5
          obtain rfl := Option.some.inj H
          go_enter Tryd.func83, Tryd.ntmps83
          go_wp2
          go_ret
          exact ⟨by first | rfl | (simp; done) | (simp [*]; done), by repeat (first | exact Drawn0.refl _ | apply Drawn0.step)⟩
        · rw [if_neg c5] at H
          have c5b0 : decide (a0 ≤ 90) = false := decide_eq_false c5
          clear c5
          by_cases c6 : a0 ≥ 48
          · rw [if_pos c6] at H
            have c6b0 : decide (48 ≤ a0) = true := decide_eq_true c6
            clear c6
            by_cases c7 : a0 ≤ 57
            · rw [if_pos c7] at H
              have c7b0 : decide (a0 ≤ 57) = true := decide_eq_true c7
              clear c7
              obtain rfl := Option.some.inj H
              go_enter Tryd.func83, Tryd.ntmps83
              go_wp2
              go_ret
              exact ⟨by first | rfl | (simp; done) | (simp [*]; done), by repeat (first | exact Drawn0.refl _ | apply Drawn0.step)⟩
            · rw [if_neg c7] at H
              have c7b0 : decide (a0 ≤ 57) = false := decide_eq_false c7
              clear c7
              by_cases c8 : a0 = 170
              · rw [if_pos c8] at H
                have c8b0 : (a0 == 170) = true := beq_iff_eq.mpr c8
                have c8b1 : (a0 != 170) = false := bne_eq_false_iff_eq.mpr c8
                clear c8
                obtain rfl := Option.some.inj H
                go_enter Tryd.func83, Tryd.ntmps83
                go_wp2
                go_ret
                exact ⟨by first | rfl | (simp; done) | (simp [*]; done), by repeat (first | exact Drawn0.refl _ | apply Drawn0.step)⟩
              · rw [if_neg c8] at H
                have c8b0 : (a0 == 170) = false := beq_eq_false_iff_ne.mpr c8
                have c8b1 : (a0 != 170) = true := bne_iff_ne.mpr c8
                by_cases c9 : a0 = 181
                · rw [if_pos c9] at H
                  have c9b0 : (a0 == 181) = true := beq_iff_eq.mpr c9
                  have c9b1 : (a0 != 181) = false := bne_eq_false_iff_eq.mpr c9
                  clear c9
                  obtain rfl := Option.some.inj H
                  go_enter Tryd.func83, Tryd.ntmps83
                  go_wp2
                  go_ret
                  exact ⟨by first | rfl | (simp; done) | (simp [*]; done), by repeat (first | exact Drawn0.refl _ | apply Drawn0.step)⟩
                · rw [if_neg c9] at H
                  have c9b0 : (a0 == 181) = false := beq_eq_false_iff_ne.mpr c9
                  have c9b1 : (a0 != 181) = true := bne_iff_ne.mpr c9
                  by_cases c10 : a0 = 186
                  · rw [if_pos c10] at H
                    have c10b0 : (a0 == 186) = true := beq_iff_eq.mpr c10
                    have c10b1 : (a0 != 186) = false := bne_eq_false_iff_eq.mpr c10
                    clear c10
                    obtain rfl := Option.some.inj H
                    go_enter Tryd.func83, Tryd.ntmps83
                    go_wp2
                    go_ret
                    exact ⟨by first | rfl | (simp; done) | (simp [*]; done), by repeat (first | exact Drawn0.refl _ | apply Drawn0.step)⟩
                  · rw [if_neg c10] at H
                    have c10b0 : (a0 == 186) = false := beq_eq_false_iff_ne.mpr c10
                    have c10b1 : (a0 != 186) = true := bne_iff_ne.mpr c10
                    by_cases c11 : a0 ≥ 192
                    · rw [if_pos c11] at H
                      have c11b0 : decide (192 ≤ a0) = true := decide_eq_true c11
                      clear c11
                      by_cases c12 : a0 = 215
                      · rw [if_pos c12] at H
                        have c12b0 : (a0 == 215) = true := beq_iff_eq.mpr c12
                        have c12b1 : (a0 != 215) = false := bne_eq_false_iff_eq.mpr c12
                        clear c12
                        obtain rfl := Option.some.inj H
                        go_enter Tryd.func83, Tryd.ntmps83
                        go_wp2
                        go_ret
                        exact ⟨by first | rfl | (simp; done) | (simp [*]; done), by repeat (first | exact Drawn0.refl _ | apply Drawn0.step)⟩
                      · rw [if_neg c12] at H
                        have c12b0 : (a0 == 215) = false := beq_eq_false_iff_ne.mpr c12
                        have c12b1 : (a0 != 215) = true := bne_iff_ne.mpr c12
                        obtain rfl := Option.some.inj H
                        go_enter Tryd.func83, Tryd.ntmps83
                        go_wp2
                        go_ret
                        exact ⟨by first | rfl | (simp; done) | (simp [*]; done), by repeat (first | exact Drawn0.refl _ | apply Drawn0.step)⟩
                    · rw [if_neg c11] at H
                      have c11b0 : decide (192 ≤ a0) = false := decide_eq_false c11
                      clear c11
                      obtain rfl := Option.some.inj H
                      go_enter Tryd.func83, Tryd.ntmps83
                      go_wp2
                      go_ret
                      exact ⟨by first | rfl | (simp; done) | (simp [*]; done), by repeat (first | exact Drawn0.refl _ | apply Drawn0.step)⟩
          · rw [if_neg c6] at H
            have c6b0 : decide (48 ≤ a0) = false := decide_eq_false c6
            clear c6
            by_cases c13 : a0 = 170
            · rw [if_pos c13] at H
              have c13b0 : (a0 == 170) = true := beq_iff_eq.mpr c13
              have c13b1 : (a0 != 170) = false := bne_eq_false_iff_eq.mpr c13
              clear c13
              obtain rfl := Option.some.inj H
              go_enter Tryd.func83, Tryd.ntmps83
              go_wp2
              go_ret
              exact ⟨by first | rfl | (simp; done) | (simp [*]; done), by repeat (first | exact Drawn0.refl _ | apply Drawn0.step)⟩
            · rw [if_neg c13] at H
              have c13b0 : (a0 == 170) = false := beq_eq_false_iff_ne.mpr c13
              have c13b1 : (a0 != 170) = true := bne_iff_ne.mpr c13
              by_cases c14 : a0 = 181
              · rw [if_pos c14] at H
                have c14b0 : (a0 == 181) = true := beq_iff_eq.mpr c14
                have c14b1 : (a0 != 181) = false := bne_eq_false_iff_eq.mpr c14
                clear c14
                obtain rfl := Option.some.inj H
                go_enter Tryd.func83, Tryd.ntmps83
                go_wp2
                go_ret
                exact ⟨by first | rfl | (simp; done) | (simp [*]; done), by repeat (first | exact Drawn0.refl _ | apply Drawn0.step)⟩
              · rw [if_neg c14] at H
                have c14b0 : (a0 == 181) = false := beq_eq_false_iff_ne.mpr c14
                have c14b1 : (a0 != 181) = true := bne_iff_ne.mpr c14
                by_cases c15 : a0 = 186
                · rw [if_pos c15] at H
                  have c15b0 : (a0 == 186) = true := beq_iff_eq.mpr c15
                  have c15b1 : (a0 != 186) = false := bne_eq_false_iff_eq.mpr c15
                  clear c15
                  obtain rfl := Option.some.inj H
                  go_enter Tryd.func83, Tryd.ntmps83
                  go_wp2
                  go_ret
                  exact ⟨by first | rfl | (simp; done) | (simp [*]; done), by repeat (first | exact Drawn0.refl _ | apply Drawn0.step)⟩
                · rw [if_neg c15] at H
                  have c15b0 : (a0 == 186) = false := beq_eq_false_iff_ne.mpr c15
                  have c15b1 : (a0 != 186) = true := bne_iff_ne.mpr c15
                  by_cases c16 : a0 ≥ 192
                  · rw [if_pos c16] at H
                    have c16b0 : decide (192 ≤ a0) = true := decide_eq_true c16
                    clear c16
                    by_cases c17 : a0 = 215
                    · rw [if_pos c17] at H
                      have c17b0 : (a0 == 215) = true := beq_iff_eq.mpr c17
                      have c17b1 : (a0 != 215) = false := bne_eq_false_iff_eq.mpr c17
                      clear c17
                      obtain rfl := Option.some.inj H
                      go_enter Tryd.func83, Tryd.ntmps83
                      go_wp2
                      go_ret
                      exact ⟨by first | rfl | (simp; done) | (simp [*]; done), by repeat (first | exact Drawn0.refl _ | apply Drawn0.step)⟩
                    · rw [if_neg c17] at H
                      have c17b0 : (a0 == 215) = false := beq_eq_false_iff_ne.mpr c17
                      have c17b1 : (a0 != 215) = true := bne_iff_ne.mpr c17
                      obtain rfl := Option.some.inj H
                      go_enter Tryd.func83, Tryd.ntmps83
                      go_wp2
                      go_ret
                      exact ⟨by first | rfl | (simp; done) | (simp [*]; done), by repeat (first | exact Drawn0.refl _ | apply Drawn0.step)⟩
                  · rw [if_neg c16] at H
                    have c16b0 : decide (192 ≤ a0) = false := decide_eq_false c16
                    clear c16
                    obtain rfl := Option.some.inj H
                    go_enter Tryd.func83, Tryd.ntmps83
                    go_wp2
                    go_ret
                    exact ⟨by first | rfl | (simp; done) | (simp [*]; done), by repeat (first | exact Drawn0.refl _ | apply Drawn0.step)⟩
      · rw [if_neg c4] at H
        have c4b0 : decide (65 ≤ a0) = false := decide_eq_false c4
        clear c4
        by_cases c18 : a0 ≥ 48
        · rw [if_pos c18] at H
          have c18b0 : decide (48 ≤ a0) = true := decide_eq_true c18
          clear c18
          by_cases c19 : a0 ≤ 57
          · rw [if_pos c19] at H
            have c19b0 : decide (a0 ≤ 57) = true := decide_eq_true c19
            clear c19
            obtain rfl := Option.some.inj H
            go_enter Tryd.func83, Tryd.ntmps83
            go_wp2
            go_ret
            exact ⟨by first | rfl | (simp; done) | (simp [*]; done), by repeat (first | exact Drawn0.refl _ | apply Drawn0.step)⟩
          · rw [if_neg c19] at H
            have c19b0 : decide (a0 ≤ 57) = false := decide_eq_false c19
            clear c19
            by_cases c20 : a0 = 170
            · rw [if_pos c20] at H
              have c20b0 : (a0 == 170) = true := beq_iff_eq.mpr c20
              have c20b1 : (a0 != 170) = false := bne_eq_false_iff_eq.mpr c20
              clear c20
              obtain rfl := Option.some.inj H
              go_enter Tryd.func83, Tryd.ntmps83
              go_wp2
              go_ret
              exact ⟨by first | rfl | (simp; done) | (simp [*]; done), by repeat (first | exact Drawn0.refl _ | apply Drawn0.step)⟩
            · rw [if_neg c20] at H
              have c20b0 : (a0 == 170) = false := beq_eq_false_iff_ne.mpr c20
              have c20b1 : (a0 != 170) = true := bne_iff_ne.mpr c20
              by_cases c21 : a0 = 181
              · rw [if_pos c21] at H
                have c21b0 : (a0 == 181) = true := beq_iff_eq.mpr c21
                have c21b1 : (a0 != 181) = false := bne_eq_false_iff_eq.mpr c21
                clear c21
                obtain rfl := Option.some.inj H
                go_enter Tryd.func83, Tryd.ntmps83
                go_wp2
                go_ret
                exact ⟨by first | rfl | (simp; done) | (simp [*]; done), by repeat (first | exact Drawn0.refl _ | apply Drawn0.step)⟩
              · rw [if_neg c21] at H
                have c21b0 : (a0 == 181) = false := beq_eq_false_iff_ne.mpr c21
                have c21b1 : (a0 != 181) = true := bne_iff_ne.mpr c21
                by_cases c22 : a0 = 186
                · rw [if_pos c22] at H
                  have c22b0 : (a0 == 186) = true := beq_iff_eq.mpr c22
                  have c22b1 : (a0 != 186) = false := bne_eq_false_iff_eq.mpr c22
                  clear c22
                  obtain rfl := Option.some.inj H
                  go_enter Tryd.func83, Tryd.ntmps83
                  go_wp2
                  go_ret
                  exact ⟨by first | rfl | (simp; done) | (simp [*]; done), by repeat (first | exact Drawn0.refl _ | apply Drawn0.step)⟩
                · rw [if_neg c22] at H
                  have c22b0 : (a0 == 186) = false := beq_eq_false_iff_ne.mpr c22
                  have c22b1 : (a0 != 186) = true := bne_iff_ne.mpr c22
                  by_cases c23 : a0 ≥ 192
                  · rw [if_pos c23] at H
                    have c23b0 : decide (192 ≤ a0) = true := decide_eq_true c23
                    clear c23
                    by_cases c24 : a0 = 215
                    · rw [if_pos c24] at H
                      have c24b0 : (a0 == 215) = true := beq_iff_eq.mpr c24
                      have c24b1 : (a0 != 215) = false := bne_eq_false_iff_eq.mpr c24
                      clear c24
                      obtain rfl := Option.some.inj H
                      go_enter Tryd.func83, Tryd.ntmps83
                      go_wp2
                      go_ret
                      exact ⟨by first | rfl | (simp; done) | (simp [*]; done), by repeat (first | exact Drawn0.refl _ | apply Drawn0.step)⟩
                    · rw [if_neg c24] at H
                      have c24b0 : (a0 == 215) = false := beq_eq_false_iff_ne.mpr c24
                      have c24b1 : (a0 != 215) = true := bne_iff_ne.mpr c24
                      obtain rfl := Option.some.inj H
                      go_enter Tryd.func83, Tryd.ntmps83
                      go_wp2
                      go_ret
                      exact ⟨by first | rfl | (simp; done) | (simp [*]; done), by repeat (first | exact Drawn0.refl _ | apply Drawn0.step)⟩
                  · rw [if_neg c23] at H
                    have c23b0 : decide (192 ≤ a0) = false := decide_eq_false c23
                    clear c23
                    obtain rfl := Option.some.inj H
                    go_enter Tryd.func83, Tryd.ntmps83
                    go_wp2
                    go_ret
                    exact ⟨by first | rfl | (simp; done) | (simp [*]; done), by repeat (first | exact Drawn0.refl _ | apply Drawn0.step)⟩
        · rw [if_neg c18] at H
          have c18b0 : decide (48 ≤ a0) = false := decide_eq_false c18
          clear c18
          by_cases c25 : a0 = 170
          · rw [if_pos c25] at H
            have c25b0 : (a0 == 170) = true := beq_iff_eq.mpr c25
            have c25b1 : (a0 != 170) = false := bne_eq_false_iff_eq.mpr c25
            clear c25
            obtain rfl := Option.some.inj H
            go_enter Tryd.func83, Tryd.ntmps83
            go_wp2
            go_ret
            exact ⟨by first | rfl | (simp; done) | (simp [*]; done), by repeat (first | exact Drawn0.refl _ | apply Drawn0.step)⟩
          · rw [if_neg c25] at H
            have c25b0 : (a0 == 170) = false := beq_eq_false_iff_ne.mpr c25
            have c25b1 : (a0 != 170) = true := bne_iff_ne.mpr c25
            by_cases c26 : a0 = 181
            · rw [if_pos c26] at H
              have c26b0 : (a0 == 181) = true := beq_iff_eq.mpr c26
              have c26b1 : (a0 != 181) = false := bne_eq_false_iff_eq.mpr c26
              clear c26
              obtain rfl := Option.some.inj H
              go_enter Tryd.func83, Tryd.ntmps83
              go_wp2
              go_ret
              exact ⟨by first | rfl | (simp; done) | (simp [*]; done), by repeat (first | exact Drawn0.refl _ | apply Drawn0.step)⟩
            · rw [if_neg c26] at H
              have c26b0 : (a0 == 181) = false := beq_eq_false_iff_ne.mpr c26
              have c26b1 : (a0 != 181) = true := bne_iff_ne.mpr c26
              by_cases c27 : a0 = 186
              · rw [if_pos c27] at H
                have c27b0 : (a0 == 186) = true := beq_iff_eq.mpr c27
                have c27b1 : (a0 != 186) = false := bne_eq_false_iff_eq.mpr c27
                clear c27
                obtain rfl := Option.some.inj H
                go_enter Tryd.func83, Tryd.ntmps83
                go_wp2
                go_ret
                exact ⟨by first | rfl | (simp; done) | (simp [*]; done), by repeat (first | exact Drawn0.refl _ | apply Drawn0.step)⟩
              · rw [if_neg c27] at H
                have c27b0 : (a0 == 186) = false := beq_eq_false_iff_ne.mpr c27
                have c27b1 : (a0 != 186) = true := bne_iff_ne.mpr c27
                by_cases c28 : a0 ≥ 192
                · rw [if_pos c28] at H
                  have c28b0 : decide (192 ≤ a0) = true := decide_eq_true c28
                  clear c28
                  by_cases c29 : a0 = 215
                  · rw [if_pos c29] at H
                    have c29b0 : (a0 == 215) = true := beq_iff_eq.mpr c29
                    have c29b1 : (a0 != 215) = false := bne_eq_false_iff_eq.mpr c29
                    clear c29
                    obtain rfl := Option.some.inj H
                    go_enter Tryd.func83, Tryd.ntmps83
                    go_wp2
                    go_ret
                    exact ⟨by first | rfl | (simp; done) | (simp [*]; done), by repeat (first | exact Drawn0.refl _ | apply Drawn0.step)⟩
                  · rw [if_neg c29] at H
                    have c29b0 : (a0 == 215) = false := beq_eq_false_iff_ne.mpr c29
                    have c29b1 : (a0 != 215) = true := bne_iff_ne.mpr c29
                    obtain rfl := Option.some.inj H
                    go_enter Tryd.func83, Tryd.ntmps83
                    go_wp2
                    go_ret
                    exact ⟨by first | rfl | (simp; done) | (simp [*]; done), by repeat (first | exact Drawn0.refl _ | apply Drawn0.step)⟩
                · rw [if_neg c28] at H
                  have c28b0 : decide (192 ≤ a0) = false := decide_eq_false c28
                  clear c28
                  obtain rfl := Option.some.inj H
                  go_enter Tryd.func83, Tryd.ntmps83
                  go_wp2
                  go_ret
                  exact ⟨by first | rfl | (simp; done) | (simp [*]; done), by repeat (first | exact Drawn0.refl _ | apply Drawn0.step)⟩
  · rw [if_neg c2] at H
    have c2b0 : decide (97 ≤ a0) = false := decide_eq_false c2
    clear c2
    by_cases c30 : a0 ≥ 65
    · rw [if_pos c30] at H
      have c30b0 : decide (65 ≤ a0) = true := decide_eq_true c30
      clear c30
      by_cases c31 : a0 ≤ 90
      · rw [if_pos c31] at H
        have c31b0 : decide (a0 ≤ 90) = true := decide_eq_true c31
        clear c31
        obtain rfl := Option.some.inj H
        go_enter Tryd.func83, Tryd.ntmps83
        go_wp2
        go_ret
        exact ⟨by first | rfl | (simp; done) | (simp [*]; done), by repeat (first | exact Drawn0.refl _ | apply Drawn0.step)⟩
      · rw [if_neg c31] at H
        have c31b0 : decide (a0 ≤ 90) = false := decide_eq_false c31
        clear c31
        by_cases c32 : a0 ≥ 48
        · rw [if_pos c32] at H
          have c32b0 : decide (48 ≤ a0) = true := decide_eq_true c32
          clear c32
          by_cases c33 : a0 ≤ 57
          · rw [if_pos c33] at H
            have c33b0 : decide (a0 ≤ 57) = true := decide_eq_true c33
            clear c33
            obtain rfl := Option.some.inj H
            go_enter Tryd.func83, Tryd.ntmps83
            go_wp2
            go_ret
            exact ⟨by first | rfl | (simp; done) | (simp [*]; done), by repeat (first | exact Drawn0.refl _ | apply Drawn0.step)⟩
          · rw [if_neg c33] at H
            have c33b0 : decide (a0 ≤ 57) = false := decide_eq_false c33
            clear c33
            by_cases c34 : a0 = 170
            · rw [if_pos c34] at H
              have c34b0 : (a0 == 170) = true := beq_iff_eq.mpr c34
              have c34b1 : (a0 != 170) = false := bne_eq_false_iff_eq.mpr c34
              clear c34
              obtain rfl := Option.some.inj H
              go_enter Tryd.func83, Tryd.ntmps83
              go_wp2
              go_ret
              exact ⟨by first | rfl | (simp; done) | (simp [*]; done), by repeat (first | exact Drawn0.refl _ | apply Drawn0.step)⟩
            · rw [if_neg c34] at H
              have c34b0 : (a0 == 170) = false := beq_eq_false_iff_ne.mpr c34
              have c34b1 : (a0 != 170) = true := bne_iff_ne.mpr c34
              by_cases c35 : a0 = 181
              · rw [if_pos c35] at H
                have c35b0 : (a0 == 181) = true := beq_iff_eq.mpr c35
                have c35b1 : (a0 != 181) = false := bne_eq_false_iff_eq.mpr c35
                clear c35
                obtain rfl := Option.some.inj H
                go_enter Tryd.func83, Tryd.ntmps83
                go_wp2
                go_ret
                exact ⟨by first | rfl | (simp; done) | (simp [*]; done), by repeat (first | exact Drawn0.refl _ | apply Drawn0.step)⟩
              · rw [if_neg c35] at H
                have c35b0 : (a0 == 181) = false := beq_eq_false_iff_ne.mpr c35
                have c35b1 : (a0 != 181) = true := bne_iff_ne.mpr c35
                by_cases c36 : a0 = 186
                · rw [if_pos c36] at H
                  have c36b0 : (a0 == 186) = true := beq_iff_eq.mpr c36
                  have c36b1 : (a0 != 186) = false := bne_eq_false_iff_eq.mpr c36
                  clear c36
                  obtain rfl := Option.some.inj H
                  go_enter Tryd.func83, Tryd.ntmps83
                  go_wp2
                  go_ret
                  exact ⟨by first | rfl | (simp; done) | (simp [*]; done), by repeat (first | exact Drawn0.refl _ | apply Drawn0.step)⟩
                · rw [if_neg c36] at H
                  have c36b0 : (a0 == 186) = false := beq_eq_false_iff_ne.mpr c36
                  have c36b1 : (a0 != 186) = true := bne_iff_ne.mpr c36
                  by_cases c37 : a0 ≥ 192
                  · rw [if_pos c37] at H
                    have c37b0 : decide (192 ≤ a0) = true := decide_eq_true c37
                    clear c37
                    by_cases c38 : a0 = 215
                    · rw [if_pos c38] at H
                      have c38b0 : (a0 == 215) = true := beq_iff_eq.mpr c38
                      have c38b1 : (a0 != 215) = false := bne_eq_false_iff_eq.mpr c38
                      clear c38
                      obtain rfl := Option.some.inj H
                      go_enter Tryd.func83, Tryd.ntmps83
                      go_wp2
                      go_ret
                      exact ⟨by first | rfl | (simp; done) | (simp [*]; done), by repeat (first | exact Drawn0.refl _ | apply Drawn0.step)⟩
                    · rw [if_neg c38] at H
                      have c38b0 : (a0 == 215) = false := beq_eq_false_iff_ne.mpr c38
                      have c38b1 : (a0 != 215) = true := bne_iff_ne.mpr c38
                      obtain rfl := Option.some.inj H
                      go_enter Tryd.func83, Tryd.ntmps83
                      go_wp2
                      go_ret
                      exact ⟨by first | rfl | (simp; done) | (simp [*]; done), by repeat (first | exact Drawn0.refl _ | apply Drawn0.step)⟩
                  · rw [if_neg c37] at H
                    have c37b0 : decide (192 ≤ a0) = false := decide_eq_false c37
                    clear c37
                    obtain rfl := Option.some.inj H
                    go_enter Tryd.func83, Tryd.ntmps83
                    go_wp2
                    go_ret
                    exact ⟨by first | rfl | (simp; done) | (simp [*]; done), by repeat (first | exact Drawn0.refl _ | apply Drawn0.step)⟩
        · rw [if_neg c32] at H
          have c32b0 : decide (48 ≤ a0) = false := decide_eq_false c32
          clear c32
          by_cases c39 : a0 = 170
          · rw [if_pos c39] at H
            have c39b0 : (a0 == 170) = true := beq_iff_eq.mpr c39
            have c39b1 : (a0 != 170) = false := bne_eq_false_iff_eq.mpr c39
            clear c39
            obtain rfl := Option.some.inj H
            go_enter Tryd.func83, Tryd.ntmps83
            go_wp2
            go_ret
            exact ⟨by first | rfl | (simp; done) | (simp [*]; done), by repeat (first | exact Drawn0.refl _ | apply Drawn0.step)⟩
          · rw [if_neg c39] at H
            have c39b0 : (a0 == 170) = false := beq_eq_false_iff_ne.mpr c39
            have c39b1 : (a0 != 170) = true := bne_iff_ne.mpr c39
            by_cases c40 : a0 = 181
            · rw [if_pos c40] at H
              have c40b0 : (a0 == 181) = true := beq_iff_eq.mpr c40
              have c40b1 : (a0 != 181) = false := bne_eq_false_iff_eq.mpr c40
              clear c40
              obtain rfl := Option.some.inj H
              go_enter Tryd.func83, Tryd.ntmps83
              go_wp2
              go_ret
              exact ⟨by first | rfl | (simp; done) | (simp [*]; done), by repeat (first | exact Drawn0.refl _ | apply Drawn0.step)⟩
            · rw [if_neg c40] at H
              have c40b0 : (a0 == 181) = false := beq_eq_false_iff_ne.mpr c40
              have c40b1 : (a0 != 181) = true := bne_iff_ne.mpr c40
              by_cases c41 : a0 = 186
              · rw [if_pos c41] at H
                have c41b0 : (a0 == 186) = true := beq_iff_eq.mpr c41
                have c41b1 : (a0 != 186) = false := bne_eq_false_iff_eq.mpr c41
                clear c41
                obtain rfl := Option.some.inj H
                go_enter Tryd.func83, Tryd.ntmps83
                go_wp2
                go_ret
                exact ⟨by first | rfl | (simp; done) | (simp [*]; done), by repeat (first | exact Drawn0.refl _ | apply Drawn0.step)⟩
              · rw [if_neg c41] at H
                have c41b0 : (a0 == 186) = false := beq_eq_false_iff_ne.mpr c41
                have c41b1 : (a0 != 186) = true := bne_iff_ne.mpr c41
                by_cases c42 : a0 ≥ 192
                · rw [if_pos c42] at H
                  have c42b0 : decide (192 ≤ a0) = true := decide_eq_true c42
                  clear c42
                  by_cases c43 : a0 = 215
                  · rw [if_pos c43] at H
                    have c43b0 : (a0 == 215) = true := beq_iff_eq.mpr c43
                    have c43b1 : (a0 != 215) = false := bne_eq_false_iff_eq.mpr c43
                    clear c43
                    obtain rfl := Option.some.inj H
                    go_enter Tryd.func83, Tryd.ntmps83
                    go_wp2
                    go_ret
                    exact ⟨by first | rfl | (simp; done) | (simp [*]; done), by repeat (first | exact Drawn0.refl _ | apply Drawn0.step)⟩
                  · rw [if_neg c43] at H
                    have c43b0 : (a0 == 215) = false := beq_eq_false_iff_ne.mpr c43
                    have c43b1 : (a0 != 215) = true := bne_iff_ne.mpr c43
                    obtain rfl := Option.some.inj H
                    go_enter Tryd.func83, Tryd.ntmps83
                    go_wp2
                    go_ret
                    exact ⟨by first | rfl | (simp; done) | (simp [*]; done), by repeat (first | exact Drawn0.refl _ | apply Drawn0.step)⟩
                · rw [if_neg c42] at H
                  have c42b0 : decide (192 ≤ a0) = false := decide_eq_false c42
                  clear c42
                  obtain rfl := Option.some.inj H
                  go_enter Tryd.func83, Tryd.ntmps83
                  go_wp2
                  go_ret
                  exact ⟨by first | rfl | (simp; done) | (simp [*]; done), by repeat (first | exact Drawn0.refl _ | apply Drawn0.step)⟩
    · rw [if_neg c30] at H
      have c30b0 : decide (65 ≤ a0) = false := decide_eq_false c30
      clear c30
      by_cases c44 : a0 ≥ 48
      · rw [if_pos c44] at H
        have c44b0 : decide (48 ≤ a0) = true := decide_eq_true c44
        clear c44
        by_cases c45 : a0 ≤ 57
        · rw [if_pos c45] at H
          have c45b0 : decide (a0 ≤ 57) = true := decide_eq_true c45
          clear c45
          obtain rfl := Option.some.inj H
          go_enter Tryd.func83, Tryd.ntmps83
          go_wp2
          go_ret
          exact ⟨by first | rfl | (simp; done) | (simp [*]; done), by repeat (first | exact Drawn0.refl _ | apply Drawn0.step)⟩
        · rw [if_neg c45] at H
          have c45b0 : decide (a0 ≤ 57) = false := decide_eq_false c45
          clear c45
          by_cases c46 : a0 = 170
          · rw [if_pos c46] at H
            have c46b0 : (a0 == 170) = true := beq_iff_eq.mpr c46
            have c46b1 : (a0 != 170) = false := bne_eq_false_iff_eq.mpr c46
            clear c46
            obtain rfl := Option.some.inj H
            go_enter Tryd.func83, Tryd.ntmps83
            go_wp2
            go_ret
            exact ⟨by first | rfl | (simp; done) | (simp [*]; done), by repeat (first | exact Drawn0.refl _ | apply Drawn0.step)⟩
          · rw [if_neg c46] at H
            have c46b0 : (a0 == 170) = false := beq_eq_false_iff_ne.mpr c46
            have c46b1 : (a0 != 170) = true := bne_iff_ne.mpr c46
            by_cases c47 : a0 = 181
            · rw [if_pos c47] at H
              have c47b0 : (a0 == 181) = true := beq_iff_eq.mpr c47
              have c47b1 : (a0 != 181) = false := bne_eq_false_iff_eq.mpr c47
              clear c47
              obtain rfl := Option.some.inj H
              go_enter Tryd.func83, Tryd.ntmps83
              go_wp2
              go_ret
              exact ⟨by first | rfl | (simp; done) | (simp [*]; done), by repeat (first | exact Drawn0.refl _ | apply Drawn0.step)⟩
            · rw [if_neg c47] at H
              have c47b0 : (a0 == 181) = false := beq_eq_false_iff_ne.mpr c47
              have c47b1 : (a0 != 181) = true := bne_iff_ne.mpr c47
              by_cases c48 : a0 = 186
              · rw [if_pos c48] at H
                have c48b0 : (a0 == 186) = true := beq_iff_eq.mpr c48
                have c48b1 : (a0 != 186) = false := bne_eq_false_iff_eq.mpr c48
                clear c48
                obtain rfl := Option.some.inj H
                go_enter Tryd.func83, Tryd.ntmps83
                go_wp2
                go_ret
                exact ⟨by first | rfl | (simp; done) | (simp [*]; done), by repeat (first | exact Drawn0.refl _ | apply Drawn0.step)⟩
              · rw [if_neg c48] at H
                have c48b0 : (a0 == 186) = false := beq_eq_false_iff_ne.mpr c48
                have c48b1 : (a0 != 186) = true := bne_iff_ne.mpr c48
                by_cases c49 : a0 ≥ 192
                · rw [if_pos c49] at H
                  have c49b0 : decide (192 ≤ a0) = true := decide_eq_true c49
                  clear c49
                  by_cases c50 : a0 = 215
                  · rw [if_pos c50] at H
                    have c50b0 : (a0 == 215) = true := beq_iff_eq.mpr c50
                    have c50b1 : (a0 != 215) = false := bne_eq_false_iff_eq.mpr c50
                    clear c50
                    obtain rfl := Option.some.inj H
                    go_enter Tryd.func83, Tryd.ntmps83
                    go_wp2
                    go_ret
                    exact ⟨by first | rfl | (simp; done) | (simp [*]; done), by repeat (first | exact Drawn0.refl _ | apply Drawn0.step)⟩
                  · rw [if_neg c50] at H
                    have c50b0 : (a0 == 215) = false := beq_eq_false_iff_ne.mpr c50
                    have c50b1 : (a0 != 215) = true := bne_iff_ne.mpr c50
                    obtain rfl := Option.some.inj H
                    go_enter Tryd.func83, Tryd.ntmps83
                    go_wp2
                    go_ret
                    exact ⟨by first | rfl | (simp; done) | (simp [*]; done), by repeat (first | exact Drawn0.refl _ | apply Drawn0.step)⟩
                · rw [if_neg c49] at H
                  have c49b0 : decide (192 ≤ a0) = false := decide_eq_false c49
                  clear c49
                  obtain rfl := Option.some.inj H
                  go_enter Tryd.func83, Tryd.ntmps83
                  go_wp2
                  go_ret
                  exact ⟨by first | rfl | (simp; done) | (simp [*]; done), by repeat (first | exact Drawn0.refl _ | apply Drawn0.step)⟩
      · rw [if_neg c44] at H
        have c44b0 : decide (48 ≤ a0) = false := decide_eq_false c44
        clear c44
        by_cases c51 : a0 = 170
        · rw [if_pos c51] at H
          have c51b0 : (a0 == 170) = true := beq_iff_eq.mpr c51
          have c51b1 : (a0 != 170) = false := bne_eq_false_iff_eq.mpr c51
          clear c51
          obtain rfl := Option.some.inj H
          go_enter Tryd.func83, Tryd.ntmps83
          go_wp2
          go_ret
          exact ⟨by first | rfl | (simp; done) | (simp [*]; done), by repeat (first | exact Drawn0.refl _ | apply Drawn0.step)⟩
        · rw [if_neg c51] at H
          have c51b0 : (a0 == 170) = false := beq_eq_false_iff_ne.mpr c51
          have c51b1 : (a0 != 170) = true := bne_iff_ne.mpr c51
          by_cases c52 : a0 = 181
          · rw [if_pos c52] at H
            have c52b0 : (a0 == 181) = true := beq_iff_eq.mpr c52
            have c52b1 : (a0 != 181) = false := bne_eq_false_iff_eq.mpr c52
            clear c52
            obtain rfl := Option.some.inj H
            go_enter Tryd.func83, Tryd.ntmps83
            go_wp2
            go_ret
            exact ⟨by first | rfl | (simp; done) | (simp [*]; done), by repeat (first | exact Drawn0.refl _ | apply Drawn0.step)⟩
          · rw [if_neg c52] at H
            have c52b0 : (a0 == 181) = false := beq_eq_false_iff_ne.mpr c52
            have c52b1 : (a0 != 181) = true := bne_iff_ne.mpr c52
            by_cases c53 : a0 = 186
            · rw [if_pos c53] at H
              have c53b0 : (a0 == 186) = true := beq_iff_eq.mpr c53
              have c53b1 : (a0 != 186) = false := bne_eq_false_iff_eq.mpr c53
              clear c53
              obtain rfl := Option.some.inj H
              go_enter Tryd.func83, Tryd.ntmps83
              go_wp2
              go_ret
              exact ⟨by first | rfl | (simp; done) | (simp [*]; done), by repeat (first | exact Drawn0.refl _ | apply Drawn0.step)⟩
            · rw [if_neg c53] at H
              have c53b0 : (a0 == 186) = false := beq_eq_false_iff_ne.mpr c53
              have c53b1 : (a0 != 186) = true := bne_iff_ne.mpr c53
              by_cases c54 : a0 ≥ 192
              · rw [if_pos c54] at H
                have c54b0 : decide (192 ≤ a0) = true := decide_eq_true c54
                clear c54
                by_cases c55 : a0 = 215
                · rw [if_pos c55] at H
                  have c55b0 : (a0 == 215) = true := beq_iff_eq.mpr c55
                  have c55b1 : (a0 != 215) = false := bne_eq_false_iff_eq.mpr c55
                  clear c55
                  obtain rfl := Option.some.inj H
                  go_enter Tryd.func83, Tryd.ntmps83
                  go_wp2
                  go_ret
                  exact ⟨by first | rfl | (simp; done) | (simp [*]; done), by repeat (first | exact Drawn0.refl _ | apply Drawn0.step)⟩
                · rw [if_neg c55] at H
                  have c55b0 : (a0 == 215) = false := beq_eq_false_iff_ne.mpr c55
                  have c55b1 : (a0 != 215) = true := bne_iff_ne.mpr c55
                  obtain rfl := Option.some.inj H
                  go_enter Tryd.func83, Tryd.ntmps83
                  go_wp2
                  go_ret
                  exact ⟨by first | rfl | (simp; done) | (simp [*]; done), by repeat (first | exact Drawn0.refl _ | apply Drawn0.step)⟩
              · rw [if_neg c54] at H
                have c54b0 : decide (192 ≤ a0) = false := decide_eq_false c54
                clear c54
                obtain rfl := Option.some.inj H
                go_enter Tryd.func83, Tryd.ntmps83
                go_wp2
                go_ret
                exact ⟨by first | rfl | (simp; done) | (simp [*]; done), by repeat (first | exact Drawn0.refl _ | apply Drawn0.step)⟩

/-- THE ONE PURE STATEMENT of sqlx_zzAllowed: yours. -/
def sqlx_zzAllowed.Pure : Prop := ∀ (a0 : Int), (Lit.int .u8 a0).wf = true → sqlx_zzAllowed.f a0 = some true
end Go.Proofs.YtnmhoghmhglimaaDoor.QL
-- WRITTEN BY A PROGRAM OF THIS SESSION (wip/print2.py): the print, with contracts of this session's own let in. Not trusted: Lean checks it.
namespace Go.Proofs.YtnmhoghmhglimaaDoor.QL
open Go.RowKit Go.Proofs.YtnmhoghmhglimaaDoorW.PrintWords Go.Proofs.YtnmhoghmhglimaaDoorW.PrintLast Go.Proofs.YtnmhoghmhglimaaDoorW.PrintMore
attribute [local go_sem] max2_int min2_int max_two min_two max_three min_three max_four min_four   -- for this text's walks alone
set_option linter.unusedVariables false
set_option linter.unusedSimpArgs false

/-! ### sqlx_zzIndex: function 64 -/
def sqlx_zzIndex.l0 : Nat → ByteArray → ByteArray → Int → Option (Int)
  | 0, _, _, _ => none
  | k + 1, x0, x1, x5 => if (wrap64 (x5 + (x1.size : Int))) ≤ (x0.size : Int) then (if 0 ≤ x5 then (if x5 ≤ (wrap64 (x5 + (x1.size : Int))) then (if (x0.extract (x5 : Int).toNat ((wrap64 (x5 + (x1.size : Int))) : Int).toNat).toList = x1.toList then (some x5) else (sqlx_zzIndex.l0 k x0 x1 (wrap64 (x5 + 1)))) else (none)) else (none)) else (some (-1))
def sqlx_zzIndex.f (k : Nat) (a0 : ByteArray) (a1 : ByteArray) : Option (Int) := sqlx_zzIndex.l0 k a0 a1 0
set_option maxHeartbeats 8000000 in
set_option maxRecDepth 100000 in
theorem sqlx_zzIndex.calls (k : Nat) (a0 : ByteArray) (a1 : ByteArray) (r : Int) (w : World) (h : sqlx_zzIndex.f k a0 a1 = some r) :
    Calls Tryd.prog 64 #[.string a0, .string a1] w fun e w' => e = .returned (.int .i64 r) ∧ Drawn0 w w' := by
  have H : (sqlx_zzIndex.l0 k a0 a1 0) = some r := h
  clear h
  have H' := Aside0.mk H
  clear H
  go_enter Tryd.func64, Tryd.ntmps64
  go_wp2
  go_loopg [5] k (fun kq v5 w' => ∃ (x5_1 : Int), v5 = .int .i64 x5_1 ∧ Aside0 (sqlx_zzIndex.l0 kq a0 a1 x5_1 = some r) ∧ Aside0 (kq ≤ k) ∧ Drawn0 w w')
  case atStart => exact ⟨(0), (by first | rfl | (simp; done) | (simp [*]; done)), H', ⟨Nat.le_refl _⟩, by repeat (first | exact Drawn0.refl _ | apply Drawn0.step)⟩
  case round =>
    clear H'
    try clear p2
    obtain ⟨x5_1, rfl, HA, HK1, ⟨m1, rfl⟩⟩ := hrel
    cases gk with
    | zero => exact absurd HA.out (by simp [sqlx_zzIndex.l0])
    | succ k1 =>
      have H := HA.out
      clear HA
      simp only [sqlx_zzIndex.l0] at H
      by_cases c3 : (wrap64 (x5_1 + (a1.size : Int))) ≤ (a0.size : Int)
      · rw [if_pos c3] at H
        have c3b0 : decide ((wrap64 (x5_1 + (a1.size : Int))) ≤ (a0.size : Int)) = true := decide_eq_true c3
        clear c3
        by_cases c4 : 0 ≤ x5_1
        · rw [if_pos c4] at H
          have c4b0 := eq_true c4
          have c4b1 : decide (0 ≤ x5_1) = true := decide_eq_true c4
          clear c4
          by_cases c5 : x5_1 ≤ (wrap64 (x5_1 + (a1.size : Int)))
          · rw [if_pos c5] at H
            have c5b0 := eq_true c5
            have c5b1 : decide (x5_1 ≤ (wrap64 (x5_1 + (a1.size : Int)))) = true := decide_eq_true c5
            have c6b0 := eq_true (of_decide_eq_true (by first | (with_reducible assumption) | assumption) : (wrap64 (x5_1 + (a1.size : Int))) ≤ (a0.size : Int))
            by_cases c7 : (a0.extract (x5_1 : Int).toNat ((wrap64 (x5_1 + (a1.size : Int))) : Int).toNat).toList = a1.toList
            · rw [if_pos c7] at H
              have c7b0 : ((a0.extract (x5_1 : Int).toNat ((wrap64 (x5_1 + (a1.size : Int))) : Int).toNat).toList == a1.toList) = true := beq_iff_eq.mpr c7
              have c7b1 : ((a0.extract (x5_1 : Int).toNat ((wrap64 (x5_1 + (a1.size : Int))) : Int).toNat).toList != a1.toList) = false := bne_eq_false_iff_eq.mpr c7
              clear c7
              obtain rfl := Option.some.inj H
              go_wp2
              go_ret
              exact ⟨by first | rfl | (simp; done) | (simp [*]; done), by repeat (first | exact Drawn0.refl _ | apply Drawn0.step)⟩
            · rw [if_neg c7] at H
              have c7b0 : ((a0.extract (x5_1 : Int).toNat ((wrap64 (x5_1 + (a1.size : Int))) : Int).toNat).toList == a1.toList) = false := beq_eq_false_iff_ne.mpr c7
              have c7b1 : ((a0.extract (x5_1 : Int).toNat ((wrap64 (x5_1 + (a1.size : Int))) : Int).toNat).toList != a1.toList) = true := bne_iff_ne.mpr c7
              have H' := Aside0.mk H
              clear H
              go_wp2
              go_roundg k1
              case measure => have := HK1.out; omega
              case rel => exact ⟨(wrap64 (x5_1 + 1)), (by first | rfl | (simp; done) | (simp [*]; done)), H', ⟨by have := HK1.out; omega⟩, by repeat (first | exact Drawn0.refl _ | apply Drawn0.step)⟩
          · rw [if_neg c5] at H
            exact absurd H (by simp)
        · rw [if_neg c4] at H
          exact absurd H (by simp)
      · rw [if_neg c3] at H
        have c3b0 : decide ((wrap64 (x5_1 + (a1.size : Int))) ≤ (a0.size : Int)) = false := decide_eq_false c3
        clear c3
        obtain rfl := Option.some.inj H
        go_wp2
        go_ret
        exact ⟨by first | rfl | (simp; done) | (simp [*]; done), by repeat (first | exact Drawn0.refl _ | apply Drawn0.step)⟩

/-! ### sqlx_zzSpace: function 88 -/
def sqlx_zzSpace.l0 : Nat → ByteArray → Int → Option (Int)
  | 0, _, _ => none
  | k + 1, x0, x1 => if x1 < (x0.size : Int) then (if 0 ≤ x1 then (if (bt x0 x1) = 32 then (sqlx_zzSpace.l0 k x0 (wrap64 (x1 + 1))) else (if (bt x0 x1) = 9 then (sqlx_zzSpace.l0 k x0 (wrap64 (x1 + 1))) else (if (bt x0 x1) = 10 then (sqlx_zzSpace.l0 k x0 (wrap64 (x1 + 1))) else (if (bt x0 x1) = 12 then (sqlx_zzSpace.l0 k x0 (wrap64 (x1 + 1))) else (if (bt x0 x1) = 13 then (sqlx_zzSpace.l0 k x0 (wrap64 (x1 + 1))) else (some x1)))))) else (none)) else (some x1)
def sqlx_zzSpace.f (k : Nat) (a0 : ByteArray) (a1 : Int) : Option (Int) := sqlx_zzSpace.l0 k a0 a1
set_option maxHeartbeats 8000000 in
set_option maxRecDepth 100000 in
theorem sqlx_zzSpace.calls (k : Nat) (a0 : ByteArray) (a1 : Int) (r : Int) (w : World) (h : sqlx_zzSpace.f k a0 a1 = some r) :
    Calls Tryd.prog 88 #[.string a0, .int .i64 a1] w fun e w' => e = .returned (.int .i64 r) ∧ Drawn0 w w' := by
  have H : (sqlx_zzSpace.l0 k a0 a1) = some r := h
  clear h
  have H' := Aside0.mk H
  clear H
  go_enter Tryd.func88, Tryd.ntmps88
  go_wp2
  go_loopg [1] k (fun kq v1 w' => ∃ (x1_1 : Int), v1 = .int .i64 x1_1 ∧ Aside0 (sqlx_zzSpace.l0 kq a0 x1_1 = some r) ∧ Aside0 (kq ≤ k) ∧ Drawn0 w w')
  case atStart => exact ⟨(a1), (by first | rfl | (simp; done) | (simp [*]; done)), H', ⟨Nat.le_refl _⟩, by repeat (first | exact Drawn0.refl _ | apply Drawn0.step)⟩
  case round =>
    clear H'
    try clear p2
    obtain ⟨x1_1, rfl, HA, HK1, ⟨m1, rfl⟩⟩ := hrel
    cases gk with
    | zero => exact absurd HA.out (by simp [sqlx_zzSpace.l0])
    | succ k1 =>
      have H := HA.out
      clear HA
      simp only [sqlx_zzSpace.l0] at H
      by_cases c3 : x1_1 < (a0.size : Int)
      · rw [if_pos c3] at H
        have c3b0 : decide (x1_1 < (a0.size : Int)) = true := decide_eq_true c3
        clear c3
        by_cases c4 : 0 ≤ x1_1
        · rw [if_pos c4] at H
          have c4b0 : decide (0 ≤ x1_1) = true := decide_eq_true c4
          clear c4
          by_cases c6 : (bt a0 x1_1) = 32
          · rw [if_pos c6] at H
            have c6b0 : ((bt a0 x1_1) == 32) = true := beq_iff_eq.mpr c6
            have c6b1 : ((bt a0 x1_1) != 32) = false := bne_eq_false_iff_eq.mpr c6
            clear c6
            have H' := Aside0.mk H
            clear H
            have p5 : 0 ≤ (x1_1 : Int) := of_decide_eq_true (by first | (with_reducible assumption) | assumption)
            have q5 : x1_1 < (a0.size : Int) := of_decide_eq_true (by first | (with_reducible assumption) | assumption)
            have hx5 := bt_at a0 x1_1
            replace p5 := eq_true p5
            replace q5 := eq_true q5
            go_wp2
            go_roundg k1
            case measure => have := HK1.out; omega
            case rel => exact ⟨(wrap64 (x1_1 + 1)), (by first | rfl | (simp; done) | (simp [*]; done)), H', ⟨by have := HK1.out; omega⟩, by repeat (first | exact Drawn0.refl _ | apply Drawn0.step)⟩
          · rw [if_neg c6] at H
            have c6b0 : ((bt a0 x1_1) == 32) = false := beq_eq_false_iff_ne.mpr c6
            have c6b1 : ((bt a0 x1_1) != 32) = true := bne_iff_ne.mpr c6
            by_cases c8 : (bt a0 x1_1) = 9
            · rw [if_pos c8] at H
              have c8b0 : ((bt a0 x1_1) == 9) = true := beq_iff_eq.mpr c8
              have c8b1 : ((bt a0 x1_1) != 9) = false := bne_eq_false_iff_eq.mpr c8
              clear c8
              have H' := Aside0.mk H
              clear H
              have p5 : 0 ≤ (x1_1 : Int) := of_decide_eq_true (by first | (with_reducible assumption) | assumption)
              have q5 : x1_1 < (a0.size : Int) := of_decide_eq_true (by first | (with_reducible assumption) | assumption)
              have hx5 := bt_at a0 x1_1
              replace p5 := eq_true p5
              replace q5 := eq_true q5
              have p7 : 0 ≤ (x1_1 : Int) := of_decide_eq_true (by first | (with_reducible assumption) | assumption)
              have q7 : x1_1 < (a0.size : Int) := of_decide_eq_true (by first | (with_reducible assumption) | assumption)
              have hx7 := bt_at a0 x1_1
              replace p7 := eq_true p7
              replace q7 := eq_true q7
              go_wp2
              go_roundg k1
              case measure => have := HK1.out; omega
              case rel => exact ⟨(wrap64 (x1_1 + 1)), (by first | rfl | (simp; done) | (simp [*]; done)), H', ⟨by have := HK1.out; omega⟩, by repeat (first | exact Drawn0.refl _ | apply Drawn0.step)⟩
            · rw [if_neg c8] at H
              have c8b0 : ((bt a0 x1_1) == 9) = false := beq_eq_false_iff_ne.mpr c8
              have c8b1 : ((bt a0 x1_1) != 9) = true := bne_iff_ne.mpr c8
              by_cases c10 : (bt a0 x1_1) = 10
              · rw [if_pos c10] at H
                have c10b0 : ((bt a0 x1_1) == 10) = true := beq_iff_eq.mpr c10
                have c10b1 : ((bt a0 x1_1) != 10) = false := bne_eq_false_iff_eq.mpr c10
                clear c10
                have H' := Aside0.mk H
                clear H
                have p5 : 0 ≤ (x1_1 : Int) := of_decide_eq_true (by first | (with_reducible assumption) | assumption)
                have q5 : x1_1 < (a0.size : Int) := of_decide_eq_true (by first | (with_reducible assumption) | assumption)
                have hx5 := bt_at a0 x1_1
                replace p5 := eq_true p5
                replace q5 := eq_true q5
                have p7 : 0 ≤ (x1_1 : Int) := of_decide_eq_true (by first | (with_reducible assumption) | assumption)
                have q7 : x1_1 < (a0.size : Int) := of_decide_eq_true (by first | (with_reducible assumption) | assumption)
                have hx7 := bt_at a0 x1_1
                replace p7 := eq_true p7
                replace q7 := eq_true q7
                have p9 : 0 ≤ (x1_1 : Int) := of_decide_eq_true (by first | (with_reducible assumption) | assumption)
                have q9 : x1_1 < (a0.size : Int) := of_decide_eq_true (by first | (with_reducible assumption) | assumption)
                have hx9 := bt_at a0 x1_1
                replace p9 := eq_true p9
                replace q9 := eq_true q9
                go_wp2
                go_roundg k1
                case measure => have := HK1.out; omega
                case rel => exact ⟨(wrap64 (x1_1 + 1)), (by first | rfl | (simp; done) | (simp [*]; done)), H', ⟨by have := HK1.out; omega⟩, by repeat (first | exact Drawn0.refl _ | apply Drawn0.step)⟩
              · rw [if_neg c10] at H
                have c10b0 : ((bt a0 x1_1) == 10) = false := beq_eq_false_iff_ne.mpr c10
                have c10b1 : ((bt a0 x1_1) != 10) = true := bne_iff_ne.mpr c10
                by_cases c12 : (bt a0 x1_1) = 12
                · rw [if_pos c12] at H
                  have c12b0 : ((bt a0 x1_1) == 12) = true := beq_iff_eq.mpr c12
                  have c12b1 : ((bt a0 x1_1) != 12) = false := bne_eq_false_iff_eq.mpr c12
                  clear c12
                  have H' := Aside0.mk H
                  clear H
                  have p5 : 0 ≤ (x1_1 : Int) := of_decide_eq_true (by first | (with_reducible assumption) | assumption)
                  have q5 : x1_1 < (a0.size : Int) := of_decide_eq_true (by first | (with_reducible assumption) | assumption)
                  have hx5 := bt_at a0 x1_1
                  replace p5 := eq_true p5
                  replace q5 := eq_true q5
                  have p7 : 0 ≤ (x1_1 : Int) := of_decide_eq_true (by first | (with_reducible assumption) | assumption)
                  have q7 : x1_1 < (a0.size : Int) := of_decide_eq_true (by first | (with_reducible assumption) | assumption)
                  have hx7 := bt_at a0 x1_1
                  replace p7 := eq_true p7
                  replace q7 := eq_true q7
                  have p9 : 0 ≤ (x1_1 : Int) := of_decide_eq_true (by first | (with_reducible assumption) | assumption)
                  have q9 : x1_1 < (a0.size : Int) := of_decide_eq_true (by first | (with_reducible assumption) | assumption)
                  have hx9 := bt_at a0 x1_1
                  replace p9 := eq_true p9
                  replace q9 := eq_true q9
                  have p11 : 0 ≤ (x1_1 : Int) := of_decide_eq_true (by first | (with_reducible assumption) | assumption)
                  have q11 : x1_1 < (a0.size : Int) := of_decide_eq_true (by first | (with_reducible assumption) | assumption)
                  have hx11 := bt_at a0 x1_1
                  replace p11 := eq_true p11
                  replace q11 := eq_true q11
                  go_wp2
                  go_roundg k1
                  case measure => have := HK1.out; omega
                  case rel => exact ⟨(wrap64 (x1_1 + 1)), (by first | rfl | (simp; done) | (simp [*]; done)), H', ⟨by have := HK1.out; omega⟩, by repeat (first | exact Drawn0.refl _ | apply Drawn0.step)⟩
                · rw [if_neg c12] at H
                  have c12b0 : ((bt a0 x1_1) == 12) = false := beq_eq_false_iff_ne.mpr c12
                  have c12b1 : ((bt a0 x1_1) != 12) = true := bne_iff_ne.mpr c12
                  by_cases c14 : (bt a0 x1_1) = 13
                  · rw [if_pos c14] at H
                    have c14b0 : ((bt a0 x1_1) == 13) = true := beq_iff_eq.mpr c14
                    have c14b1 : ((bt a0 x1_1) != 13) = false := bne_eq_false_iff_eq.mpr c14
                    clear c14
                    have H' := Aside0.mk H
                    clear H
                    have p5 : 0 ≤ (x1_1 : Int) := of_decide_eq_true (by first | (with_reducible assumption) | assumption)
                    have q5 : x1_1 < (a0.size : Int) := of_decide_eq_true (by first | (with_reducible assumption) | assumption)
                    have hx5 := bt_at a0 x1_1
                    replace p5 := eq_true p5
                    replace q5 := eq_true q5
                    have p7 : 0 ≤ (x1_1 : Int) := of_decide_eq_true (by first | (with_reducible assumption) | assumption)
                    have q7 : x1_1 < (a0.size : Int) := of_decide_eq_true (by first | (with_reducible assumption) | assumption)
                    have hx7 := bt_at a0 x1_1
                    replace p7 := eq_true p7
                    replace q7 := eq_true q7
                    have p9 : 0 ≤ (x1_1 : Int) := of_decide_eq_true (by first | (with_reducible assumption) | assumption)
                    have q9 : x1_1 < (a0.size : Int) := of_decide_eq_true (by first | (with_reducible assumption) | assumption)
                    have hx9 := bt_at a0 x1_1
                    replace p9 := eq_true p9
                    replace q9 := eq_true q9
                    have p11 : 0 ≤ (x1_1 : Int) := of_decide_eq_true (by first | (with_reducible assumption) | assumption)
                    have q11 : x1_1 < (a0.size : Int) := of_decide_eq_true (by first | (with_reducible assumption) | assumption)
                    have hx11 := bt_at a0 x1_1
                    replace p11 := eq_true p11
                    replace q11 := eq_true q11
                    have p13 : 0 ≤ (x1_1 : Int) := of_decide_eq_true (by first | (with_reducible assumption) | assumption)
                    have q13 : x1_1 < (a0.size : Int) := of_decide_eq_true (by first | (with_reducible assumption) | assumption)
                    have hx13 := bt_at a0 x1_1
                    replace p13 := eq_true p13
                    replace q13 := eq_true q13
                    go_wp2
                    go_roundg k1
                    case measure => have := HK1.out; omega
                    case rel => exact ⟨(wrap64 (x1_1 + 1)), (by first | rfl | (simp; done) | (simp [*]; done)), H', ⟨by have := HK1.out; omega⟩, by repeat (first | exact Drawn0.refl _ | apply Drawn0.step)⟩
                  · rw [if_neg c14] at H
                    have c14b0 : ((bt a0 x1_1) == 13) = false := beq_eq_false_iff_ne.mpr c14
                    have c14b1 : ((bt a0 x1_1) != 13) = true := bne_iff_ne.mpr c14
                    obtain rfl := Option.some.inj H
                    have p5 : 0 ≤ (x1_1 : Int) := of_decide_eq_true (by first | (with_reducible assumption) | assumption)
                    have q5 : x1_1 < (a0.size : Int) := of_decide_eq_true (by first | (with_reducible assumption) | assumption)
                    have hx5 := bt_at a0 x1_1
                    replace p5 := eq_true p5
                    replace q5 := eq_true q5
                    have p7 : 0 ≤ (x1_1 : Int) := of_decide_eq_true (by first | (with_reducible assumption) | assumption)
                    have q7 : x1_1 < (a0.size : Int) := of_decide_eq_true (by first | (with_reducible assumption) | assumption)
                    have hx7 := bt_at a0 x1_1
                    replace p7 := eq_true p7
                    replace q7 := eq_true q7
                    have p9 : 0 ≤ (x1_1 : Int) := of_decide_eq_true (by first | (with_reducible assumption) | assumption)
                    have q9 : x1_1 < (a0.size : Int) := of_decide_eq_true (by first | (with_reducible assumption) | assumption)
                    have hx9 := bt_at a0 x1_1
                    replace p9 := eq_true p9
                    replace q9 := eq_true q9
                    have p11 : 0 ≤ (x1_1 : Int) := of_decide_eq_true (by first | (with_reducible assumption) | assumption)
                    have q11 : x1_1 < (a0.size : Int) := of_decide_eq_true (by first | (with_reducible assumption) | assumption)
                    have hx11 := bt_at a0 x1_1
                    replace p11 := eq_true p11
                    replace q11 := eq_true q11
                    have p13 : 0 ≤ (x1_1 : Int) := of_decide_eq_true (by first | (with_reducible assumption) | assumption)
                    have q13 : x1_1 < (a0.size : Int) := of_decide_eq_true (by first | (with_reducible assumption) | assumption)
                    have hx13 := bt_at a0 x1_1
                    replace p13 := eq_true p13
                    replace q13 := eq_true q13
                    go_wp2
                    go_ret
                    exact ⟨by first | rfl | (simp; done) | (simp [*]; done), by repeat (first | exact Drawn0.refl _ | apply Drawn0.step)⟩
        · rw [if_neg c4] at H
          exact absurd H (by simp)
      · rw [if_neg c3] at H
        have c3b0 : decide (x1_1 < (a0.size : Int)) = false := decide_eq_false c3
        clear c3
        obtain rfl := Option.some.inj H
        go_wp2
        go_ret
        exact ⟨by first | rfl | (simp; done) | (simp [*]; done), by repeat (first | exact Drawn0.refl _ | apply Drawn0.step)⟩

end Go.Proofs.YtnmhoghmhglimaaDoor.QL
-- WRITTEN BY A PROGRAM OF THIS SESSION (wip/print2.py): the print, with contracts of this session's own let in. Not trusted: Lean checks it.
namespace Go.Proofs.YtnmhoghmhglimaaDoor.QL
open Go.RowKit Go.Proofs.YtnmhoghmhglimaaDoorW.PrintWords Go.Proofs.YtnmhoghmhglimaaDoorW.PrintLast Go.Proofs.YtnmhoghmhglimaaDoorW.PrintMore
attribute [local go_sem] max2_int min2_int max_two min_two max_three min_three max_four min_four   -- for this text's walks alone
set_option linter.unusedVariables false
set_option linter.unusedSimpArgs false

/-! ### sqlx_zzFold: function 89 -/
def sqlx_zzFold.j0 : Nat → ByteArray → Int → Int → Bool → Option (Int)
  | 0, _, _, _, _ => none
  | k + 1, x0, x1, x2, x26 => if x26 = true then (some 1) else (if x2 = 115 then (if (wrap64 (x1 + 1)) < (x0.size : Int) then (if 0 ≤ x1 then (if x1 ≤ (wrap64 (x1 + 2)) then (if (wrap64 (x1 + 2)) ≤ (x0.size : Int) then (if (x0.extract (x1 : Int).toNat ((wrap64 (x1 + 2)) : Int).toNat).toList = ([197, 191] : List UInt8) then (some 2) else (some 0)) else (none)) else (none)) else (none)) else (some 0)) else (some 0))
def sqlx_zzFold.f (k : Nat) (a0 : ByteArray) (a1 : Int) (a2 : Int) : Option (Int) := if a1 < (a0.size : Int) then (if 0 ≤ a1 then (if (bt a0 a1) = a2 then (sqlx_zzFold.j0 k a0 a1 a2 true) else (sqlx_zzFold.j0 k a0 a1 a2 ((bt a0 a1) == ((((a2 - 97) % 256) + 65) % 256)))) else (none)) else (sqlx_zzFold.j0 k a0 a1 a2 false)
set_option maxHeartbeats 8000000 in
set_option maxRecDepth 100000 in
theorem sqlx_zzFold.calls (k : Nat) (a0 : ByteArray) (a1 : Int) (a2 : Int) (r : Int) (w : World) (h : sqlx_zzFold.f k a0 a1 a2 = some r) :
    Calls Tryd.prog 89 #[.string a0, .int .i64 a1, .int .u8 a2] w fun e w' => e = .returned (.int .i64 r) ∧ Drawn0 w w' := by
  have H : (if a1 < (a0.size : Int) then (if 0 ≤ a1 then (if (bt a0 a1) = a2 then (sqlx_zzFold.j0 k a0 a1 a2 true) else (sqlx_zzFold.j0 k a0 a1 a2 ((bt a0 a1) == ((((a2 - 97) % 256) + 65) % 256)))) else (none)) else (sqlx_zzFold.j0 k a0 a1 a2 false)) = some r := h
  clear h
  have HC4 := Aside0.mk H
  clear H
  go_enter Tryd.func89, Tryd.ntmps89
  go_upto_region 1 with (fail)
  go_cut [26] (fun v26 wc => ∃ (kq : Nat) (x26_3 : Bool), v26 = .bool x26_3 ∧ Aside0 (sqlx_zzFold.j0 kq a0 a1 a2 x26_3 = some r) ∧ Aside0 (kq ≤ k) ∧ Drawn0 w wc)
  case first =>
    have H := HC4.out
    clear HC4
    by_cases c5 : a1 < (a0.size : Int)
    · rw [if_pos c5] at H
      have c5b0 : decide (a1 < (a0.size : Int)) = true := decide_eq_true c5
      clear c5
      (first | rw [c5b0] | (simp only [i64_w, i32_w]; rw [c5b0]) | skip)
      by_cases c6 : 0 ≤ a1
      · rw [if_pos c6] at H
        have c6b0 : decide (0 ≤ a1) = true := decide_eq_true c6
        clear c6
        by_cases c8 : (bt a0 a1) = a2
        · rw [if_pos c8] at H
          have c8b0 : ((bt a0 a1) == a2) = true := beq_iff_eq.mpr c8
          have c8b1 : ((bt a0 a1) != a2) = false := bne_eq_false_iff_eq.mpr c8
          clear c8
          have H' := Aside0.mk H
          clear H
          have p7 : 0 ≤ (a1 : Int) := of_decide_eq_true (by first | (with_reducible assumption) | assumption)
          have q7 : a1 < (a0.size : Int) := of_decide_eq_true (by first | (with_reducible assumption) | assumption)
          have hx7 := bt_at a0 a1
          replace p7 := eq_true p7
          replace q7 := eq_true q7
          go_wp2
          go_meet
          case rel => exact ⟨_, (true), (by first | rfl | (simp; done) | (simp [*]; done)), H', ⟨by first | omega | exact Nat.le_refl _⟩, by repeat (first | exact Drawn0.refl _ | apply Drawn0.step)⟩
        · rw [if_neg c8] at H
          have c8b0 : ((bt a0 a1) == a2) = false := beq_eq_false_iff_ne.mpr c8
          have c8b1 : ((bt a0 a1) != a2) = true := bne_iff_ne.mpr c8
          have H' := Aside0.mk H
          clear H
          have p7 : 0 ≤ (a1 : Int) := of_decide_eq_true (by first | (with_reducible assumption) | assumption)
          have q7 : a1 < (a0.size : Int) := of_decide_eq_true (by first | (with_reducible assumption) | assumption)
          have hx7 := bt_at a0 a1
          replace p7 := eq_true p7
          replace q7 := eq_true q7
          have p9 : 0 ≤ (a1 : Int) := of_decide_eq_true (by first | (with_reducible assumption) | assumption)
          have q9 : a1 < (a0.size : Int) := of_decide_eq_true (by first | (with_reducible assumption) | assumption)
          have hx9 := bt_at a0 a1
          replace p9 := eq_true p9
          replace q9 := eq_true q9
          go_wp2
          go_meet
          case rel => exact ⟨_, (((bt a0 a1) == ((((a2 - 97) % 256) + 65) % 256))), (by first | rfl | (simp; done) | (simp [*]; done)), H', ⟨by first | omega | exact Nat.le_refl _⟩, by repeat (first | exact Drawn0.refl _ | apply Drawn0.step)⟩
      · rw [if_neg c6] at H
        exact absurd H (by simp)
    · rw [if_neg c5] at H
      have c5b0 : decide (a1 < (a0.size : Int)) = false := decide_eq_false c5
      clear c5
      (first | rw [c5b0] | (simp only [i64_w, i32_w]; rw [c5b0]) | skip)
      have H' := Aside0.mk H
      clear H
      go_wp2
      go_meet
      case rel => exact ⟨_, (false), (by first | rfl | (simp; done) | (simp [*]; done)), H', ⟨by first | omega | exact Nat.le_refl _⟩, by repeat (first | exact Drawn0.refl _ | apply Drawn0.step)⟩
  case rest =>
    clear HC4
    try clear p2
    try clear c5
    try clear c5b0
    try clear c6
    try clear c6b0
    try clear p7
    try clear q7
    try clear hx7
    try clear c8
    try clear c8b0
    try clear c8b1
    try clear p9
    try clear q9
    try clear hx9
    try clear p7
    try clear p9
    try clear q7
    try clear q9
    obtain ⟨kq, x26_3, rfl, HA, HJ3, ⟨mc3, rfl⟩⟩ := hcut
    cases kq with
    | zero => exact absurd HA.out (by simp [sqlx_zzFold.j0])
    | succ kj3 =>
      have H := HA.out
      clear HA
      simp only [sqlx_zzFold.j0] at H
      by_cases c10 : x26_3 = true
      · subst c10
        have H1 : (some 1) = some r := by rw [if_pos rfl] at H; exact H
        clear H
        have H := H1
        clear H1
        obtain rfl := Option.some.inj H
        go_wp2
        go_ret
        exact ⟨by first | rfl | (simp; done) | (simp [*]; done), by repeat (first | exact Drawn0.refl _ | apply Drawn0.step)⟩
      · replace c10 := Bool.eq_false_iff.mpr c10
        subst c10
        have H1 : (if a2 = 115 then (if (wrap64 (a1 + 1)) < (a0.size : Int) then (if 0 ≤ a1 then (if a1 ≤ (wrap64 (a1 + 2)) then (if (wrap64 (a1 + 2)) ≤ (a0.size : Int) then (if (a0.extract (a1 : Int).toNat ((wrap64 (a1 + 2)) : Int).toNat).toList = ([197, 191] : List UInt8) then (some 2) else (some 0)) else (none)) else (none)) else (none)) else (some 0)) else (some 0)) = some r := by rw [if_neg (show ¬ (false = true) by decide)] at H; exact H
        clear H
        have H := H1
        clear H1
        by_cases c11 : a2 = 115
        · rw [if_pos c11] at H
          have c11b0 : (a2 == 115) = true := beq_iff_eq.mpr c11
          have c11b1 : (a2 != 115) = false := bne_eq_false_iff_eq.mpr c11
          clear c11
          by_cases c12 : (wrap64 (a1 + 1)) < (a0.size : Int)
          · rw [if_pos c12] at H
            have c12b0 : decide ((wrap64 (a1 + 1)) < (a0.size : Int)) = true := decide_eq_true c12
            clear c12
            by_cases c13 : 0 ≤ a1
            · rw [if_pos c13] at H
              have c13b0 := eq_true c13
              have c13b1 : decide (0 ≤ a1) = true := decide_eq_true c13
              clear c13
              by_cases c14 : a1 ≤ (wrap64 (a1 + 2))
              · rw [if_pos c14] at H
                have c14b0 := eq_true c14
                have c14b1 : decide (a1 ≤ (wrap64 (a1 + 2))) = true := decide_eq_true c14
                by_cases c15 : (wrap64 (a1 + 2)) ≤ (a0.size : Int)
                · rw [if_pos c15] at H
                  have c15b0 := eq_true c15
                  have c15b1 : decide ((wrap64 (a1 + 2)) ≤ (a0.size : Int)) = true := decide_eq_true c15
                  by_cases c16 : (a0.extract (a1 : Int).toNat ((wrap64 (a1 + 2)) : Int).toNat).toList = ([197, 191] : List UInt8)
                  · rw [if_pos c16] at H
                    have c16b0 : ((a0.extract (a1 : Int).toNat ((wrap64 (a1 + 2)) : Int).toNat).toList == ([197, 191] : List UInt8)) = true := beq_iff_eq.mpr c16
                    have c16b1 : ((a0.extract (a1 : Int).toNat ((wrap64 (a1 + 2)) : Int).toNat).toList != ([197, 191] : List UInt8)) = false := bne_eq_false_iff_eq.mpr c16
                    clear c16
                    obtain rfl := Option.some.inj H
                    go_wp2
                    go_ret
                    exact ⟨by first | rfl | (simp; done) | (simp [*]; done), by repeat (first | exact Drawn0.refl _ | apply Drawn0.step)⟩
                  · rw [if_neg c16] at H
                    have c16b0 : ((a0.extract (a1 : Int).toNat ((wrap64 (a1 + 2)) : Int).toNat).toList == ([197, 191] : List UInt8)) = false := beq_eq_false_iff_ne.mpr c16
                    have c16b1 : ((a0.extract (a1 : Int).toNat ((wrap64 (a1 + 2)) : Int).toNat).toList != ([197, 191] : List UInt8)) = true := bne_iff_ne.mpr c16
                    obtain rfl := Option.some.inj H
                    go_wp2
                    go_ret
                    exact ⟨by first | rfl | (simp; done) | (simp [*]; done), by repeat (first | exact Drawn0.refl _ | apply Drawn0.step)⟩
                · rw [if_neg c15] at H
                  exact absurd H (by simp)
              · rw [if_neg c14] at H
                exact absurd H (by simp)
            · rw [if_neg c13] at H
              exact absurd H (by simp)
          · rw [if_neg c12] at H
            have c12b0 : decide ((wrap64 (a1 + 1)) < (a0.size : Int)) = false := decide_eq_false c12
            clear c12
            obtain rfl := Option.some.inj H
            go_wp2
            go_ret
            exact ⟨by first | rfl | (simp; done) | (simp [*]; done), by repeat (first | exact Drawn0.refl _ | apply Drawn0.step)⟩
        · rw [if_neg c11] at H
          have c11b0 : (a2 == 115) = false := beq_eq_false_iff_ne.mpr c11
          have c11b1 : (a2 != 115) = true := bne_iff_ne.mpr c11
          obtain rfl := Option.some.inj H
          go_wp2
          go_ret
          exact ⟨by first | rfl | (simp; done) | (simp [*]; done), by repeat (first | exact Drawn0.refl _ | apply Drawn0.step)⟩

end Go.Proofs.YtnmhoghmhglimaaDoor.QL
