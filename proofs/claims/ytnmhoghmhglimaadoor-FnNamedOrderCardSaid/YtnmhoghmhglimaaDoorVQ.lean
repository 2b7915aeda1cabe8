/-
  MERGED BY A PROGRAM OF THIS SESSION (wip/pack.py): QL0, QL1, QL2, QL3, QL4.
-/
import Derived.Test.YtnmhoghmhglimaaDoorProg
import Derived.Below
import Derived.Deep.Draws
import Derived.Deep.AppendLies
import Derived.Maps.AppendAt
import Derived.OwnWalk
import Derived.Laws.BytesArg
import Derived.Laws.MakeOwn
import Derived.Laws.OwnMore
import Derived.Deep.OwnRows
import Derived.Tactics
import Derived.Lib.ConvBytes
import Derived.Laws.Slices
import Derived.WalkKit
import Derived.KernelRfl
import Derived.RowKit3
import Derived.Deep.LoopGhost
import Derived.Deep.QuietTactic
import Derived.BigQuiet
import Derived.WideLaws
import Derived.Deep.DeepCutAuto
import Derived.Deep.CutBlock
import Derived.Deep.RegionHeld3
import Derived.Laws.Rows
import Derived.Lib.AppendStr
import Derived.ArgAppend
import Derived.Laws.IdiomCopy
import Derived.OrdersHeld
import Derived.Laws.BitsLemmas
import Derived.RowKit
import Derived.Test.YtnmhoghmhglimaaDoorVA
-- WRITTEN BY A PROGRAM OF THIS SESSION (wip/print2.py): the print, with contracts of this session's own let in. Not trusted: Lean checks it.
namespace Go.Proofs.YtnmhoghmhglimaaDoor.QL
open Go.RowKit Go.Proofs.YtnmhoghmhglimaaDoorW.PrintWords Go.Proofs.YtnmhoghmhglimaaDoorW.PrintLast Go.Proofs.YtnmhoghmhglimaaDoorW.PrintMore
attribute [local go_sem] max2_int min2_int max_two min_two max_three min_three max_four min_four   -- for this text's walks alone
set_option linter.unusedVariables false
set_option linter.unusedSimpArgs false



def errW : Option Int → Value
  | none => .nilIface
  | some c => .iface 0 (.int .i64 c)
theorem errW_none : errW none = .nilIface := rfl
theorem errW_some (c : Int) : errW (some c) = .iface 0 (.int .i64 c) := rfl

-- the values' own types

end Go.Proofs.YtnmhoghmhglimaaDoor.QL
-- WRITTEN BY A PROGRAM OF THIS SESSION (wip/print2.py): the print, with contracts of this session's own let in. Not trusted: Lean checks it.
namespace Go.Proofs.YtnmhoghmhglimaaDoor.QL
open Go.RowKit Go.Proofs.YtnmhoghmhglimaaDoorW.PrintWords Go.Proofs.YtnmhoghmhglimaaDoorW.PrintLast Go.Proofs.YtnmhoghmhglimaaDoorW.PrintMore
attribute [local go_sem] max2_int min2_int max_two min_two max_three min_three max_four min_four   -- for this text's walks alone
set_option linter.unusedVariables false
set_option linter.unusedSimpArgs false

/-! ### sqlx_zzIndex: function 64 -/
def sqlx_zzIndex.l0 : Nat → ByteArray → ByteArray → Int → Option (Int)
  | 0, _, _, _ => none
  | k + 1, x0, x1, x5 => if (wrap64 (x5 + (x1.size : Int))) ≤ (x0.size : Int) then (if 0 ≤ x5 then (if x5 ≤ (wrap64 (x5 + (x1.size : Int))) then (if (x0.extract (x5 : Int).toNat ((wrap64 (x5 + (x1.size : Int))) : Int).toNat).toList = x1.toList then (some x5) else (sqlx_zzIndex.l0 k x0 x1 (wrap64 (x5 + 1)))) else (none)) else (none)) else (some (-1))
def sqlx_zzIndex.f (k : Nat) (a0 : ByteArray) (a1 : ByteArray) : Option (Int) := sqlx_zzIndex.l0 k a0 a1 0
end Go.Proofs.YtnmhoghmhglimaaDoor.QL
-- WRITTEN BY A PROGRAM OF THIS SESSION (wip/print2.py): the print, with contracts of this session's own let in. Not trusted: Lean checks it.
namespace Go.Proofs.YtnmhoghmhglimaaDoor.QL
open Go.RowKit Go.Proofs.YtnmhoghmhglimaaDoorW.PrintWords Go.Proofs.YtnmhoghmhglimaaDoorW.PrintLast Go.Proofs.YtnmhoghmhglimaaDoorW.PrintMore
attribute [local go_sem] max2_int min2_int max_two min_two max_three min_three max_four min_four   -- for this text's walks alone
set_option linter.unusedVariables false
set_option linter.unusedSimpArgs false

/-! ### sqlx_zzAllowed: function 83 -/
def sqlx_zzAllowed.f (a0 : Int) : Option (Bool) := if a0 ≥ 97 then (if a0 ≤ 122 then (some true) else (if a0 ≥ 65 then (if a0 ≤ 90 then (some true) else (if a0 ≥ 48 then (if a0 ≤ 57 then (some true) else (if a0 = 170 then (some true) else (if a0 = 181 then (some true) else (if a0 = 186 then (some true) else (if a0 ≥ 192 then (if a0 = 215 then (some false) else (some (a0 != 247))) else (some false)))))) else (if a0 = 170 then (some true) else (if a0 = 181 then (some true) else (if a0 = 186 then (some true) else (if a0 ≥ 192 then (if a0 = 215 then (some false) else (some (a0 != 247))) else (some false))))))) else (if a0 ≥ 48 then (if a0 ≤ 57 then (some true) else (if a0 = 170 then (some true) else (if a0 = 181 then (some true) else (if a0 = 186 then (some true) else (if a0 ≥ 192 then (if a0 = 215 then (some false) else (some (a0 != 247))) else (some false)))))) else (if a0 = 170 then (some true) else (if a0 = 181 then (some true) else (if a0 = 186 then (some true) else (if a0 ≥ 192 then (if a0 = 215 then (some false) else (some (a0 != 247))) else (some false)))))))) else (if a0 ≥ 65 then (if a0 ≤ 90 then (some true) else (if a0 ≥ 48 then (if a0 ≤ 57 then (some true) else (if a0 = 170 then (some true) else (if a0 = 181 then (some true) else (if a0 = 186 then (some true) else (if a0 ≥ 192 then (if a0 = 215 then (some false) else (some (a0 != 247))) else (some false)))))) else (if a0 = 170 then (some true) else (if a0 = 181 then (some true) else (if a0 = 186 then (some true) else (if a0 ≥ 192 then (if a0 = 215 then (some false) else (some (a0 != 247))) else (some false))))))) else (if a0 ≥ 48 then (if a0 ≤ 57 then (some true) else (if a0 = 170 then (some true) else (if a0 = 181 then (some true) else (if a0 = 186 then (some true) else (if a0 ≥ 192 then (if a0 = 215 then (some false) else (some (a0 != 247))) else (some false)))))) else (if a0 = 170 then (some true) else (if a0 = 181 then (some true) else (if a0 = 186 then (some true) else (if a0 ≥ 192 then (if a0 = 215 then (some false) else (some (a0 != 247))) else (some false)))))))
set_option maxHeartbeats 8000000 in
set_option maxRecDepth 100000 in
theorem sqlx_zzAllowed.calls (a0 : Int) (r : Bool) (w : World) (h : sqlx_zzAllowed.f a0 = some r) :
    Calls Tryd.prog 83 #[.int .u8 a0] w fun e w' => e = .returned (.bool r) ∧ Drawn0 w w' := by
  have H : (if a0 ≥ 97 then (if a0 ≤ 122 then (some true) else (if a0 ≥ 65 then (if a0 ≤ 90 then (some true) else (if a0 ≥ 48 then (if a0 ≤ 57 then (some true) else (if a0 = 170 then (some true) else (if a0 = 181 then (some true) else (if a0 = 186 then (some true) else (if a0 ≥ 192 then (if a0 = 215 then (some false) else (some (a0 != 247))) else (some false)))))) else (if a0 = 170 then (some true) else (if a0 = 181 then (some true) else (if a0 = 186 then (some true) else (if a0 ≥ 192 then (if a0 = 215 then (some false) else (some (a0 != 247))) else (some false))))))) else (if a0 ≥ 48 then (if a0 ≤ 57 then (some true) else (if a0 = 170 then (some true) else (if a0 = 181 then (some true) else (if a0 = 186 then (some true) else (if a0 ≥ 192 then (if a0 = 215 then (some false) else (some (a0 != 247))) else (some false)))))) else (if a0 = 170 then (some true) else (if a0 = 181 then (some true) else (if a0 = 186 then (some true) else (if a0 ≥ 192 then (if a0 = 215 then (some false) else (some (a0 != 247))) else (some false)))))))) else (if a0 ≥ 65 then (if a0 ≤ 90 then (some true) else (if a0 ≥ 48 then (if a0 ≤ 57 then (some true) else (if a0 = 170 then (some true) else (if a0 = 181 then (some true) else (if a0 = 186 then (some true) else (if a0 ≥ 192 then (if a0 = 215 then (some false) else (some (a0 != 247))) else (some false)))))) else (if a0 = 170 then (some true) else (if a0 = 181 then (some true) else (if a0 = 186 then (some true) else (if a0 ≥ 192 then (if a0 = 215 then (some false) else (some (a0 != 247))) else (some false))))))) else (if a0 ≥ 48 then (if a0 ≤ 57 then (some true) else (if a0 = 170 then (some true) else (if a0 = 181 then (some true) else (if a0 = 186 then (some true) else (if a0 ≥ 192 then (if a0 = 215 then (some false) else (some (a0 != 247))) else (some false)))))) else (if a0 = 170 then (some true) else (if a0 = 181 then (some true) else (if a0 = 186 then (some true) else (if a0 ≥ 192 then (if a0 = 215 then (some false) else (some (a0 != 247))) else (some false)))))))) = some r := h
  clear h
  by_cases c2 : a0 ≥ 97
  · rw [if_pos c2] at H
    have c2b0 : decide (97 ≤ a0) = true := decide_eq_true c2
    clear c2
    by_cases c3 : a0 ≤ 122
    · rw [if_pos c3] at H
      have c3b0 : decide (a0 ≤ 122) = true := decide_eq_true c3
      clear c3
      obtain rfl := Option.some.inj H
      go_enter Tryd.func83, Tryd.ntmps83
      go_wp2
      go_ret
      exact ⟨by first | rfl | (simp; done) | (simp [*]; done), by repeat (first | exact Drawn0.refl _ | apply Drawn0.step)⟩
    · rw [if_neg c3] at H
      have c3b0 : decide (a0 ≤ 122) = false := decide_eq_false c3
      clear c3
      by_cases c4 : a0 ≥ 65
      · rw [if_pos c4] at H
        have c4b0 : decide (65 ≤ a0) = true := decide_eq_true c4
        clear c4
        by_cases c5 : a0 ≤ 90
        · rw [if_pos c5] at H
          have c5b0 : decide (a0 ≤ 90) = true := decide_eq_true c5
          clear c5
          obtain rfl := Option.some.inj H
          go_enter Tryd.func83, Tryd.ntmps83
          go_wp2
          go_ret
          exact ⟨by first | rfl | (simp; done) | (simp [*]; done), by repeat (first | exact Drawn0.refl _ | apply Drawn0.step)⟩
        · rw [if_neg c5] at H
          have c5b0 : decide (a0 ≤ 90) = false := decide_eq_false c5
          clear c5
          by_cases c6 : a0 ≥ 48
          · rw [if_pos c6] at H
            have c6b0 : decide (48 ≤ a0) = true := decide_eq_true c6
            clear c6
            by_cases c7 : a0 ≤ 57
            · rw [if_pos c7] at H
              have c7b0 : decide (a0 ≤ 57) = true := decide_eq_true c7
              clear c7
              obtain rfl := Option.some.inj H
              go_enter Tryd.func83, Tryd.ntmps83
              go_wp2
              go_ret
              exact ⟨by first | rfl | (simp; done) | (simp [*]; done), by repeat (first | exact Drawn0.refl _ | apply Drawn0.step)⟩
            · rw [if_neg c7] at H
              have c7b0 : decide (a0 ≤ 57) = false := decide_eq_false c7
              clear c7
              by_cases c8 : a0 = 170
              · rw [if_pos c8] at H
                have c8b0 : (a0 == 170) = true := beq_iff_eq.mpr c8
                have c8b1 : (a0 != 170) = false := bne_eq_false_iff_eq.mpr c8
                clear c8
                obtain rfl := Option.some.inj H
                go_enter Tryd.func83, Tryd.ntmps83
                go_wp2
                go_ret
                exact ⟨by first | rfl | (simp; done) | (simp [*]; done), by repeat (first | exact Drawn0.refl _ | apply Drawn0.step)⟩
              · rw [if_neg c8] at H
                have c8b0 : (a0 == 170) = false := beq_eq_false_iff_ne.mpr c8
                have c8b1 : (a0 != 170) = true := bne_iff_ne.mpr c8
                by_cases c9 : a0 = 181
                · rw [if_pos c9] at H
                  have c9b0 : (a0 == 181) = true := beq_iff_eq.mpr c9
                  have c9b1 : (a0 != 181) = false := bne_eq_false_iff_eq.mpr c9
                  clear c9
                  obtain rfl := Option.some.inj H
                  go_enter Tryd.func83, Tryd.ntmps83
                  go_wp2
                  go_ret
                  exact ⟨by first | rfl | (simp; done) | (simp [*]; done), by repeat (first | exact Drawn0.refl _ | apply Drawn0.step)⟩
                · rw [if_neg c9] at H
                  have c9b0 : (a0 == 181) = false := beq_eq_false_iff_ne.mpr c9
                  have c9b1 : (a0 != 181) = true := bne_iff_ne.mpr c9
                  by_cases c10 : a0 = 186
                  · rw [if_pos c10] at H
                    have c10b0 : (a0 == 186) = true := beq_iff_eq.mpr c10
                    have c10b1 : (a0 != 186) = false := bne_eq_false_iff_eq.mpr c10
                    clear c10
                    obtain rfl := Option.some.inj H
                    go_enter Tryd.func83, Tryd.ntmps83
                    go_wp2
                    go_ret
                    exact ⟨by first | rfl | (simp; done) | (simp [*]; done), by repeat (first | exact Drawn0.refl _ | apply Drawn0.step)⟩
                  · rw [if_neg c10] at H
                    have c10b0 : (a0 == 186) = false := beq_eq_false_iff_ne.mpr c10
                    have c10b1 : (a0 != 186) = true := bne_iff_ne.mpr c10
                    by_cases c11 : a0 ≥ 192
                    · rw [if_pos c11] at H
                      have c11b0 : decide (192 ≤ a0) = true := decide_eq_true c11
                      clear c11
                      by_cases c12 : a0 = 215
                      · rw [if_pos c12] at H
                        have c12b0 : (a0 == 215) = true := beq_iff_eq.mpr c12
                        have c12b1 : (a0 != 215) = false := bne_eq_false_iff_eq.mpr c12
                        clear c12
                        obtain rfl := Option.some.inj H
                        go_enter Tryd.func83, Tryd.ntmps83
                        go_wp2
                        go_ret
                        exact ⟨by first | rfl | (simp; done) | (simp [*]; done), by repeat (first | exact Drawn0.refl _ | apply Drawn0.step)⟩
                      · rw [if_neg c12] at H
                        have c12b0 : (a0 == 215) = false := beq_eq_false_iff_ne.mpr c12
                        have c12b1 : (a0 != 215) = true := bne_iff_ne.mpr c12
                        obtain rfl := Option.some.inj H
                        go_enter Tryd.func83, Tryd.ntmps83
                        go_wp2
                        go_ret
                        exact ⟨by first | rfl | (simp; done) | (simp [*]; done), by repeat (first | exact Drawn0.refl _ | apply Drawn0.step)⟩
                    · rw [if_neg c11] at H
                      have c11b0 : decide (192 ≤ a0) = false := decide_eq_false c11
                      clear c11
                      obtain rfl := Option.some.inj H
                      go_enter Tryd.func83, Tryd.ntmps83
                      go_wp2
                      go_ret
                      exact ⟨by first | rfl | (simp; done) | (simp [*]; done), by repeat (first | exact Drawn0.refl _ | apply Drawn0.step)⟩
          · rw [if_neg c6] at H
            have c6b0 : decide (48 ≤ a0) = false := decide_eq_false c6
            clear c6
            by_cases c13 : a0 = 170
            · rw [if_pos c13] at H
              have c13b0 : (a0 == 170) = true := beq_iff_eq.mpr c13
              have c13b1 : (a0 != 170) = false := bne_eq_false_iff_eq.mpr c13
              clear c13
              obtain rfl := Option.some.inj H
              go_enter Tryd.func83, Tryd.ntmps83
              go_wp2
              go_ret
              exact ⟨by first | rfl | (simp; done) | (simp [*]; done), by repeat (first | exact Drawn0.refl _ | apply Drawn0.step)⟩
            · rw [if_neg c13] at H
              have c13b0 : (a0 == 170) = false := beq_eq_false_iff_ne.mpr c13
              have c13b1 : (a0 != 170) = true := bne_iff_ne.mpr c13
              by_cases c14 : a0 = 181
              · rw [if_pos c14] at H
                have c14b0 : (a0 == 181) = true := beq_iff_eq.mpr c14
                have c14b1 : (a0 != 181) = false := bne_eq_false_iff_eq.mpr c14
                clear c14
                obtain rfl := Option.some.inj H
                go_enter Tryd.func83, Tryd.ntmps83
                go_wp2
                go_ret
                exact ⟨by first | rfl | (simp; done) | (simp [*]; done), by repeat (first | exact Drawn0.refl _ | apply Drawn0.step)⟩
              · rw [if_neg c14] at H
                have c14b0 : (a0 == 181) = false := beq_eq_false_iff_ne.mpr c14
                have c14b1 : (a0 != 181) = true := bne_iff_ne.mpr c14
                by_cases c15 : a0 = 186
                · rw [if_pos c15] at H
                  have c15b0 : (a0 == 186) = true := beq_iff_eq.mpr c15
                  have c15b1 : (a0 != 186) = false := bne_eq_false_iff_eq.mpr c15
                  clear c15
                  obtain rfl := Option.some.inj H
                  go_enter Tryd.func83, Tryd.ntmps83
                  go_wp2
                  go_ret
                  exact ⟨by first | rfl | (simp; done) | (simp [*]; done), by repeat (first | exact Drawn0.refl _ | apply Drawn0.step)⟩
                · rw [if_neg c15] at H
                  have c15b0 : (a0 == 186) = false := beq_eq_false_iff_ne.mpr c15
                  have c15b1 : (a0 != 186) = true := bne_iff_ne.mpr c15
                  by_cases c16 : a0 ≥ 192
                  · rw [if_pos c16] at H
                    have c16b0 : decide (192 ≤ a0) = true := decide_eq_true c16
                    clear c16
                    by_cases c17 : a0 = 215
                    · rw [if_pos c17] at H
                      have c17b0 : (a0 == 215) = true := beq_iff_eq.mpr c17
                      have c17b1 : (a0 != 215) = false := bne_eq_false_iff_eq.mpr c17
                      clear c17
                      obtain rfl := Option.some.inj H
                      go_enter Tryd.func83, Tryd.ntmps83
                      go_wp2
                      go_ret
                      exact ⟨by first | rfl | (simp; done) | (simp [*]; done), by repeat (first | exact Drawn0.refl _ | apply Drawn0.step)⟩
                    · rw [if_neg c17] at H
                      have c17b0 : (a0 == 215) = false := beq_eq_false_iff_ne.mpr c17
                      have c17b1 : (a0 != 215) = true := bne_iff_ne.mpr c17
                      obtain rfl := Option.some.inj H
                      go_enter Tryd.func83, Tryd.ntmps83
                      go_wp2
                      go_ret
                      exact ⟨by first | rfl | (simp; done) | (simp [*]; done), by repeat (first | exact Drawn0.refl _ | apply Drawn0.step)⟩
                  · rw [if_neg c16] at H
                    have c16b0 : decide (192 ≤ a0) = false := decide_eq_false c16
                    clear c16
                    obtain rfl := Option.some.inj H
                    go_enter Tryd.func83, Tryd.ntmps83
                    go_wp2
                    go_ret
                    exact ⟨by first | rfl | (simp; done) | (simp [*]; done), by repeat (first | exact Drawn0.refl _ | apply Drawn0.step)⟩
      · rw [if_neg c4] at H
        have c4b0 : decide (65 ≤ a0) = false := decide_eq_false c4
        clear c4
        by_cases c18 : a0 ≥ 48
        · rw [if_pos c18] at H
          have c18b0 : decide (48 ≤ a0) = true := decide_eq_true c18
          clear c18
          by_cases c19 : a0 ≤ 57
          · rw [if_pos c19] at H
            have c19b0 : decide (a0 ≤ 57) = true := decide_eq_true c19
            clear c19
            obtain rfl := Option.some.inj H
            go_enter Tryd.func83, Tryd.ntmps83
            go_wp2
            go_ret
            exact ⟨by first | rfl | (simp; done) | (simp [*]; done), by repeat (first | exact Drawn0.refl _ | apply Drawn0.step)⟩
          · rw [if_neg c19] at H
            have c19b0 : decide (a0 ≤ 57) = false := decide_eq_false c19
            clear c19
            by_cases c20 : a0 = 170
            · rw [if_pos c20] at H
              have c20b0 : (a0 == 170) = true := beq_iff_eq.mpr c20
              have c20b1 : (a0 != 170) = false := bne_eq_false_iff_eq.mpr c20
              clear c20
              obtain rfl := Option.some.inj H
              go_enter Tryd.func83, Tryd.ntmps83
              go_wp2
              go_ret
              exact ⟨by first | rfl | (simp; done) | (simp [*]; done), by repeat (first | exact Drawn0.refl _ | apply Drawn0.step)⟩
            · rw [if_neg c20] at H
              have c20b0 : (a0 == 170) = false := beq_eq_false_iff_ne.mpr c20
              have c20b1 : (a0 != 170) = true := bne_iff_ne.mpr c20
              by_cases c21 : a0 = 181
              · rw [if_pos c21] at H
                have c21b0 : (a0 == 181) = true := beq_iff_eq.mpr c21
                have c21b1 : (a0 != 181) = false := bne_eq_false_iff_eq.mpr c21
                clear c21
                obtain rfl := Option.some.inj H
                go_enter Tryd.func83, Tryd.ntmps83
                go_wp2
                go_ret
                exact ⟨by first | rfl | (simp; done) | (simp [*]; done), by repeat (first | exact Drawn0.refl _ | apply Drawn0.step)⟩
              · rw [if_neg c21] at H
                have c21b0 : (a0 == 181) = false := beq_eq_false_iff_ne.mpr c21
                have c21b1 : (a0 != 181) = true := bne_iff_ne.mpr c21
                by_cases c22 : a0 = 186
                · rw [if_pos c22] at H
                  have c22b0 : (a0 == 186) = true := beq_iff_eq.mpr c22
                  have c22b1 : (a0 != 186) = false := bne_eq_false_iff_eq.mpr c22
                  clear c22
                  obtain rfl := Option.some.inj H
                  go_enter Tryd.func83, Tryd.ntmps83
                  go_wp2
                  go_ret
                  exact ⟨by first | rfl | (simp; done) | (simp [*]; done), by repeat (first | exact Drawn0.refl _ | apply Drawn0.step)⟩
                · rw [if_neg c22] at H
                  have c22b0 : (a0 == 186) = false := beq_eq_false_iff_ne.mpr c22
                  have c22b1 : (a0 != 186) = true := bne_iff_ne.mpr c22
                  by_cases c23 : a0 ≥ 192
                  · rw [if_pos c23] at H
                    have c23b0 : decide (192 ≤ a0) = true := decide_eq_true c23
                    clear c23
                    by_cases c24 : a0 = 215
                    · rw [if_pos c24] at H
                      have c24b0 : (a0 == 215) = true := beq_iff_eq.mpr c24
                      have c24b1 : (a0 != 215) = false := bne_eq_false_iff_eq.mpr c24
                      clear c24
                      obtain rfl := Option.some.inj H
                      go_enter Tryd.func83, Tryd.ntmps83
                      go_wp2
                      go_ret
                      exact ⟨by first | rfl | (simp; done) | (simp [*]; done), by repeat (first | exact Drawn0.refl _ | apply Drawn0.step)⟩
                    · rw [if_neg c24] at H
                      have c24b0 : (a0 == 215) = false := beq_eq_false_iff_ne.mpr c24
                      have c24b1 : (a0 != 215) = true := bne_iff_ne.mpr c24
                      obtain rfl := Option.some.inj H
                      go_enter Tryd.func83, Tryd.ntmps83
                      go_wp2
                      go_ret
                      exact ⟨by first | rfl | (simp; done) | (simp [*]; done), by repeat (first | exact Drawn0.refl _ | apply Drawn0.step)⟩
                  · rw [if_neg c23] at H
                    have c23b0 : decide (192 ≤ a0) = false := decide_eq_false c23
                    clear c23
                    obtain rfl := Option.some.inj H
                    go_enter Tryd.func83, Tryd.ntmps83
                    go_wp2
                    go_ret
                    exact ⟨by first | rfl | (simp; done) | (simp [*]; done), by repeat (first | exact Drawn0.refl _ | apply Drawn0.step)⟩
        · rw [if_neg c18] at H
          have c18b0 : decide (48 ≤ a0) = false := decide_eq_false c18
          clear c18
          by_cases c25 : a0 = 170
          · rw [if_pos c25] at H
            have c25b0 : (a0 == 170) = true := beq_iff_eq.mpr c25
            have c25b1 : (a0 != 170) = false := bne_eq_false_iff_eq.mpr c25
            clear c25
            obtain rfl := Option.some.inj H
            go_enter Tryd.func83, Tryd.ntmps83
            go_wp2
            go_ret
            exact ⟨by first | rfl | (simp; done) | (simp [*]; done), by repeat (first | exact Drawn0.refl _ | apply Drawn0.step)⟩
          · rw [if_neg c25] at H
            have c25b0 : (a0 == 170) = false := beq_eq_false_iff_ne.mpr c25
            have c25b1 : (a0 != 170) = true := bne_iff_ne.mpr c25
            by_cases c26 : a0 = 181
            · rw [if_pos c26] at H
              have c26b0 : (a0 == 181) = true := beq_iff_eq.mpr c26
              have c26b1 : (a0 != 181) = false := bne_eq_false_iff_eq.mpr c26
              clear c26
              obtain rfl := Option.some.inj H
              go_enter Tryd.func83, Tryd.ntmps83
              go_wp2
              go_ret
              exact ⟨by first | rfl | (simp; done) | (simp [*]; done), by repeat (first | exact Drawn0.refl _ | apply Drawn0.step)⟩
            · rw [if_neg c26] at H
              have c26b0 : (a0 == 181) = false := beq_eq_false_iff_ne.mpr c26
              have c26b1 : (a0 != 181) = true := bne_iff_ne.mpr c26
              by_cases c27 : a0 = 186
              · rw [if_pos c27] at H
                have c27b0 : (a0 == 186) = true := beq_iff_eq.mpr c27
                have c27b1 : (a0 != 186) = false := bne_eq_false_iff_eq.mpr c27
                clear c27
                obtain rfl := Option.some.inj H
                go_enter Tryd.func83, Tryd.ntmps83
                go_wp2
                go_ret
                exact ⟨by first | rfl | (simp; done) | (simp [*]; done), by repeat (first | exact Drawn0.refl _ | apply Drawn0.step)⟩
              · rw [if_neg c27] at H
                have c27b0 : (a0 == 186) = false := beq_eq_false_iff_ne.mpr c27
                have c27b1 : (a0 != 186) = true := bne_iff_ne.mpr c27
                by_cases c28 : a0 ≥ 192
                · rw [if_pos c28] at H
                  have c28b0 : decide (192 ≤ a0) = true := decide_eq_true c28
                  clear c28
                  by_cases c29 : a0 = 215
                  · rw [if_pos c29] at H
                    have c29b0 : (a0 == 215) = true := beq_iff_eq.mpr c29
                    have c29b1 : (a0 != 215) = false := bne_eq_false_iff_eq.mpr c29
                    clear c29
                    obtain rfl := Option.some.inj H
                    go_enter Tryd.func83, Tryd.ntmps83
                    go_wp2
                    go_ret
                    exact ⟨by first | rfl | (simp; done) | (simp [*]; done), by repeat (first | exact Drawn0.refl _ | apply Drawn0.step)⟩
                  · rw [if_neg c29] at H
                    have c29b0 : (a0 == 215) = false := beq_eq_false_iff_ne.mpr c29
                    have c29b1 : (a0 != 215) = true := bne_iff_ne.mpr c29
                    obtain rfl := Option.some.inj H
                    go_enter Tryd.func83, Tryd.ntmps83
                    go_wp2
                    go_ret
                    exact ⟨by first | rfl | (simp; done) | (simp [*]; done), by repeat (first | exact Drawn0.refl _ | apply Drawn0.step)⟩
                · rw [if_neg c28] at H
                  have c28b0 : decide (192 ≤ a0) = false := decide_eq_false c28
                  clear c28
                  obtain rfl := Option.some.inj H
                  go_enter Tryd.func83, Tryd.ntmps83
                  go_wp2
                  go_ret
                  exact ⟨by first | rfl | (simp; done) | (simp [*]; done), by repeat (first | exact Drawn0.refl _ | apply Drawn0.step)⟩
  · rw [if_neg c2] at H
    have c2b0 : decide (97 ≤ a0) = false := decide_eq_false c2
    clear c2
    by_cases c30 : a0 ≥ 65
    · rw [if_pos c30] at H
      have c30b0 : decide (65 ≤ a0) = true := decide_eq_true c30
      clear c30
      by_cases c31 : a0 ≤ 90
      · rw [if_pos c31] at H
        have c31b0 : decide (a0 ≤ 90) = true := decide_eq_true c31
        clear c31
        obtain rfl := Option.some.inj H
        go_enter Tryd.func83, Tryd.ntmps83
        go_wp2
        go_ret
        exact ⟨by first | rfl | (simp; done) | (simp [*]; done), by repeat (first | exact Drawn0.refl _ | apply Drawn0.step)⟩
      · rw [if_neg c31] at H
        have c31b0 : decide (a0 ≤ 90) = false := decide_eq_false c31
        clear c31
        by_cases c32 : a0 ≥ 48
        · rw [if_pos c32] at H
          have c32b0 : decide (48 ≤ a0) = true := decide_eq_true c32
          clear c32
          by_cases c33 : a0 ≤ 57
          · rw [if_pos c33] at H
            have c33b0 : decide (a0 ≤ 57) = true := decide_eq_true c33
            clear c33
            obtain rfl := Option.some.inj H
            go_enter Tryd.func83, Tryd.ntmps83
            go_wp2
            go_ret
            exact ⟨by first | rfl | (simp; done) | (simp [*]; done), by repeat (first | exact Drawn0.refl _ | apply Drawn0.step)⟩
          · rw [if_neg c33] at H
            have c33b0 : decide (a0 ≤ 57) = false := decide_eq_false c33
            clear c33
            by_cases c34 : a0 = 170
            · rw [if_pos c34] at H
              have c34b0 : (a0 == 170) = true := beq_iff_eq.mpr c34
              have c34b1 : (a0 != 170) = false := bne_eq_false_iff_eq.mpr c34
              clear c34
              obtain rfl := Option.some.inj H
              go_enter Tryd.func83, Tryd.ntmps83
              go_wp2
              go_ret
              exact ⟨by first | rfl | (simp; done) | (simp [*]; done), by repeat (first | exact Drawn0.refl _ | apply Drawn0.step)⟩
            · rw [if_neg c34] at H
              have c34b0 : (a0 == 170) = false := beq_eq_false_iff_ne.mpr c34
              have c34b1 : (a0 != 170) = true := bne_iff_ne.mpr c34
              by_cases c35 : a0 = 181
              · rw [if_pos c35] at H
                have c35b0 : (a0 == 181) = true := beq_iff_eq.mpr c35
                have c35b1 : (a0 != 181) = false := bne_eq_false_iff_eq.mpr c35
                clear c35
                obtain rfl := Option.some.inj H
                go_enter Tryd.func83, Tryd.ntmps83
                go_wp2
                go_ret
                exact ⟨by first | rfl | (simp; done) | (simp [*]; done), by repeat (first | exact Drawn0.refl _ | apply Drawn0.step)⟩
              · rw [if_neg c35] at H
                have c35b0 : (a0 == 181) = false := beq_eq_false_iff_ne.mpr c35
                have c35b1 : (a0 != 181) = true := bne_iff_ne.mpr c35
                by_cases c36 : a0 = 186
                · rw [if_pos c36] at H
                  have c36b0 : (a0 == 186) = true := beq_iff_eq.mpr c36
                  have c36b1 : (a0 != 186) = false := bne_eq_false_iff_eq.mpr c36
                  clear c36
                  obtain rfl := Option.some.inj H
                  go_enter Tryd.func83, Tryd.ntmps83
                  go_wp2
                  go_ret
                  exact ⟨by first | rfl | (simp; done) | (simp [*]; done), by repeat (first | exact Drawn0.refl _ | apply Drawn0.step)⟩
                · rw [if_neg c36] at H
                  have c36b0 : (a0 == 186) = false := beq_eq_false_iff_ne.mpr c36
                  have c36b1 : (a0 != 186) = true := bne_iff_ne.mpr c36
                  by_cases c37 : a0 ≥ 192
                  · rw [if_pos c37] at H
                    have c37b0 : decide (192 ≤ a0) = true := decide_eq_true c37
                    clear c37
                    by_cases c38 : a0 = 215
                    · rw [if_pos c38] at H
                      have c38b0 : (a0 == 215) = true := beq_iff_eq.mpr c38
                      have c38b1 : (a0 != 215) = false := bne_eq_false_iff_eq.mpr c38
                      clear c38
                      obtain rfl := Option.some.inj H
                      go_enter Tryd.func83, Tryd.ntmps83
                      go_wp2
                      go_ret
                      exact ⟨by first | rfl | (simp; done) | (simp [*]; done), by repeat (first | exact Drawn0.refl _ | apply Drawn0.step)⟩
                    · rw [if_neg c38] at H
                      have c38b0 : (a0 == 215) = false := beq_eq_false_iff_ne.mpr c38
                      have c38b1 : (a0 != 215) = true := bne_iff_ne.mpr c38
                      obtain rfl := Option.some.inj H
                      go_enter Tryd.func83, Tryd.ntmps83
                      go_wp2
                      go_ret
                      exact ⟨by first | rfl | (simp; done) | (simp [*]; done), by repeat (first | exact Drawn0.refl _ | apply Drawn0.step)⟩
                  · rw [if_neg c37] at H
                    have c37b0 : decide (192 ≤ a0) = false := decide_eq_false c37
                    clear c37
                    obtain rfl := Option.some.inj H
                    go_enter Tryd.func83, Tryd.ntmps83
                    go_wp2
                    go_ret
                    exact ⟨by first | rfl | (simp; done) | (simp [*]; done), by repeat (first | exact Drawn0.refl _ | apply Drawn0.step)⟩
        · rw [if_neg c32] at H
          have c32b0 : decide (48 ≤ a0) = false := decide_eq_false c32
          clear c32
          by_cases c39 : a0 = 170
          · rw [if_pos c39] at H
            have c39b0 : (a0 == 170) = true := beq_iff_eq.mpr c39
            have c39b1 : (a0 != 170) = false := bne_eq_false_iff_eq.mpr c39
            clear c39
            obtain rfl := Option.some.inj H
            go_enter Tryd.func83, Tryd.ntmps83
            go_wp2
            go_ret
            exact ⟨by first | rfl | (simp; done) | (simp [*]; done), by repeat (first | exact Drawn0.refl _ | apply Drawn0.step)⟩
          · rw [if_neg c39] at H
            have c39b0 : (a0 == 170) = false := beq_eq_false_iff_ne.mpr c39
            have c39b1 : (a0 != 170) = true := bne_iff_ne.mpr c39
            by_cases c40 : a0 = 181
            · rw [if_pos c40] at H
              have c40b0 : (a0 == 181) = true := beq_iff_eq.mpr c40
              have c40b1 : (a0 != 181) = false := bne_eq_false_iff_eq.mpr c40
              clear c40
              obtain rfl := Option.some.inj H
              go_enter Tryd.func83, Tryd.ntmps83
              go_wp2
              go_ret
              exact ⟨by first | rfl | (simp; done) | (simp [*]; done), by repeat (first | exact Drawn0.refl _ | apply Drawn0.step)⟩
            · rw [if_neg c40] at H
              have c40b0 : (a0 == 181) = false := beq_eq_false_iff_ne.mpr c40
              have c40b1 : (a0 != 181) = true := bne_iff_ne.mpr c40
              by_cases c41 : a0 = 186
              · rw [if_pos c41] at H
                have c41b0 : (a0 == 186) = true := beq_iff_eq.mpr c41
                have c41b1 : (a0 != 186) = false := bne_eq_false_iff_eq.mpr c41
                clear c41
                obtain rfl := Option.some.inj H
                go_enter Tryd.func83, Tryd.ntmps83
                go_wp2
                go_ret
                exact ⟨by first | rfl | (simp; done) | (simp [*]; done), by repeat (first | exact Drawn0.refl _ | apply Drawn0.step)⟩
              · rw [if_neg c41] at H
                have c41b0 : (a0 == 186) = false := beq_eq_false_iff_ne.mpr c41
                have c41b1 : (a0 != 186) = true := bne_iff_ne.mpr c41
                by_cases c42 : a0 ≥ 192
                · rw [if_pos c42] at H
                  have c42b0 : decide (192 ≤ a0) = true := decide_eq_true c42
                  clear c42
                  by_cases c43 : a0 = 215
                  · rw [if_pos c43] at H
                    have c43b0 : (a0 == 215) = true := beq_iff_eq.mpr c43
                    have c43b1 : (a0 != 215) = false := bne_eq_false_iff_eq.mpr c43
                    clear c43
                    obtain rfl := Option.some.inj H
                    go_enter Tryd.func83, Tryd.ntmps83
                    go_wp2
                    go_ret
                    exact ⟨by first | rfl | (simp; done) | (simp [*]; done), by repeat (first | exact Drawn0.refl _ | apply Drawn0.step)⟩
                  · rw [if_neg c43] at H
                    have c43b0 : (a0 == 215) = false := beq_eq_false_iff_ne.mpr c43
                    have c43b1 : (a0 != 215) = true := bne_iff_ne.mpr c43
                    obtain rfl := Option.some.inj H
                    go_enter Tryd.func83, Tryd.ntmps83
                    go_wp2
                    go_ret
                    exact ⟨by first | rfl | (simp; done) | (simp [*]; done), by repeat (first | exact Drawn0.refl _ | apply Drawn0.step)⟩
                · rw [if_neg c42] at H
                  have c42b0 : decide (192 ≤ a0) = false := decide_eq_false c42
                  clear c42
                  obtain rfl := Option.some.inj H
                  go_enter Tryd.func83, Tryd.ntmps83
                  go_wp2
                  go_ret
                  exact ⟨by first | rfl | (simp; done) | (simp [*]; done), by repeat (first | exact Drawn0.refl _ | apply Drawn0.step)⟩
    · rw [if_neg c30] at H
      have c30b0 : decide (65 ≤ a0) = false := decide_eq_false c30
      clear c30
      by_cases c44 : a0 ≥ 48
      · rw [if_pos c44] at H
        have c44b0 : decide (48 ≤ a0) = true := decide_eq_true c44
        clear c44
        by_cases c45 : a0 ≤ 57
        · rw [if_pos c45] at H
          have c45b0 : decide (a0 ≤ 57) = true := decide_eq_true c45
          clear c45
          obtain rfl := Option.some.inj H
          go_enter Tryd.func83, Tryd.ntmps83
          go_wp2
          go_ret
          exact ⟨by first | rfl | (simp; done) | (simp [*]; done), by repeat (first | exact Drawn0.refl _ | apply Drawn0.step)⟩
        · rw [if_neg c45] at H
          have c45b0 : decide (a0 ≤ 57) = false := decide_eq_false c45
          clear c45
          by_cases c46 : a0 = 170
          · rw [if_pos c46] at H
            have c46b0 : (a0 == 170) = true := beq_iff_eq.mpr c46
            have c46b1 : (a0 != 170) = false := bne_eq_false_iff_eq.mpr c46
            clear c46
            obtain rfl := Option.some.inj H
            go_enter Tryd.func83, Tryd.ntmps83
            go_wp2
            go_ret
            exact ⟨by first | rfl | (simp; done) | (simp [*]; done), by repeat (first | exact Drawn0.refl _ | apply Drawn0.step)⟩
          · rw [if_neg c46] at H
            have c46b0 : (a0 == 170) = false := beq_eq_false_iff_ne.mpr c46
            have c46b1 : (a0 != 170) = true := bne_iff_ne.mpr c46
            by_cases c47 : a0 = 181
            · rw [if_pos c47] at H
              have c47b0 : (a0 == 181) = true := beq_iff_eq.mpr c47
              have c47b1 : (a0 != 181) = false := bne_eq_false_iff_eq.mpr c47
              clear c47
              obtain rfl := Option.some.inj H
              go_enter Tryd.func83, Tryd.ntmps83
              go_wp2
              go_ret
              exact ⟨by first | rfl | (simp; done) | (simp [*]; done), by repeat (first | exact Drawn0.refl _ | apply Drawn0.step)⟩
            · rw [if_neg c47] at H
              have c47b0 : (a0 == 181) = false := beq_eq_false_iff_ne.mpr c47
              have c47b1 : (a0 != 181) = true := bne_iff_ne.mpr c47
              by_cases c48 : a0 = 186
              · rw [if_pos c48] at H
                have c48b0 : (a0 == 186) = true := beq_iff_eq.mpr c48
                have c48b1 : (a0 != 186) = false := bne_eq_false_iff_eq.mpr c48
                clear c48
                obtain rfl := Option.some.inj H
                go_enter Tryd.func83, Tryd.ntmps83
                go_wp2
                go_ret
                exact ⟨by first | rfl | (simp; done) | (simp [*]; done), by repeat (first | exact Drawn0.refl _ | apply Drawn0.step)⟩
              · rw [if_neg c48] at H
                have c48b0 : (a0 == 186) = false := beq_eq_false_iff_ne.mpr c48
                have c48b1 : (a0 != 186) = true := bne_iff_ne.mpr c48
                by_cases c49 : a0 ≥ 192
                · rw [if_pos c49] at H
                  have c49b0 : decide (192 ≤ a0) = true := decide_eq_true c49
                  clear c49
                  by_cases c50 : a0 = 215
                  · rw [if_pos c50] at H
                    have c50b0 : (a0 == 215) = true := beq_iff_eq.mpr c50
                    have c50b1 : (a0 != 215) = false := bne_eq_false_iff_eq.mpr c50
                    clear c50
                    obtain rfl := Option.some.inj H
                    go_enter Tryd.func83, Tryd.ntmps83
                    go_wp2
                    go_ret
                    exact ⟨by first | rfl | (simp; done) | (simp [*]; done), by repeat (first | exact Drawn0.refl _ | apply Drawn0.step)⟩
                  · rw [if_neg c50] at H
                    have c50b0 : (a0 == 215) = false := beq_eq_false_iff_ne.mpr c50
                    have c50b1 : (a0 != 215) = true := bne_iff_ne.mpr c50
                    obtain rfl := Option.some.inj H
                    go_enter Tryd.func83, Tryd.ntmps83
                    go_wp2
                    go_ret
                    exact ⟨by first | rfl | (simp; done) | (simp [*]; done), by repeat (first | exact Drawn0.refl _ | apply Drawn0.step)⟩
                · rw [if_neg c49] at H
                  have c49b0 : decide (192 ≤ a0) = false := decide_eq_false c49
                  clear c49
                  obtain rfl := Option.some.inj H
                  go_enter Tryd.func83, Tryd.ntmps83
                  go_wp2
                  go_ret
                  exact ⟨by first | rfl | (simp; done) | (simp [*]; done), by repeat (first | exact Drawn0.refl _ | apply Drawn0.step)⟩
      · rw [if_neg c44] at H
        have c44b0 : decide (48 ≤ a0) = false := decide_eq_false c44
        clear c44
        by_cases c51 : a0 = 170
        · rw [if_pos c51] at H
          have c51b0 : (a0 == 170) = true := beq_iff_eq.mpr c51
          have c51b1 : (a0 != 170) = false := bne_eq_false_iff_eq.mpr c51
          clear c51
          obtain rfl := Option.some.inj H
          go_enter Tryd.func83, Tryd.ntmps83
          go_wp2
          go_ret
          exact ⟨by first | rfl | (simp; done) | (simp [*]; done), by repeat (first | exact Drawn0.refl _ | apply Drawn0.step)⟩
        · rw [if_neg c51] at H
          have c51b0 : (a0 == 170) = false := beq_eq_false_iff_ne.mpr c51
          have c51b1 : (a0 != 170) = true := bne_iff_ne.mpr c51
          by_cases c52 : a0 = 181
          · rw [if_pos c52] at H
            have c52b0 : (a0 == 181) = true := beq_iff_eq.mpr c52
            have c52b1 : (a0 != 181) = false := bne_eq_false_iff_eq.mpr c52
            clear c52
            obtain rfl := Option.some.inj H
            go_enter Tryd.func83, Tryd.ntmps83
            go_wp2
            go_ret
            exact ⟨by first | rfl | (simp; done) | (simp [*]; done), by repeat (first | exact Drawn0.refl _ | apply Drawn0.step)⟩
          · rw [if_neg c52] at H
            have c52b0 : (a0 == 181) = false := beq_eq_false_iff_ne.mpr c52
            have c52b1 : (a0 != 181) = true := bne_iff_ne.mpr c52
            by_cases c53 : a0 = 186
            · rw [if_pos c53] at H
              have c53b0 : (a0 == 186) = true := beq_iff_eq.mpr c53
              have c53b1 : (a0 != 186) = false := bne_eq_false_iff_eq.mpr c53
              clear c53
              obtain rfl := Option.some.inj H
              go_enter Tryd.func83, Tryd.ntmps83
              go_wp2
              go_ret
              exact ⟨by first | rfl | (simp; done) | (simp [*]; done), by repeat (first | exact Drawn0.refl _ | apply Drawn0.step)⟩
            · rw [if_neg c53] at H
              have c53b0 : (a0 == 186) = false := beq_eq_false_iff_ne.mpr c53
              have c53b1 : (a0 != 186) = true := bne_iff_ne.mpr c53
              by_cases c54 : a0 ≥ 192
              · rw [if_pos c54] at H
                have c54b0 : decide (192 ≤ a0) = true := decide_eq_true c54
                clear c54
                by_cases c55 : a0 = 215
                · rw [if_pos c55] at H
                  have c55b0 : (a0 == 215) = true := beq_iff_eq.mpr c55
                  have c55b1 : (a0 != 215) = false := bne_eq_false_iff_eq.mpr c55
                  clear c55
                  obtain rfl := Option.some.inj H
                  go_enter Tryd.func83, Tryd.ntmps83
                  go_wp2
                  go_ret
                  exact ⟨by first | rfl | (simp; done) | (simp [*]; done), by repeat (first | exact Drawn0.refl _ | apply Drawn0.step)⟩
                · rw [if_neg c55] at H
                  have c55b0 : (a0 == 215) = false := beq_eq_false_iff_ne.mpr c55
                  have c55b1 : (a0 != 215) = true := bne_iff_ne.mpr c55
                  obtain rfl := Option.some.inj H
                  go_enter Tryd.func83, Tryd.ntmps83
                  go_wp2
                  go_ret
                  exact ⟨by first | rfl | (simp; done) | (simp [*]; done), by repeat (first | exact Drawn0.refl _ | apply Drawn0.step)⟩
              · rw [if_neg c54] at H
                have c54b0 : decide (192 ≤ a0) = false := decide_eq_false c54
                clear c54
                obtain rfl := Option.some.inj H
                go_enter Tryd.func83, Tryd.ntmps83
                go_wp2
                go_ret
                exact ⟨by first | rfl | (simp; done) | (simp [*]; done), by repeat (first | exact Drawn0.refl _ | apply Drawn0.step)⟩

/-- THE ONE PURE STATEMENT of sqlx_zzAllowed: yours. -/
def sqlx_zzAllowed.Pure : Prop := ∀ (a0 : Int), (Lit.int .u8 a0).wf = true → sqlx_zzAllowed.f a0 = some true
end Go.Proofs.YtnmhoghmhglimaaDoor.QL
-- WRITTEN BY A PROGRAM OF THIS SESSION (wip/print2.py): the print, with contracts of this session's own let in. Not trusted: Lean checks it.
namespace Go.Proofs.YtnmhoghmhglimaaDoor.QL
open Go.RowKit Go.Proofs.YtnmhoghmhglimaaDoorW.PrintWords Go.Proofs.YtnmhoghmhglimaaDoorW.PrintLast Go.Proofs.YtnmhoghmhglimaaDoorW.PrintMore
attribute [local go_sem] max2_int min2_int max_two min_two max_three min_three max_four min_four   -- for this text's walks alone
set_option linter.unusedVariables false
set_option linter.unusedSimpArgs false

/-! ### sqlx_zzSpace: function 88 -/
def sqlx_zzSpace.l0 : Nat → ByteArray → Int → Option (Int)
  | 0, _, _ => none
  | k + 1, x0, x1 => if x1 < (x0.size : Int) then (if 0 ≤ x1 then (if (bt x0 x1) = 32 then (sqlx_zzSpace.l0 k x0 (wrap64 (x1 + 1))) else (if (bt x0 x1) = 9 then (sqlx_zzSpace.l0 k x0 (wrap64 (x1 + 1))) else (if (bt x0 x1) = 10 then (sqlx_zzSpace.l0 k x0 (wrap64 (x1 + 1))) else (if (bt x0 x1) = 12 then (sqlx_zzSpace.l0 k x0 (wrap64 (x1 + 1))) else (if (bt x0 x1) = 13 then (sqlx_zzSpace.l0 k x0 (wrap64 (x1 + 1))) else (some x1)))))) else (none)) else (some x1)
def sqlx_zzSpace.f (k : Nat) (a0 : ByteArray) (a1 : Int) : Option (Int) := sqlx_zzSpace.l0 k a0 a1
end Go.Proofs.YtnmhoghmhglimaaDoor.QL
-- WRITTEN BY A PROGRAM OF THIS SESSION (wip/print2.py): the print, with contracts of this session's own let in. Not trusted: Lean checks it.
namespace Go.Proofs.YtnmhoghmhglimaaDoor.QL
open Go.RowKit Go.Proofs.YtnmhoghmhglimaaDoorW.PrintWords Go.Proofs.YtnmhoghmhglimaaDoorW.PrintLast Go.Proofs.YtnmhoghmhglimaaDoorW.PrintMore
attribute [local go_sem] max2_int min2_int max_two min_two max_three min_three max_four min_four   -- for this text's walks alone
set_option linter.unusedVariables false
set_option linter.unusedSimpArgs false

/-! ### sqlx_zzFold: function 89 -/
def sqlx_zzFold.j0 : Nat → ByteArray → Int → Int → Bool → Option (Int)
  | 0, _, _, _, _ => none
  | k + 1, x0, x1, x2, x26 => if x26 = true then (some 1) else (if x2 = 115 then (if (wrap64 (x1 + 1)) < (x0.size : Int) then (if 0 ≤ x1 then (if x1 ≤ (wrap64 (x1 + 2)) then (if (wrap64 (x1 + 2)) ≤ (x0.size : Int) then (if (x0.extract (x1 : Int).toNat ((wrap64 (x1 + 2)) : Int).toNat).toList = ([197, 191] : List UInt8) then (some 2) else (some 0)) else (none)) else (none)) else (none)) else (some 0)) else (some 0))
def sqlx_zzFold.f (k : Nat) (a0 : ByteArray) (a1 : Int) (a2 : Int) : Option (Int) := if a1 < (a0.size : Int) then (if 0 ≤ a1 then (if (bt a0 a1) = a2 then (sqlx_zzFold.j0 k a0 a1 a2 true) else (sqlx_zzFold.j0 k a0 a1 a2 ((bt a0 a1) == ((((a2 - 97) % 256) + 65) % 256)))) else (none)) else (sqlx_zzFold.j0 k a0 a1 a2 false)
end Go.Proofs.YtnmhoghmhglimaaDoor.QL
