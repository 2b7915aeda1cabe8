-- WRITTEN BY A PROGRAM OF THIS SESSION (wip/print2.py): the print, with contracts of this session's own let in. Not trusted: Lean checks it.
import Derived.Test.YtnmhoghmhglimaaDoorQL0
namespace Go.Proofs.YtnmhoghmhglimaaDoor.QL
open Go.RowKit Go.Proofs.YtnmhoghmhglimaaDoorW.PrintWords Go.Proofs.YtnmhoghmhglimaaDoorW.PrintLast Go.Proofs.YtnmhoghmhglimaaDoorW.PrintMore
attribute [local go_sem] max2_int min2_int max_two min_two max_three min_three max_four min_four   -- for this text's walks alone
set_option linter.unusedVariables false
set_option linter.unusedSimpArgs false

/-! ### sqlx_zzFold: function 89 -/
def sqlx_zzFold.j0 : Nat → ByteArray → Int → Int → Bool → Option (Int)
  | 0, _, _, _, _ => none
  | k + 1, x0, x1, x2, x26 => if x26 = true then (some 1) else (if x2 = 115 then (if (wrap64 (x1 + 1)) < (x0.size : Int) then (if 0 ≤ x1 then (if x1 ≤ (wrap64 (x1 + 2)) then (if (wrap64 (x1 + 2)) ≤ (x0.size : Int) then (if (x0.extract (x1 : Int).toNat ((wrap64 (x1 + 2)) : Int).toNat).toList = ([197, 191] : List UInt8) then (some 2) else (some 0)) else (none)) else (none)) else (none)) else (some 0)) else (some 0))
def sqlx_zzFold.f (k : Nat) (a0 : ByteArray) (a1 : Int) (a2 : Int) : Option (Int) := if a1 < (a0.size : Int) then (if 0 ≤ a1 then (if (bt a0 a1) = a2 then (sqlx_zzFold.j0 k a0 a1 a2 true) else (sqlx_zzFold.j0 k a0 a1 a2 ((bt a0 a1) == ((((a2 - 97) % 256) + 65) % 256)))) else (none)) else (sqlx_zzFold.j0 k a0 a1 a2 false)
theorem sqlx_zzFold.mono_l : ∀ k, (∀ y0 y1 y2 y3, LeO (sqlx_zzFold.j0 k y0 y1 y2 y3) (sqlx_zzFold.j0 (k + 1) y0 y1 y2 y3))
  | 0 => fun _ _ _ _ r h => by simp [sqlx_zzFold.j0] at h
  | k + 1 => by
    have ih0 := sqlx_zzFold.mono_l k
    · intro y0 y1 y2 y3
      unfold sqlx_zzFold.j0
      repeat' first
      | (with_reducible exact ih0 _ _ _ _)
      | (with_reducible exact LeO.refl _)
      | (with_reducible exact LeO.none _)
      | (with_reducible refine LeO.ite ?_ ?_)
      | (with_reducible refine LeO.bind ?_ (fun _ => ?_))
      | exact ih0 _ _ _ _
      | exact LeO.none _
      | refine LeO.ite ?_ ?_
      | refine LeO.bind ?_ (fun _ => ?_)
theorem sqlx_zzFold.mono : ∀ a0 a1 a2 k, LeO (sqlx_zzFold.f k a0 a1 a2) (sqlx_zzFold.f (k + 1) a0 a1 a2) := by
  intro a0 a1 a2 k
  have ih0 := sqlx_zzFold.mono_l k
  unfold sqlx_zzFold.f
  repeat' first
      | (with_reducible exact ih0 _ _ _ _)
      | (with_reducible exact LeO.refl _)
      | (with_reducible exact LeO.none _)
      | (with_reducible refine LeO.ite ?_ ?_)
      | (with_reducible refine LeO.bind ?_ (fun _ => ?_))
      | exact ih0 _ _ _ _
      | exact LeO.none _
      | refine LeO.ite ?_ ?_
      | refine LeO.bind ?_ (fun _ => ?_)
set_option maxHeartbeats 8000000 in
set_option maxRecDepth 100000 in
theorem sqlx_zzFold.calls (k : Nat) (a0 : ByteArray) (a1 : Int) (a2 : Int) (r : Int) (w : World) (h : sqlx_zzFold.f k a0 a1 a2 = some r) :
    Calls Tryd.prog 89 #[.string a0, .int .i64 a1, .int .u8 a2] w fun e w' => e = .returned (.int .i64 r) ∧ Drawn0 w w' := by
  have H : (if a1 < (a0.size : Int) then (if 0 ≤ a1 then (if (bt a0 a1) = a2 then (sqlx_zzFold.j0 k a0 a1 a2 true) else (sqlx_zzFold.j0 k a0 a1 a2 ((bt a0 a1) == ((((a2 - 97) % 256) + 65) % 256)))) else (none)) else (sqlx_zzFold.j0 k a0 a1 a2 false)) = some r := h
  clear h
  have HC4 := Aside0.mk H
  clear H
  go_enter Tryd.func89, Tryd.ntmps89
  go_upto_region 1 with (fail)
  go_cut [26] (fun v26 wc => ∃ (kq : Nat) (x26_3 : Bool), v26 = .bool x26_3 ∧ Aside0 (sqlx_zzFold.j0 kq a0 a1 a2 x26_3 = some r) ∧ Aside0 (kq ≤ k) ∧ Drawn0 w wc)
  case first =>
    have H := HC4.out
    clear HC4
    by_cases c5 : a1 < (a0.size : Int)
    · rw [if_pos c5] at H
      have c5b0 : decide (a1 < (a0.size : Int)) = true := decide_eq_true c5
      clear c5
      (first | rw [c5b0] | (simp only [i64_w, i32_w]; rw [c5b0]) | skip)
      by_cases c6 : 0 ≤ a1
      · rw [if_pos c6] at H
        have c6b0 : decide (0 ≤ a1) = true := decide_eq_true c6
        clear c6
        by_cases c8 : (bt a0 a1) = a2
        · rw [if_pos c8] at H
          have c8b0 : ((bt a0 a1) == a2) = true := beq_iff_eq.mpr c8
          have c8b1 : ((bt a0 a1) != a2) = false := bne_eq_false_iff_eq.mpr c8
          clear c8
          have H' := Aside0.mk H
          clear H
          have p7 : 0 ≤ (a1 : Int) := of_decide_eq_true (by first | (with_reducible assumption) | assumption)
          have q7 : a1 < (a0.size : Int) := of_decide_eq_true (by first | (with_reducible assumption) | assumption)
          have hx7 := bt_at a0 a1
          replace p7 := eq_true p7
          replace q7 := eq_true q7
          go_wp2
          go_meet
          case rel => exact ⟨_, (true), (by first | rfl | (simp; done) | (simp [*]; done)), H', ⟨by first | omega | exact Nat.le_refl _⟩, by repeat (first | exact Drawn0.refl _ | apply Drawn0.step)⟩
        · rw [if_neg c8] at H
          have c8b0 : ((bt a0 a1) == a2) = false := beq_eq_false_iff_ne.mpr c8
          have c8b1 : ((bt a0 a1) != a2) = true := bne_iff_ne.mpr c8
          have H' := Aside0.mk H
          clear H
          have p7 : 0 ≤ (a1 : Int) := of_decide_eq_true (by first | (with_reducible assumption) | assumption)
          have q7 : a1 < (a0.size : Int) := of_decide_eq_true (by first | (with_reducible assumption) | assumption)
          have hx7 := bt_at a0 a1
          replace p7 := eq_true p7
          replace q7 := eq_true q7
          have p9 : 0 ≤ (a1 : Int) := of_decide_eq_true (by first | (with_reducible assumption) | assumption)
          have q9 : a1 < (a0.size : Int) := of_decide_eq_true (by first | (with_reducible assumption) | assumption)
          have hx9 := bt_at a0 a1
          replace p9 := eq_true p9
          replace q9 := eq_true q9
          go_wp2
          go_meet
          case rel => exact ⟨_, (((bt a0 a1) == ((((a2 - 97) % 256) + 65) % 256))), (by first | rfl | (simp; done) | (simp [*]; done)), H', ⟨by first | omega | exact Nat.le_refl _⟩, by repeat (first | exact Drawn0.refl _ | apply Drawn0.step)⟩
      · rw [if_neg c6] at H
        exact absurd H (by simp)
    · rw [if_neg c5] at H
      have c5b0 : decide (a1 < (a0.size : Int)) = false := decide_eq_false c5
      clear c5
      (first | rw [c5b0] | (simp only [i64_w, i32_w]; rw [c5b0]) | skip)
      have H' := Aside0.mk H
      clear H
      go_wp2
      go_meet
      case rel => exact ⟨_, (false), (by first | rfl | (simp; done) | (simp [*]; done)), H', ⟨by first | omega | exact Nat.le_refl _⟩, by repeat (first | exact Drawn0.refl _ | apply Drawn0.step)⟩
  case rest =>
    clear HC4
    try clear p2
    try clear c5
    try clear c5b0
    try clear c6
    try clear c6b0
    try clear p7
    try clear q7
    try clear hx7
    try clear c8
    try clear c8b0
    try clear c8b1
    try clear p9
    try clear q9
    try clear hx9
    try clear p7
    try clear p9
    try clear q7
    try clear q9
    obtain ⟨kq, x26_3, rfl, HA, HJ3, ⟨mc3, rfl⟩⟩ := hcut
    cases kq with
    | zero => exact absurd HA.out (by simp [sqlx_zzFold.j0])
    | succ kj3 =>
      have H := HA.out
      clear HA
      simp only [sqlx_zzFold.j0] at H
      by_cases c10 : x26_3 = true
      · subst c10
        have H1 : (some 1) = some r := by rw [if_pos rfl] at H; exact H
        clear H
        have H := H1
        clear H1
        obtain rfl := Option.some.inj H
        go_wp2
        go_ret
        exact ⟨by first | rfl | (simp; done) | (simp [*]; done), by repeat (first | exact Drawn0.refl _ | apply Drawn0.step)⟩
      · replace c10 := Bool.eq_false_iff.mpr c10
        subst c10
        have H1 : (if a2 = 115 then (if (wrap64 (a1 + 1)) < (a0.size : Int) then (if 0 ≤ a1 then (if a1 ≤ (wrap64 (a1 + 2)) then (if (wrap64 (a1 + 2)) ≤ (a0.size : Int) then (if (a0.extract (a1 : Int).toNat ((wrap64 (a1 + 2)) : Int).toNat).toList = ([197, 191] : List UInt8) then (some 2) else (some 0)) else (none)) else (none)) else (none)) else (some 0)) else (some 0)) = some r := by rw [if_neg (show ¬ (false = true) by decide)] at H; exact H
        clear H
        have H := H1
        clear H1
        by_cases c11 : a2 = 115
        · rw [if_pos c11] at H
          have c11b0 : (a2 == 115) = true := beq_iff_eq.mpr c11
          have c11b1 : (a2 != 115) = false := bne_eq_false_iff_eq.mpr c11
          clear c11
          by_cases c12 : (wrap64 (a1 + 1)) < (a0.size : Int)
          · rw [if_pos c12] at H
            have c12b0 : decide ((wrap64 (a1 + 1)) < (a0.size : Int)) = true := decide_eq_true c12
            clear c12
            by_cases c13 : 0 ≤ a1
            · rw [if_pos c13] at H
              have c13b0 := eq_true c13
              have c13b1 : decide (0 ≤ a1) = true := decide_eq_true c13
              clear c13
              by_cases c14 : a1 ≤ (wrap64 (a1 + 2))
              · rw [if_pos c14] at H
                have c14b0 := eq_true c14
                have c14b1 : decide (a1 ≤ (wrap64 (a1 + 2))) = true := decide_eq_true c14
                by_cases c15 : (wrap64 (a1 + 2)) ≤ (a0.size : Int)
                · rw [if_pos c15] at H
                  have c15b0 := eq_true c15
                  have c15b1 : decide ((wrap64 (a1 + 2)) ≤ (a0.size : Int)) = true := decide_eq_true c15
                  by_cases c16 : (a0.extract (a1 : Int).toNat ((wrap64 (a1 + 2)) : Int).toNat).toList = ([197, 191] : List UInt8)
                  · rw [if_pos c16] at H
                    have c16b0 : ((a0.extract (a1 : Int).toNat ((wrap64 (a1 + 2)) : Int).toNat).toList == ([197, 191] : List UInt8)) = true := beq_iff_eq.mpr c16
                    have c16b1 : ((a0.extract (a1 : Int).toNat ((wrap64 (a1 + 2)) : Int).toNat).toList != ([197, 191] : List UInt8)) = false := bne_eq_false_iff_eq.mpr c16
                    clear c16
                    obtain rfl := Option.some.inj H
                    go_wp2
                    go_ret
                    exact ⟨by first | rfl | (simp; done) | (simp [*]; done), by repeat (first | exact Drawn0.refl _ | apply Drawn0.step)⟩
                  · rw [if_neg c16] at H
                    have c16b0 : ((a0.extract (a1 : Int).toNat ((wrap64 (a1 + 2)) : Int).toNat).toList == ([197, 191] : List UInt8)) = false := beq_eq_false_iff_ne.mpr c16
                    have c16b1 : ((a0.extract (a1 : Int).toNat ((wrap64 (a1 + 2)) : Int).toNat).toList != ([197, 191] : List UInt8)) = true := bne_iff_ne.mpr c16
                    obtain rfl := Option.some.inj H
                    go_wp2
                    go_ret
                    exact ⟨by first | rfl | (simp; done) | (simp [*]; done), by repeat (first | exact Drawn0.refl _ | apply Drawn0.step)⟩
                · rw [if_neg c15] at H
                  exact absurd H (by simp)
              · rw [if_neg c14] at H
                exact absurd H (by simp)
            · rw [if_neg c13] at H
              exact absurd H (by simp)
          · rw [if_neg c12] at H
            have c12b0 : decide ((wrap64 (a1 + 1)) < (a0.size : Int)) = false := decide_eq_false c12
            clear c12
            obtain rfl := Option.some.inj H
            go_wp2
            go_ret
            exact ⟨by first | rfl | (simp; done) | (simp [*]; done), by repeat (first | exact Drawn0.refl _ | apply Drawn0.step)⟩
        · rw [if_neg c11] at H
          have c11b0 : (a2 == 115) = false := beq_eq_false_iff_ne.mpr c11
          have c11b1 : (a2 != 115) = true := bne_iff_ne.mpr c11
          obtain rfl := Option.some.inj H
          go_wp2
          go_ret
          exact ⟨by first | rfl | (simp; done) | (simp [*]; done), by repeat (first | exact Drawn0.refl _ | apply Drawn0.step)⟩

/-! ### sqlx_zzIndex: function 64 -/
def sqlx_zzIndex.l0 : Nat → ByteArray → ByteArray → Int → Option (Int)
  | 0, _, _, _ => none
  | k + 1, x0, x1, x5 => if (wrap64 (x5 + (x1.size : Int))) ≤ (x0.size : Int) then (if 0 ≤ x5 then (if x5 ≤ (wrap64 (x5 + (x1.size : Int))) then (if (x0.extract (x5 : Int).toNat ((wrap64 (x5 + (x1.size : Int))) : Int).toNat).toList = x1.toList then (some x5) else (sqlx_zzIndex.l0 k x0 x1 (wrap64 (x5 + 1)))) else (none)) else (none)) else (some (-1))
def sqlx_zzIndex.f (k : Nat) (a0 : ByteArray) (a1 : ByteArray) : Option (Int) := sqlx_zzIndex.l0 k a0 a1 0
theorem sqlx_zzIndex.mono_l : ∀ k, (∀ y0 y1 y2, LeO (sqlx_zzIndex.l0 k y0 y1 y2) (sqlx_zzIndex.l0 (k + 1) y0 y1 y2))
  | 0 => fun _ _ _ r h => by simp [sqlx_zzIndex.l0] at h
  | k + 1 => by
    have ih0 := sqlx_zzIndex.mono_l k
    · intro y0 y1 y2
      unfold sqlx_zzIndex.l0
      repeat' first
      | (with_reducible exact ih0 _ _ _)
      | (with_reducible exact LeO.refl _)
      | (with_reducible exact LeO.none _)
      | (with_reducible refine LeO.ite ?_ ?_)
      | (with_reducible refine LeO.bind ?_ (fun _ => ?_))
      | exact ih0 _ _ _
      | exact LeO.none _
      | refine LeO.ite ?_ ?_
      | refine LeO.bind ?_ (fun _ => ?_)
theorem sqlx_zzIndex.mono : ∀ a0 a1 k, LeO (sqlx_zzIndex.f k a0 a1) (sqlx_zzIndex.f (k + 1) a0 a1) := by
  intro a0 a1 k
  have ih0 := sqlx_zzIndex.mono_l k
  unfold sqlx_zzIndex.f
  repeat' first
      | (with_reducible exact ih0 _ _ _)
      | (with_reducible exact LeO.refl _)
      | (with_reducible exact LeO.none _)
      | (with_reducible refine LeO.ite ?_ ?_)
      | (with_reducible refine LeO.bind ?_ (fun _ => ?_))
      | exact ih0 _ _ _
      | exact LeO.none _
      | refine LeO.ite ?_ ?_
      | refine LeO.bind ?_ (fun _ => ?_)
set_option maxHeartbeats 8000000 in
set_option maxRecDepth 100000 in
theorem sqlx_zzIndex.calls (k : Nat) (a0 : ByteArray) (a1 : ByteArray) (r : Int) (w : World) (h : sqlx_zzIndex.f k a0 a1 = some r) :
    Calls Tryd.prog 64 #[.string a0, .string a1] w fun e w' => e = .returned (.int .i64 r) ∧ Drawn0 w w' := by
  have H : (sqlx_zzIndex.l0 k a0 a1 0) = some r := h
  clear h
  have H' := Aside0.mk H
  clear H
  go_enter Tryd.func64, Tryd.ntmps64
  go_wp2
  go_loopg [5] k (fun kq v5 w' => ∃ (x5_1 : Int), v5 = .int .i64 x5_1 ∧ Aside0 (sqlx_zzIndex.l0 kq a0 a1 x5_1 = some r) ∧ Aside0 (kq ≤ k) ∧ Drawn0 w w')
  case atStart => exact ⟨(0), (by first | rfl | (simp; done) | (simp [*]; done)), H', ⟨Nat.le_refl _⟩, by repeat (first | exact Drawn0.refl _ | apply Drawn0.step)⟩
  case round =>
    clear H'
    try clear p2
    obtain ⟨x5_1, rfl, HA, HK1, ⟨m1, rfl⟩⟩ := hrel
    cases gk with
    | zero => exact absurd HA.out (by simp [sqlx_zzIndex.l0])
    | succ k1 =>
      have H := HA.out
      clear HA
      simp only [sqlx_zzIndex.l0] at H
      by_cases c3 : (wrap64 (x5_1 + (a1.size : Int))) ≤ (a0.size : Int)
      · rw [if_pos c3] at H
        have c3b0 : decide ((wrap64 (x5_1 + (a1.size : Int))) ≤ (a0.size : Int)) = true := decide_eq_true c3
        clear c3
        by_cases c4 : 0 ≤ x5_1
        · rw [if_pos c4] at H
          have c4b0 := eq_true c4
          have c4b1 : decide (0 ≤ x5_1) = true := decide_eq_true c4
          clear c4
          by_cases c5 : x5_1 ≤ (wrap64 (x5_1 + (a1.size : Int)))
          · rw [if_pos c5] at H
            have c5b0 := eq_true c5
            have c5b1 : decide (x5_1 ≤ (wrap64 (x5_1 + (a1.size : Int)))) = true := decide_eq_true c5
            have c6b0 := eq_true (of_decide_eq_true (by first | (with_reducible assumption) | assumption) : (wrap64 (x5_1 + (a1.size : Int))) ≤ (a0.size : Int))
            by_cases c7 : (a0.extract (x5_1 : Int).toNat ((wrap64 (x5_1 + (a1.size : Int))) : Int).toNat).toList = a1.toList
            · rw [if_pos c7] at H
              have c7b0 : ((a0.extract (x5_1 : Int).toNat ((wrap64 (x5_1 + (a1.size : Int))) : Int).toNat).toList == a1.toList) = true := beq_iff_eq.mpr c7
              have c7b1 : ((a0.extract (x5_1 : Int).toNat ((wrap64 (x5_1 + (a1.size : Int))) : Int).toNat).toList != a1.toList) = false := bne_eq_false_iff_eq.mpr c7
              clear c7
              obtain rfl := Option.some.inj H
              go_wp2
              go_ret
              exact ⟨by first | rfl | (simp; done) | (simp [*]; done), by repeat (first | exact Drawn0.refl _ | apply Drawn0.step)⟩
            · rw [if_neg c7] at H
              have c7b0 : ((a0.extract (x5_1 : Int).toNat ((wrap64 (x5_1 + (a1.size : Int))) : Int).toNat).toList == a1.toList) = false := beq_eq_false_iff_ne.mpr c7
              have c7b1 : ((a0.extract (x5_1 : Int).toNat ((wrap64 (x5_1 + (a1.size : Int))) : Int).toNat).toList != a1.toList) = true := bne_iff_ne.mpr c7
              have H' := Aside0.mk H
              clear H
              go_wp2
              go_roundg k1
              case measure => have := HK1.out; omega
              case rel => exact ⟨(wrap64 (x5_1 + 1)), (by first | rfl | (simp; done) | (simp [*]; done)), H', ⟨by have := HK1.out; omega⟩, by repeat (first | exact Drawn0.refl _ | apply Drawn0.step)⟩
          · rw [if_neg c5] at H
            exact absurd H (by simp)
        · rw [if_neg c4] at H
          exact absurd H (by simp)
      · rw [if_neg c3] at H
        have c3b0 : decide ((wrap64 (x5_1 + (a1.size : Int))) ≤ (a0.size : Int)) = false := decide_eq_false c3
        clear c3
        obtain rfl := Option.some.inj H
        go_wp2
        go_ret
        exact ⟨by first | rfl | (simp; done) | (simp [*]; done), by repeat (first | exact Drawn0.refl _ | apply Drawn0.step)⟩

end Go.Proofs.YtnmhoghmhglimaaDoor.QL
