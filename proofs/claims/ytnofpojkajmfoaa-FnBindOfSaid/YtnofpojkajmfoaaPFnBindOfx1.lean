-- PRINTED BY print.sh 35421559b90ae4d0a3588c463048766b98c2df88dd9212a6774a882060cdf62d: not written by this session
import Derived.Test.YtnofpojkajmfoaaPFnBindOfx0
namespace Go.Proofs.Ytnofpojkajmfoaa.PFnBindOf
open Go.RowKit Go.Proofs.YtnofpojkajmfoaaW.PrintWords Go.Proofs.YtnofpojkajmfoaaW.PrintLast Go.Proofs.YtnofpojkajmfoaaW.PrintMore
attribute [local go_sem] max2_int min2_int max_two min_two max_three min_three max_four min_four   -- for this text's walks alone
set_option linter.unusedVariables false
set_option linter.unusedSimpArgs false

/-! ### sqlx_BindType: function 31 -/
mutual
def sqlx_BindType.j0 : Nat → ByteArray → Bool → Option (Int)
  | 0, _, _ => none
  | k + 1, x3, x4 => if x4 = true then (some 2) else (if x3.toList = ([109, 121, 115, 113, 108] : List UInt8) then (sqlx_BindType.j1 k x3 (x3.toList == ([109, 121, 115, 113, 108] : List UInt8))) else (if x3.toList = ([115, 113, 108, 105, 116, 101, 51] : List UInt8) then (sqlx_BindType.j1 k x3 (x3.toList == ([115, 113, 108, 105, 116, 101, 51] : List UInt8))) else (if x3.toList = ([110, 114, 109, 121, 115, 113, 108] : List UInt8) then (sqlx_BindType.j1 k x3 (x3.toList == ([110, 114, 109, 121, 115, 113, 108] : List UInt8))) else (sqlx_BindType.j1 k x3 (x3.toList == ([110, 114, 115, 113, 108, 105, 116, 101, 51] : List UInt8))))))
def sqlx_BindType.j1 : Nat → ByteArray → Bool → Option (Int)
  | 0, _, _ => none
  | k + 1, x3, x12 => if x12 = true then (some 1) else (if x3.toList = ([111, 99, 105, 56] : List UInt8) then (sqlx_BindType.j2 k x3 (x3.toList == ([111, 99, 105, 56] : List UInt8))) else (if x3.toList = ([111, 114, 97] : List UInt8) then (sqlx_BindType.j2 k x3 (x3.toList == ([111, 114, 97] : List UInt8))) else (if x3.toList = ([103, 111, 114, 97, 99, 108, 101] : List UInt8) then (sqlx_BindType.j2 k x3 (x3.toList == ([103, 111, 114, 97, 99, 108, 101] : List UInt8))) else (sqlx_BindType.j2 k x3 (x3.toList == ([103, 111, 100, 114, 111, 114] : List UInt8))))))
def sqlx_BindType.j2 : Nat → ByteArray → Bool → Option (Int)
  | 0, _, _ => none
  | k + 1, x3, x17 => if x17 = true then (some 3) else (if x3.toList = ([115, 113, 108, 115, 101, 114, 118, 101, 114] : List UInt8) then (some 4) else (some 0))
end
def sqlx_BindType.f (k : Nat) (a0 : ByteArray) : Option (Int) := if a0.toList = ([112, 111, 115, 116, 103, 114, 101, 115] : List UInt8) then (sqlx_BindType.j0 k a0 (a0.toList == ([112, 111, 115, 116, 103, 114, 101, 115] : List UInt8))) else (if a0.toList = ([112, 103, 120] : List UInt8) then (sqlx_BindType.j0 k a0 (a0.toList == ([112, 103, 120] : List UInt8))) else (if a0.toList = ([112, 113, 45, 116, 105, 109, 101, 111, 117, 116, 115] : List UInt8) then (sqlx_BindType.j0 k a0 (a0.toList == ([112, 113, 45, 116, 105, 109, 101, 111, 117, 116, 115] : List UInt8))) else (if a0.toList = ([99, 108, 111, 117, 100, 115, 113, 108, 112, 111, 115, 116, 103, 114, 101, 115] : List UInt8) then (sqlx_BindType.j0 k a0 (a0.toList == ([99, 108, 111, 117, 100, 115, 113, 108, 112, 111, 115, 116, 103, 114, 101, 115] : List UInt8))) else (if a0.toList = ([113, 108] : List UInt8) then (sqlx_BindType.j0 k a0 (a0.toList == ([113, 108] : List UInt8))) else (if a0.toList = ([110, 114, 112, 111, 115, 116, 103, 114, 101, 115] : List UInt8) then (sqlx_BindType.j0 k a0 (a0.toList == ([110, 114, 112, 111, 115, 116, 103, 114, 101, 115] : List UInt8))) else (sqlx_BindType.j0 k a0 (a0.toList == ([99, 111, 99, 107, 114, 111, 97, 99, 104] : List UInt8))))))))
theorem sqlx_BindType.mono_l : ∀ k, (∀ y0 y1, LeO (sqlx_BindType.j0 k y0 y1) (sqlx_BindType.j0 (k + 1) y0 y1)) ∧ (∀ y0 y1, LeO (sqlx_BindType.j1 k y0 y1) (sqlx_BindType.j1 (k + 1) y0 y1)) ∧ (∀ y0 y1, LeO (sqlx_BindType.j2 k y0 y1) (sqlx_BindType.j2 (k + 1) y0 y1))
  | 0 => ⟨fun _ _ r h => by simp [sqlx_BindType.j0] at h, fun _ _ r h => by simp [sqlx_BindType.j1] at h, fun _ _ r h => by simp [sqlx_BindType.j2] at h⟩
  | k + 1 => by
    obtain ⟨ih0, ih1, ih2⟩ := sqlx_BindType.mono_l k
    refine ⟨?_, ?_, ?_⟩
    · intro y0 y1
      unfold sqlx_BindType.j0
      repeat' first
      | (with_reducible exact ih0 _ _)
      | (with_reducible exact ih1 _ _)
      | (with_reducible exact ih2 _ _)
      | (with_reducible exact LeO.refl _)
      | (with_reducible exact LeO.none _)
      | (with_reducible refine LeO.ite ?_ ?_)
      | (with_reducible refine LeO.bind ?_ (fun _ => ?_))
      | exact ih0 _ _
      | exact ih1 _ _
      | exact ih2 _ _
      | exact LeO.none _
      | refine LeO.ite ?_ ?_
      | refine LeO.bind ?_ (fun _ => ?_)
    · intro y0 y1
      unfold sqlx_BindType.j1
      repeat' first
      | (with_reducible exact ih0 _ _)
      | (with_reducible exact ih1 _ _)
      | (with_reducible exact ih2 _ _)
      | (with_reducible exact LeO.refl _)
      | (with_reducible exact LeO.none _)
      | (with_reducible refine LeO.ite ?_ ?_)
      | (with_reducible refine LeO.bind ?_ (fun _ => ?_))
      | exact ih0 _ _
      | exact ih1 _ _
      | exact ih2 _ _
      | exact LeO.none _
      | refine LeO.ite ?_ ?_
      | refine LeO.bind ?_ (fun _ => ?_)
    · intro y0 y1
      unfold sqlx_BindType.j2
      repeat' first
      | (with_reducible exact ih0 _ _)
      | (with_reducible exact ih1 _ _)
      | (with_reducible exact ih2 _ _)
      | (with_reducible exact LeO.refl _)
      | (with_reducible exact LeO.none _)
      | (with_reducible refine LeO.ite ?_ ?_)
      | (with_reducible refine LeO.bind ?_ (fun _ => ?_))
      | exact ih0 _ _
      | exact ih1 _ _
      | exact ih2 _ _
      | exact LeO.none _
      | refine LeO.ite ?_ ?_
      | refine LeO.bind ?_ (fun _ => ?_)
theorem sqlx_BindType.mono : ∀ a0 k, LeO (sqlx_BindType.f k a0) (sqlx_BindType.f (k + 1) a0) := by
  intro a0 k
  obtain ⟨ih0, ih1, ih2⟩ := sqlx_BindType.mono_l k
  unfold sqlx_BindType.f
  repeat' first
      | (with_reducible exact ih0 _ _)
      | (with_reducible exact ih1 _ _)
      | (with_reducible exact ih2 _ _)
      | (with_reducible exact LeO.refl _)
      | (with_reducible exact LeO.none _)
      | (with_reducible refine LeO.ite ?_ ?_)
      | (with_reducible refine LeO.bind ?_ (fun _ => ?_))
      | exact ih0 _ _
      | exact ih1 _ _
      | exact ih2 _ _
      | exact LeO.none _
      | refine LeO.ite ?_ ?_
      | refine LeO.bind ?_ (fun _ => ?_)
set_option maxHeartbeats 8000000 in
set_option maxRecDepth 100000 in
theorem sqlx_BindType.calls (k : Nat) (a0 : ByteArray) (r : Int) (w : World) (h : sqlx_BindType.f k a0 = some r) :
    Calls Try.prog 31 #[.string a0] w fun e w' => e = .returned (.int .i64 r) ∧ Drawn0 w w' := by
  have H : (if a0.toList = ([112, 111, 115, 116, 103, 114, 101, 115] : List UInt8) then (sqlx_BindType.j0 k a0 (a0.toList == ([112, 111, 115, 116, 103, 114, 101, 115] : List UInt8))) else (if a0.toList = ([112, 103, 120] : List UInt8) then (sqlx_BindType.j0 k a0 (a0.toList == ([112, 103, 120] : List UInt8))) else (if a0.toList = ([112, 113, 45, 116, 105, 109, 101, 111, 117, 116, 115] : List UInt8) then (sqlx_BindType.j0 k a0 (a0.toList == ([112, 113, 45, 116, 105, 109, 101, 111, 117, 116, 115] : List UInt8))) else (if a0.toList = ([99, 108, 111, 117, 100, 115, 113, 108, 112, 111, 115, 116, 103, 114, 101, 115] : List UInt8) then (sqlx_BindType.j0 k a0 (a0.toList == ([99, 108, 111, 117, 100, 115, 113, 108, 112, 111, 115, 116, 103, 114, 101, 115] : List UInt8))) else (if a0.toList = ([113, 108] : List UInt8) then (sqlx_BindType.j0 k a0 (a0.toList == ([113, 108] : List UInt8))) else (if a0.toList = ([110, 114, 112, 111, 115, 116, 103, 114, 101, 115] : List UInt8) then (sqlx_BindType.j0 k a0 (a0.toList == ([110, 114, 112, 111, 115, 116, 103, 114, 101, 115] : List UInt8))) else (sqlx_BindType.j0 k a0 (a0.toList == ([99, 111, 99, 107, 114, 111, 97, 99, 104] : List UInt8))))))))) = some r := h
  clear h
  have HC2 := Aside0.mk H
  clear H
  go_enter Try.func31, Try.ntmps31
  go_upto_if 4 with (fail)
  go_cut [4] (fun v4 wc => ∃ (kq : Nat) (x4_1 : Bool), v4 = .bool x4_1 ∧ Aside0 (sqlx_BindType.j0 kq a0 x4_1 = some r) ∧ Aside0 (kq ≤ k) ∧ Drawn0 w wc)
  case first =>
    have H := HC2.out
    clear HC2
    by_cases c3 : a0.toList = ([112, 111, 115, 116, 103, 114, 101, 115] : List UInt8)
    · rw [if_pos c3] at H
      have c3b0 : (a0.toList == ([112, 111, 115, 116, 103, 114, 101, 115] : List UInt8)) = true := beq_iff_eq.mpr c3
      have c3b1 : (a0.toList != ([112, 111, 115, 116, 103, 114, 101, 115] : List UInt8)) = false := bne_eq_false_iff_eq.mpr c3
      clear c3
      (first | rw [c3b0] | (simp only [i64_w, i32_w]; rw [c3b0]) | skip)
      have H' := Aside0.mk H
      clear H
      go_wp2
      go_meet
      case rel => exact ⟨_, ((a0.toList == ([112, 111, 115, 116, 103, 114, 101, 115] : List UInt8))), (by first | rfl | (simp; done) | (simp [*]; done)), H', ⟨by first | omega | exact Nat.le_refl _⟩, by repeat (first | exact Drawn0.refl _ | apply Drawn0.step)⟩
    · rw [if_neg c3] at H
      have c3b0 : (a0.toList == ([112, 111, 115, 116, 103, 114, 101, 115] : List UInt8)) = false := beq_eq_false_iff_ne.mpr c3
      have c3b1 : (a0.toList != ([112, 111, 115, 116, 103, 114, 101, 115] : List UInt8)) = true := bne_iff_ne.mpr c3
      (first | rw [c3b0] | (simp only [i64_w, i32_w]; rw [c3b0]) | skip)
      by_cases c4 : a0.toList = ([112, 103, 120] : List UInt8)
      · rw [if_pos c4] at H
        have c4b0 : (a0.toList == ([112, 103, 120] : List UInt8)) = true := beq_iff_eq.mpr c4
        have c4b1 : (a0.toList != ([112, 103, 120] : List UInt8)) = false := bne_eq_false_iff_eq.mpr c4
        clear c4
        have H' := Aside0.mk H
        clear H
        go_wp2
        go_meet
        case rel => exact ⟨_, ((a0.toList == ([112, 103, 120] : List UInt8))), (by first | rfl | (simp; done) | (simp [*]; done)), H', ⟨by first | omega | exact Nat.le_refl _⟩, by repeat (first | exact Drawn0.refl _ | apply Drawn0.step)⟩
      · rw [if_neg c4] at H
        have c4b0 : (a0.toList == ([112, 103, 120] : List UInt8)) = false := beq_eq_false_iff_ne.mpr c4
        have c4b1 : (a0.toList != ([112, 103, 120] : List UInt8)) = true := bne_iff_ne.mpr c4
        by_cases c5 : a0.toList = ([112, 113, 45, 116, 105, 109, 101, 111, 117, 116, 115] : List UInt8)
        · rw [if_pos c5] at H
          have c5b0 : (a0.toList == ([112, 113, 45, 116, 105, 109, 101, 111, 117, 116, 115] : List UInt8)) = true := beq_iff_eq.mpr c5
          have c5b1 : (a0.toList != ([112, 113, 45, 116, 105, 109, 101, 111, 117, 116, 115] : List UInt8)) = false := bne_eq_false_iff_eq.mpr c5
          clear c5
          have H' := Aside0.mk H
          clear H
          go_wp2
          go_meet
          case rel => exact ⟨_, ((a0.toList == ([112, 113, 45, 116, 105, 109, 101, 111, 117, 116, 115] : List UInt8))), (by first | rfl | (simp; done) | (simp [*]; done)), H', ⟨by first | omega | exact Nat.le_refl _⟩, by repeat (first | exact Drawn0.refl _ | apply Drawn0.step)⟩
        · rw [if_neg c5] at H
          have c5b0 : (a0.toList == ([112, 113, 45, 116, 105, 109, 101, 111, 117, 116, 115] : List UInt8)) = false := beq_eq_false_iff_ne.mpr c5
          have c5b1 : (a0.toList != ([112, 113, 45, 116, 105, 109, 101, 111, 117, 116, 115] : List UInt8)) = true := bne_iff_ne.mpr c5
          by_cases c6 : a0.toList = ([99, 108, 111, 117, 100, 115, 113, 108, 112, 111, 115, 116, 103, 114, 101, 115] : List UInt8)
          · rw [if_pos c6] at H
            have c6b0 : (a0.toList == ([99, 108, 111, 117, 100, 115, 113, 108, 112, 111, 115, 116, 103, 114, 101, 115] : List UInt8)) = true := beq_iff_eq.mpr c6
            have c6b1 : (a0.toList != ([99, 108, 111, 117, 100, 115, 113, 108, 112, 111, 115, 116, 103, 114, 101, 115] : List UInt8)) = false := bne_eq_false_iff_eq.mpr c6
            clear c6
            have H' := Aside0.mk H
            clear H
            go_wp2
            go_meet
            case rel => exact ⟨_, ((a0.toList == ([99, 108, 111, 117, 100, 115, 113, 108, 112, 111, 115, 116, 103, 114, 101, 115] : List UInt8))), (by first | rfl | (simp; done) | (simp [*]; done)), H', ⟨by first | omega | exact Nat.le_refl _⟩, by repeat (first | exact Drawn0.refl _ | apply Drawn0.step)⟩
          · rw [if_neg c6] at H
            have c6b0 : (a0.toList == ([99, 108, 111, 117, 100, 115, 113, 108, 112, 111, 115, 116, 103, 114, 101, 115] : List UInt8)) = false := beq_eq_false_iff_ne.mpr c6
            have c6b1 : (a0.toList != ([99, 108, 111, 117, 100, 115, 113, 108, 112, 111, 115, 116, 103, 114, 101, 115] : List UInt8)) = true := bne_iff_ne.mpr c6
            by_cases c7 : a0.toList = ([113, 108] : List UInt8)
            · rw [if_pos c7] at H
              have c7b0 : (a0.toList == ([113, 108] : List UInt8)) = true := beq_iff_eq.mpr c7
              have c7b1 : (a0.toList != ([113, 108] : List UInt8)) = false := bne_eq_false_iff_eq.mpr c7
              clear c7
              have H' := Aside0.mk H
              clear H
              go_wp2
              go_meet
              case rel => exact ⟨_, ((a0.toList == ([113, 108] : List UInt8))), (by first | rfl | (simp; done) | (simp [*]; done)), H', ⟨by first | omega | exact Nat.le_refl _⟩, by repeat (first | exact Drawn0.refl _ | apply Drawn0.step)⟩
            · rw [if_neg c7] at H
              have c7b0 : (a0.toList == ([113, 108] : List UInt8)) = false := beq_eq_false_iff_ne.mpr c7
              have c7b1 : (a0.toList != ([113, 108] : List UInt8)) = true := bne_iff_ne.mpr c7
              by_cases c8 : a0.toList = ([110, 114, 112, 111, 115, 116, 103, 114, 101, 115] : List UInt8)
              · rw [if_pos c8] at H
                have c8b0 : (a0.toList == ([110, 114, 112, 111, 115, 116, 103, 114, 101, 115] : List UInt8)) = true := beq_iff_eq.mpr c8
                have c8b1 : (a0.toList != ([110, 114, 112, 111, 115, 116, 103, 114, 101, 115] : List UInt8)) = false := bne_eq_false_iff_eq.mpr c8
                clear c8
                have H' := Aside0.mk H
                clear H
                go_wp2
                go_meet
                case rel => exact ⟨_, ((a0.toList == ([110, 114, 112, 111, 115, 116, 103, 114, 101, 115] : List UInt8))), (by first | rfl | (simp; done) | (simp [*]; done)), H', ⟨by first | omega | exact Nat.le_refl _⟩, by repeat (first | exact Drawn0.refl _ | apply Drawn0.step)⟩
              · rw [if_neg c8] at H
                have c8b0 : (a0.toList == ([110, 114, 112, 111, 115, 116, 103, 114, 101, 115] : List UInt8)) = false := beq_eq_false_iff_ne.mpr c8
                have c8b1 : (a0.toList != ([110, 114, 112, 111, 115, 116, 103, 114, 101, 115] : List UInt8)) = true := bne_iff_ne.mpr c8
                have H' := Aside0.mk H
                clear H
                go_wp2
                go_meet
                case rel => exact ⟨_, ((a0.toList == ([99, 111, 99, 107, 114, 111, 97, 99, 104] : List UInt8))), (by first | rfl | (simp; done) | (simp [*]; done)), H', ⟨by first | omega | exact Nat.le_refl _⟩, by repeat (first | exact Drawn0.refl _ | apply Drawn0.step)⟩
  case rest =>
    clear HC2
    try clear p2
    try clear c3
    try clear c3b0
    try clear c3b1
    try clear c4
    try clear c4b0
    try clear c4b1
    try clear c5
    try clear c5b0
    try clear c5b1
    try clear c6
    try clear c6b0
    try clear c6b1
    try clear c7
    try clear c7b0
    try clear c7b1
    try clear c8
    try clear c8b0
    try clear c8b1
    obtain ⟨kq, x4_1, rfl, HA, HJ1, ⟨mc1, rfl⟩⟩ := hcut
    cases kq with
    | zero => exact absurd HA.out (by simp [sqlx_BindType.j0])
    | succ kj1 =>
      have H := HA.out
      clear HA
      simp only [sqlx_BindType.j0] at H
      by_cases c9 : x4_1 = true
      · subst c9
        have H1 : (some 2) = some r := by rw [if_pos rfl] at H; exact H
        clear H
        have H := H1
        clear H1
        obtain rfl := Option.some.inj H
        go_wp2
        go_ret
        exact ⟨by first | rfl | (simp; done) | (simp [*]; done), by repeat (first | exact Drawn0.refl _ | apply Drawn0.step)⟩
      · replace c9 := Bool.eq_false_iff.mpr c9
        subst c9
        have H1 : (if a0.toList = ([109, 121, 115, 113, 108] : List UInt8) then (sqlx_BindType.j1 kj1 a0 (a0.toList == ([109, 121, 115, 113, 108] : List UInt8))) else (if a0.toList = ([115, 113, 108, 105, 116, 101, 51] : List UInt8) then (sqlx_BindType.j1 kj1 a0 (a0.toList == ([115, 113, 108, 105, 116, 101, 51] : List UInt8))) else (if a0.toList = ([110, 114, 109, 121, 115, 113, 108] : List UInt8) then (sqlx_BindType.j1 kj1 a0 (a0.toList == ([110, 114, 109, 121, 115, 113, 108] : List UInt8))) else (sqlx_BindType.j1 kj1 a0 (a0.toList == ([110, 114, 115, 113, 108, 105, 116, 101, 51] : List UInt8)))))) = some r := by rw [if_neg (show ¬ (false = true) by decide)] at H; exact H
        clear H
        have H := H1
        clear H1
        have HC10 := Aside0.mk H
        clear H
        go_upto_if 12 with (fail)
        go_cut [12] (fun v12 wc => ∃ (kq : Nat) (x12_9 : Bool), v12 = .bool x12_9 ∧ Aside0 (sqlx_BindType.j1 kq a0 x12_9 = some r) ∧ Aside0 (kq ≤ kj1) ∧ Drawn0 w wc)
        case first =>
          have H := HC10.out
          clear HC10
          by_cases c11 : a0.toList = ([109, 121, 115, 113, 108] : List UInt8)
          · rw [if_pos c11] at H
            have c11b0 : (a0.toList == ([109, 121, 115, 113, 108] : List UInt8)) = true := beq_iff_eq.mpr c11
            have c11b1 : (a0.toList != ([109, 121, 115, 113, 108] : List UInt8)) = false := bne_eq_false_iff_eq.mpr c11
            clear c11
            (first | rw [c11b0] | (simp only [i64_w, i32_w]; rw [c11b0]) | skip)
            have H' := Aside0.mk H
            clear H
            go_wp2
            go_meet
            case rel => exact ⟨_, ((a0.toList == ([109, 121, 115, 113, 108] : List UInt8))), (by first | rfl | (simp; done) | (simp [*]; done)), H', ⟨by have := HJ1.out; first | omega | exact Nat.le_refl _⟩, by repeat (first | exact Drawn0.refl _ | apply Drawn0.step)⟩
          · rw [if_neg c11] at H
            have c11b0 : (a0.toList == ([109, 121, 115, 113, 108] : List UInt8)) = false := beq_eq_false_iff_ne.mpr c11
            have c11b1 : (a0.toList != ([109, 121, 115, 113, 108] : List UInt8)) = true := bne_iff_ne.mpr c11
            (first | rw [c11b0] | (simp only [i64_w, i32_w]; rw [c11b0]) | skip)
            by_cases c12 : a0.toList = ([115, 113, 108, 105, 116, 101, 51] : List UInt8)
            · rw [if_pos c12] at H
              have c12b0 : (a0.toList == ([115, 113, 108, 105, 116, 101, 51] : List UInt8)) = true := beq_iff_eq.mpr c12
              have c12b1 : (a0.toList != ([115, 113, 108, 105, 116, 101, 51] : List UInt8)) = false := bne_eq_false_iff_eq.mpr c12
              clear c12
              have H' := Aside0.mk H
              clear H
              go_wp2
              go_meet
              case rel => exact ⟨_, ((a0.toList == ([115, 113, 108, 105, 116, 101, 51] : List UInt8))), (by first | rfl | (simp; done) | (simp [*]; done)), H', ⟨by have := HJ1.out; first | omega | exact Nat.le_refl _⟩, by repeat (first | exact Drawn0.refl _ | apply Drawn0.step)⟩
            · rw [if_neg c12] at H
              have c12b0 : (a0.toList == ([115, 113, 108, 105, 116, 101, 51] : List UInt8)) = false := beq_eq_false_iff_ne.mpr c12
              have c12b1 : (a0.toList != ([115, 113, 108, 105, 116, 101, 51] : List UInt8)) = true := bne_iff_ne.mpr c12
              by_cases c13 : a0.toList = ([110, 114, 109, 121, 115, 113, 108] : List UInt8)
              · rw [if_pos c13] at H
                have c13b0 : (a0.toList == ([110, 114, 109, 121, 115, 113, 108] : List UInt8)) = true := beq_iff_eq.mpr c13
                have c13b1 : (a0.toList != ([110, 114, 109, 121, 115, 113, 108] : List UInt8)) = false := bne_eq_false_iff_eq.mpr c13
                clear c13
                have H' := Aside0.mk H
                clear H
                go_wp2
                go_meet
                case rel => exact ⟨_, ((a0.toList == ([110, 114, 109, 121, 115, 113, 108] : List UInt8))), (by first | rfl | (simp; done) | (simp [*]; done)), H', ⟨by have := HJ1.out; first | omega | exact Nat.le_refl _⟩, by repeat (first | exact Drawn0.refl _ | apply Drawn0.step)⟩
              · rw [if_neg c13] at H
                have c13b0 : (a0.toList == ([110, 114, 109, 121, 115, 113, 108] : List UInt8)) = false := beq_eq_false_iff_ne.mpr c13
                have c13b1 : (a0.toList != ([110, 114, 109, 121, 115, 113, 108] : List UInt8)) = true := bne_iff_ne.mpr c13
                have H' := Aside0.mk H
                clear H
                go_wp2
                go_meet
                case rel => exact ⟨_, ((a0.toList == ([110, 114, 115, 113, 108, 105, 116, 101, 51] : List UInt8))), (by first | rfl | (simp; done) | (simp [*]; done)), H', ⟨by have := HJ1.out; first | omega | exact Nat.le_refl _⟩, by repeat (first | exact Drawn0.refl _ | apply Drawn0.step)⟩
        case rest =>
          clear HC10
          try clear c1
          try clear p2
          try clear c3
          try clear c3b0
          try clear c3b1
          try clear c4
          try clear c4b0
          try clear c4b1
          try clear c5
          try clear c5b0
          try clear c5b1
          try clear c6
          try clear c6b0
          try clear c6b1
          try clear c7
          try clear c7b0
          try clear c7b1
          try clear c8
          try clear c8b0
          try clear c8b1
          try clear c9
          try clear c11
          try clear c11b0
          try clear c11b1
          try clear c12
          try clear c12b0
          try clear c12b1
          try clear c13
          try clear c13b0
          try clear c13b1
          try clear p2
          obtain ⟨kq, x12_9, rfl, HA, HJ9, ⟨mc9, rfl⟩⟩ := hcut
          cases kq with
          | zero => exact absurd HA.out (by simp [sqlx_BindType.j1])
          | succ kj9 =>
            have H := HA.out
            clear HA
            simp only [sqlx_BindType.j1] at H
            by_cases c14 : x12_9 = true
            · subst c14
              have H1 : (some 1) = some r := by rw [if_pos rfl] at H; exact H
              clear H
              have H := H1
              clear H1
              obtain rfl := Option.some.inj H
              go_wp2
              go_ret
              exact ⟨by first | rfl | (simp; done) | (simp [*]; done), by repeat (first | exact Drawn0.refl _ | apply Drawn0.step)⟩
            · replace c14 := Bool.eq_false_iff.mpr c14
              subst c14
              have H1 : (if a0.toList = ([111, 99, 105, 56] : List UInt8) then (sqlx_BindType.j2 kj9 a0 (a0.toList == ([111, 99, 105, 56] : List UInt8))) else (if a0.toList = ([111, 114, 97] : List UInt8) then (sqlx_BindType.j2 kj9 a0 (a0.toList == ([111, 114, 97] : List UInt8))) else (if a0.toList = ([103, 111, 114, 97, 99, 108, 101] : List UInt8) then (sqlx_BindType.j2 kj9 a0 (a0.toList == ([103, 111, 114, 97, 99, 108, 101] : List UInt8))) else (sqlx_BindType.j2 kj9 a0 (a0.toList == ([103, 111, 100, 114, 111, 114] : List UInt8)))))) = some r := by rw [if_neg (show ¬ (false = true) by decide)] at H; exact H
              clear H
              have H := H1
              clear H1
              have HC15 := Aside0.mk H
              clear H
              go_upto_if 17 with (fail)
              go_cut [17] (fun v17 wc => ∃ (kq : Nat) (x17_14 : Bool), v17 = .bool x17_14 ∧ Aside0 (sqlx_BindType.j2 kq a0 x17_14 = some r) ∧ Aside0 (kq ≤ kj9) ∧ Drawn0 w wc)
              case first =>
                have H := HC15.out
                clear HC15
                by_cases c16 : a0.toList = ([111, 99, 105, 56] : List UInt8)
                · rw [if_pos c16] at H
                  have c16b0 : (a0.toList == ([111, 99, 105, 56] : List UInt8)) = true := beq_iff_eq.mpr c16
                  have c16b1 : (a0.toList != ([111, 99, 105, 56] : List UInt8)) = false := bne_eq_false_iff_eq.mpr c16
                  clear c16
                  (first | rw [c16b0] | (simp only [i64_w, i32_w]; rw [c16b0]) | skip)
                  have H' := Aside0.mk H
                  clear H
                  go_wp2
                  go_meet
                  case rel => exact ⟨_, ((a0.toList == ([111, 99, 105, 56] : List UInt8))), (by first | rfl | (simp; done) | (simp [*]; done)), H', ⟨by have := HJ1.out; have := HJ9.out; first | omega | exact Nat.le_refl _⟩, by repeat (first | exact Drawn0.refl _ | apply Drawn0.step)⟩
                · rw [if_neg c16] at H
                  have c16b0 : (a0.toList == ([111, 99, 105, 56] : List UInt8)) = false := beq_eq_false_iff_ne.mpr c16
                  have c16b1 : (a0.toList != ([111, 99, 105, 56] : List UInt8)) = true := bne_iff_ne.mpr c16
                  (first | rw [c16b0] | (simp only [i64_w, i32_w]; rw [c16b0]) | skip)
                  by_cases c17 : a0.toList = ([111, 114, 97] : List UInt8)
                  · rw [if_pos c17] at H
                    have c17b0 : (a0.toList == ([111, 114, 97] : List UInt8)) = true := beq_iff_eq.mpr c17
                    have c17b1 : (a0.toList != ([111, 114, 97] : List UInt8)) = false := bne_eq_false_iff_eq.mpr c17
                    clear c17
                    have H' := Aside0.mk H
                    clear H
                    go_wp2
                    go_meet
                    case rel => exact ⟨_, ((a0.toList == ([111, 114, 97] : List UInt8))), (by first | rfl | (simp; done) | (simp [*]; done)), H', ⟨by have := HJ1.out; have := HJ9.out; first | omega | exact Nat.le_refl _⟩, by repeat (first | exact Drawn0.refl _ | apply Drawn0.step)⟩
                  · rw [if_neg c17] at H
                    have c17b0 : (a0.toList == ([111, 114, 97] : List UInt8)) = false := beq_eq_false_iff_ne.mpr c17
                    have c17b1 : (a0.toList != ([111, 114, 97] : List UInt8)) = true := bne_iff_ne.mpr c17
                    by_cases c18 : a0.toList = ([103, 111, 114, 97, 99, 108, 101] : List UInt8)
                    · rw [if_pos c18] at H
                      have c18b0 : (a0.toList == ([103, 111, 114, 97, 99, 108, 101] : List UInt8)) = true := beq_iff_eq.mpr c18
                      have c18b1 : (a0.toList != ([103, 111, 114, 97, 99, 108, 101] : List UInt8)) = false := bne_eq_false_iff_eq.mpr c18
                      clear c18
                      have H' := Aside0.mk H
                      clear H
                      go_wp2
                      go_meet
                      case rel => exact ⟨_, ((a0.toList == ([103, 111, 114, 97, 99, 108, 101] : List UInt8))), (by first | rfl | (simp; done) | (simp [*]; done)), H', ⟨by have := HJ1.out; have := HJ9.out; first | omega | exact Nat.le_refl _⟩, by repeat (first | exact Drawn0.refl _ | apply Drawn0.step)⟩
                    · rw [if_neg c18] at H
                      have c18b0 : (a0.toList == ([103, 111, 114, 97, 99, 108, 101] : List UInt8)) = false := beq_eq_false_iff_ne.mpr c18
                      have c18b1 : (a0.toList != ([103, 111, 114, 97, 99, 108, 101] : List UInt8)) = true := bne_iff_ne.mpr c18
                      have H' := Aside0.mk H
                      clear H
                      go_wp2
                      go_meet
                      case rel => exact ⟨_, ((a0.toList == ([103, 111, 100, 114, 111, 114] : List UInt8))), (by first | rfl | (simp; done) | (simp [*]; done)), H', ⟨by have := HJ1.out; have := HJ9.out; first | omega | exact Nat.le_refl _⟩, by repeat (first | exact Drawn0.refl _ | apply Drawn0.step)⟩
              case rest =>
                clear HC15
                try clear c1
                try clear p2
                try clear c3
                try clear c3b0
                try clear c3b1
                try clear c4
                try clear c4b0
                try clear c4b1
                try clear c5
                try clear c5b0
                try clear c5b1
                try clear c6
                try clear c6b0
                try clear c6b1
                try clear c7
                try clear c7b0
                try clear c7b1
                try clear c8
                try clear c8b0
                try clear c8b1
                try clear c9
                try clear c11
                try clear c11b0
                try clear c11b1
                try clear c12
                try clear c12b0
                try clear c12b1
                try clear c13
                try clear c13b0
                try clear c13b1
                try clear c14
                try clear c16
                try clear c16b0
                try clear c16b1
                try clear c17
                try clear c17b0
                try clear c17b1
                try clear c18
                try clear c18b0
                try clear c18b1
                try clear p2
                obtain ⟨kq, x17_14, rfl, HA, HJ14, ⟨mc14, rfl⟩⟩ := hcut
                cases kq with
                | zero => exact absurd HA.out (by simp [sqlx_BindType.j2])
                | succ kj14 =>
                  have H := HA.out
                  clear HA
                  simp only [sqlx_BindType.j2] at H
                  by_cases c19 : x17_14 = true
                  · subst c19
                    have H1 : (some 3) = some r := by rw [if_pos rfl] at H; exact H
                    clear H
                    have H := H1
                    clear H1
                    obtain rfl := Option.some.inj H
                    go_wp2
                    go_ret
                    exact ⟨by first | rfl | (simp; done) | (simp [*]; done), by repeat (first | exact Drawn0.refl _ | apply Drawn0.step)⟩
                  · replace c19 := Bool.eq_false_iff.mpr c19
                    subst c19
                    have H1 : (if a0.toList = ([115, 113, 108, 115, 101, 114, 118, 101, 114] : List UInt8) then (some 4) else (some 0)) = some r := by rw [if_neg (show ¬ (false = true) by decide)] at H; exact H
                    clear H
                    have H := H1
                    clear H1
                    by_cases c20 : a0.toList = ([115, 113, 108, 115, 101, 114, 118, 101, 114] : List UInt8)
                    · rw [if_pos c20] at H
                      have c20b0 : (a0.toList == ([115, 113, 108, 115, 101, 114, 118, 101, 114] : List UInt8)) = true := beq_iff_eq.mpr c20
                      have c20b1 : (a0.toList != ([115, 113, 108, 115, 101, 114, 118, 101, 114] : List UInt8)) = false := bne_eq_false_iff_eq.mpr c20
                      clear c20
                      obtain rfl := Option.some.inj H
                      go_wp2
                      go_ret
                      exact ⟨by first | rfl | (simp; done) | (simp [*]; done), by repeat (first | exact Drawn0.refl _ | apply Drawn0.step)⟩
                    · rw [if_neg c20] at H
                      have c20b0 : (a0.toList == ([115, 113, 108, 115, 101, 114, 118, 101, 114] : List UInt8)) = false := beq_eq_false_iff_ne.mpr c20
                      have c20b1 : (a0.toList != ([115, 113, 108, 115, 101, 114, 118, 101, 114] : List UInt8)) = true := bne_iff_ne.mpr c20
                      obtain rfl := Option.some.inj H
                      go_wp2
                      go_ret
                      exact ⟨by first | rfl | (simp; done) | (simp [*]; done), by repeat (first | exact Drawn0.refl _ | apply Drawn0.step)⟩

/-! ### impl_BindOf: function 11 -/
def impl_BindOf.f (k : Nat) (a0 : ByteArray) : Option (Int) := (sqlx_BindType.f k a0).bind fun t101 => (some t101)
theorem impl_BindOf.mono : ∀ a0 k, LeO (impl_BindOf.f k a0) (impl_BindOf.f (k + 1) a0) := by
  intro a0 k
  unfold impl_BindOf.f
  repeat' first
      | (with_reducible exact sqlx_BindType.mono _ _)
      | (with_reducible exact LeO.refl _)
      | (with_reducible exact LeO.none _)
      | (with_reducible refine LeO.ite ?_ ?_)
      | (with_reducible refine LeO.bind ?_ (fun _ => ?_))
      | exact sqlx_BindType.mono _ _
      | exact LeO.none _
      | refine LeO.ite ?_ ?_
      | refine LeO.bind ?_ (fun _ => ?_)
set_option maxHeartbeats 8000000 in
set_option maxRecDepth 100000 in
theorem impl_BindOf.calls (k : Nat) (a0 : ByteArray) (r : Int) (w : World) (h : impl_BindOf.f k a0 = some r) :
    Calls Try.prog 11 #[.string a0] w fun e w' => e = .returned (.int .i64 r) ∧ Drawn0 w w' := by
  have H : ((sqlx_BindType.f k a0).bind fun t101 => (some t101)) = some r := h
  clear h
  replace H := Option.bind_eq_some_iff.mp H
  obtain ⟨t101, A20, H⟩ := H
  replace H : (some t101) = some r := H
  have A2 := Aside0.mk A20
  clear A20
  obtain rfl := Option.some.inj H
  go_enter Try.func11, Try.ntmps11
  go_wp2_with (first | ((with_reducible refine gate_callee (f := 31) rfl ?_); refine goesL_ (some 4) rfl rfl Try.func31 (by kernel_rfl) rfl #[.string a0] rfl (by (try simp only [List.map_toArray, List.map_cons, List.map_nil]); first | done | rfl | (simp only [List.length_drop, List.length_take]; rfl)) ?_; (with_reducible refine (sqlx_BindType.calls k a0 t101 _ A2.out).mono ?_); rintro e w' ⟨rfl, ⟨nd, rfl⟩⟩; refine ⟨_, rfl, ?_⟩))
  go_ret
  exact ⟨by first | rfl | (simp; done) | (simp [*]; done), by repeat (first | exact Drawn0.refl _ | apply Drawn0.step)⟩

-- NOT PRINTED: function 12 (spec_BindOf)

-- NOT PRINTED: function 3 (laws_FnBindOf)

end Go.Proofs.Ytnofpojkajmfoaa.PFnBindOf
