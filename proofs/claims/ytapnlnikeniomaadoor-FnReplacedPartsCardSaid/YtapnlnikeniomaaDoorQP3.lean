-- WRITTEN BY A PROGRAM OF THIS SESSION (wip/print2.py): the print, with contracts of this session's own let in. Not trusted: Lean checks it.
import Derived.Test.YtapnlnikeniomaaDoorHRow
import Derived.Test.YtapnlnikeniomaaDoorQP0
import Derived.Test.YtapnlnikeniomaaDoorQP1
import Derived.Test.YtapnlnikeniomaaDoorHPosI
namespace Go.Proofs.YtapnlnikeniomaaDoor.QP
open Go.RowKit Go.Proofs.YtapnlnikeniomaaDoorW.PrintWords Go.Proofs.YtapnlnikeniomaaDoorW.PrintLast Go.Proofs.YtapnlnikeniomaaDoorW.PrintMore
attribute [local go_sem] max2_int min2_int max_two min_two max_three min_three max_four min_four   -- for this text's walks alone
set_option linter.unusedVariables false
set_option linter.unusedSimpArgs false

open Go.Proofs.YtapnlnikeniomaaDoor.H
/-! ### laws_FnReplacedParts: function 7 -/
mutual
def laws_FnReplacedParts.j0 [Inhabited TabT] : Nat → Int → ByteArray → ByteArray → Bool → Option (Bool)
  | 0, _, _, _, _ => none
  | k + 1, x0, x1, x2, x21 => if x21 = true then (some true) else (if (x1.size : Int) > 1000 then (laws_FnReplacedParts.j1 k x0 x1 x2 true) else (laws_FnReplacedParts.j1 k x0 x1 x2 (decide ((x2.size : Int) > 1000))))
def laws_FnReplacedParts.j1 [Inhabited TabT] : Nat → Int → ByteArray → ByteArray → Bool → Option (Bool)
  | 0, _, _, _, _ => none
  | k + 1, x0, x1, x2, x29 => if x29 = true then (some true) else (laws_FnReplacedParts.l0 k x0 x1 x2 0)
def laws_FnReplacedParts.l0 [Inhabited TabT] : Nat → Int → ByteArray → ByteArray → Int → Option (Bool)
  | 0, _, _, _, _ => none
  | k + 1, x0, x1, x2, x7 => if x7 < (x2.size : Int) then (if 0 ≤ x7 then (if (bt x2 x7) = 63 then (some true) else (laws_FnReplacedParts.l0 k x0 x1 x2 (wrap64 (x7 + 1)))) else (none)) else ((laws_form9.f x0).bind fun t104 => ((impl_Replaced.f t104 x1).bind fun bt105 => ((laws_form9.f x0).bind fun t107 => (if x1.size + x2.size ≤ 9223372036854775807 then ((impl_Replaced.f t107 (x1 ++ x2)).bind fun bt108 => ((laws_form9.f x0).bind fun t110 => (if x2.size + x1.size ≤ 9223372036854775807 then ((impl_Replaced.f t110 (x2 ++ x1)).bind fun bt111 => (if bt105.2 = true then (if bt108.2 = true then (if bt111.2 = true then (if bt105.1.size + x2.size ≤ 9223372036854775807 then (if bt108.1.toList = (bt105.1 ++ x2).toList then (if x2.size + bt105.1.size ≤ 9223372036854775807 then (some (bt111.1.toList == (x2 ++ bt105.1).toList)) else (none)) else (some false)) else (none)) else (some false)) else (some false)) else (some false))) else (none)))) else (none)))))
end
def laws_FnReplacedParts.f [Inhabited TabT] (k : Nat) (a0 : Int) (a1 : ByteArray) (a2 : ByteArray) : Option (Bool) := if (a1.size : Int) > 2147483647 then (laws_FnReplacedParts.j0 k a0 a1 a2 true) else (laws_FnReplacedParts.j0 k a0 a1 a2 (decide ((a2.size : Int) > 2147483647)))
theorem laws_FnReplacedParts.mono_l [Inhabited TabT] : ∀ k, (∀ y0 y1 y2 y3, LeO (laws_FnReplacedParts.j0 k y0 y1 y2 y3) (laws_FnReplacedParts.j0 (k + 1) y0 y1 y2 y3)) ∧ (∀ y0 y1 y2 y3, LeO (laws_FnReplacedParts.j1 k y0 y1 y2 y3) (laws_FnReplacedParts.j1 (k + 1) y0 y1 y2 y3)) ∧ (∀ y0 y1 y2 y3, LeO (laws_FnReplacedParts.l0 k y0 y1 y2 y3) (laws_FnReplacedParts.l0 (k + 1) y0 y1 y2 y3))
  | 0 => ⟨fun _ _ _ _ r h => by simp [laws_FnReplacedParts.j0] at h, fun _ _ _ _ r h => by simp [laws_FnReplacedParts.j1] at h, fun _ _ _ _ r h => by simp [laws_FnReplacedParts.l0] at h⟩
  | k + 1 => by
    obtain ⟨ih0, ih1, ih2⟩ := laws_FnReplacedParts.mono_l k
    refine ⟨?_, ?_, ?_⟩
    · intro y0 y1 y2 y3
      unfold laws_FnReplacedParts.j0
      repeat' first
      | (with_reducible exact ih0 _ _ _ _)
      | (with_reducible exact ih1 _ _ _ _)
      | (with_reducible exact ih2 _ _ _ _)
      | (with_reducible exact LeO.refl _)
      | (with_reducible exact LeO.none _)
      | (with_reducible refine LeO.ite ?_ ?_)
      | (with_reducible refine LeO.bind ?_ (fun _ => ?_))
      | exact ih0 _ _ _ _
      | exact ih1 _ _ _ _
      | exact ih2 _ _ _ _
      | exact LeO.none _
      | refine LeO.ite ?_ ?_
      | refine LeO.bind ?_ (fun _ => ?_)
    · intro y0 y1 y2 y3
      unfold laws_FnReplacedParts.j1
      repeat' first
      | (with_reducible exact ih0 _ _ _ _)
      | (with_reducible exact ih1 _ _ _ _)
      | (with_reducible exact ih2 _ _ _ _)
      | (with_reducible exact LeO.refl _)
      | (with_reducible exact LeO.none _)
      | (with_reducible refine LeO.ite ?_ ?_)
      | (with_reducible refine LeO.bind ?_ (fun _ => ?_))
      | exact ih0 _ _ _ _
      | exact ih1 _ _ _ _
      | exact ih2 _ _ _ _
      | exact LeO.none _
      | refine LeO.ite ?_ ?_
      | refine LeO.bind ?_ (fun _ => ?_)
    · intro y0 y1 y2 y3
      unfold laws_FnReplacedParts.l0
      repeat' first
      | (with_reducible exact ih0 _ _ _ _)
      | (with_reducible exact ih1 _ _ _ _)
      | (with_reducible exact ih2 _ _ _ _)
      | (with_reducible exact LeO.refl _)
      | (with_reducible exact LeO.none _)
      | (with_reducible refine LeO.ite ?_ ?_)
      | (with_reducible refine LeO.bind ?_ (fun _ => ?_))
      | exact ih0 _ _ _ _
      | exact ih1 _ _ _ _
      | exact ih2 _ _ _ _
      | exact LeO.none _
      | refine LeO.ite ?_ ?_
      | refine LeO.bind ?_ (fun _ => ?_)
theorem laws_FnReplacedParts.mono [Inhabited TabT] : ∀ a0 a1 a2 k, LeO (laws_FnReplacedParts.f k a0 a1 a2) (laws_FnReplacedParts.f (k + 1) a0 a1 a2) := by
  intro a0 a1 a2 k
  obtain ⟨ih0, ih1, ih2⟩ := laws_FnReplacedParts.mono_l k
  unfold laws_FnReplacedParts.f
  repeat' first
      | (with_reducible exact ih0 _ _ _ _)
      | (with_reducible exact ih1 _ _ _ _)
      | (with_reducible exact ih2 _ _ _ _)
      | (with_reducible exact LeO.refl _)
      | (with_reducible exact LeO.none _)
      | (with_reducible refine LeO.ite ?_ ?_)
      | (with_reducible refine LeO.bind ?_ (fun _ => ?_))
      | exact ih0 _ _ _ _
      | exact ih1 _ _ _ _
      | exact ih2 _ _ _ _
      | exact LeO.none _
      | refine LeO.ite ?_ ?_
      | refine LeO.bind ?_ (fun _ => ?_)
set_option maxHeartbeats 8000000 in
set_option maxRecDepth 100000 in
theorem laws_FnReplacedParts.calls [Inhabited TabT] (k : Nat) (a0 : Int) (a1 : ByteArray) (a2 : ByteArray) (r : Bool) (w : World) (ht_ : Tab w) (h : laws_FnReplacedParts.f k a0 a1 a2 = some r) :
    Calls Tryd.prog 7 #[.int .u8 a0, .string a1, .string a2] w fun e w' => e = .returned (.bool r) ∧ Below w.heap.size w w' := by
  have HB := Aside0.mk (Below.refl w.heap.size w)
  have HTAB_ := Aside0.mk (tab_below ht_)
  clear ht_
  have H : (if (a1.size : Int) > 2147483647 then (laws_FnReplacedParts.j0 k a0 a1 a2 true) else (laws_FnReplacedParts.j0 k a0 a1 a2 (decide ((a2.size : Int) > 2147483647)))) = some r := h
  clear h
  have HC4 := Aside0.mk H
  clear H
  go_enter Tryd.func7, Tryd.ntmps7
  go_upto_region 1 with (fail)
  go_cut [21] (fun v21 wc => ∃ (kq : Nat) (x21_3 : Bool), v21 = .bool x21_3 ∧ Aside0 (laws_FnReplacedParts.j0 kq a0 a1 a2 x21_3 = some r) ∧ Aside0 (kq ≤ k) ∧ Aside0 (Below w.heap.size w wc))
  case first =>
    have H := HC4.out
    clear HC4
    by_cases c5 : (a1.size : Int) > 2147483647
    · rw [if_pos c5] at H
      have c5b0 : decide (2147483647 < (a1.size : Int)) = true := decide_eq_true c5
      have c5b1 : decide (2147483647 < a1.size) = true := decide_eq_true (by omega)
      clear c5
      (first | rw [c5b0] | (simp only [i64_w, i32_w]; rw [c5b0]) | skip)
      have H' := Aside0.mk H
      clear H
      go_wp2
      go_meet
      case rel => exact ⟨_, (true), (by first | rfl | (simp; done) | (simp [*]; done)), H', ⟨by first | omega | exact Nat.le_refl _⟩, ⟨by repeat (first | (with_reducible first | exact HB.out | apply below_alloc | apply pw_below_drewN | apply below_drew1) | exact HB.out)⟩⟩
    · rw [if_neg c5] at H
      have c5b0 : decide (2147483647 < (a1.size : Int)) = false := decide_eq_false c5
      have c5b1 : decide (2147483647 < a1.size) = false := decide_eq_false (by omega)
      clear c5
      (first | rw [c5b0] | (simp only [i64_w, i32_w]; rw [c5b0]) | skip)
      have H' := Aside0.mk H
      clear H
      go_wp2
      go_meet
      case rel => exact ⟨_, (decide ((a2.size : Int) > 2147483647)), (by first | rfl | (simp; done) | (simp [*]; done)), H', ⟨by first | omega | exact Nat.le_refl _⟩, ⟨by repeat (first | (with_reducible first | exact HB.out | apply below_alloc | apply pw_below_drewN | apply below_drew1) | exact HB.out)⟩⟩
  case rest =>
    clear HC4
    try clear p2
    try clear c5
    try clear c5b0
    try clear c5b1
    obtain ⟨kq, x21_3, rfl, HA, HJ3, HB⟩ := hcut
    cases kq with
    | zero => exact absurd HA.out (by simp [laws_FnReplacedParts.j0])
    | succ kj3 =>
      have H := HA.out
      clear HA
      simp only [laws_FnReplacedParts.j0] at H
      by_cases c6 : x21_3 = true
      · subst c6
        have H1 : (some true) = some r := by rw [if_pos rfl] at H; exact H
        clear H
        have H := H1
        clear H1
        obtain rfl := Option.some.inj H
        go_wp2
        go_ret
        exact ⟨by first | rfl | (simp [errW_none, errW_some] <;> rfl) | (simp [*, errW_none, errW_some] <;> rfl), by repeat (first | (with_reducible first | exact HB.out | apply below_alloc | apply pw_below_drewN | apply below_drew1) | exact HB.out)⟩
      · replace c6 := Bool.eq_false_iff.mpr c6
        subst c6
        have H1 : (if (a1.size : Int) > 1000 then (laws_FnReplacedParts.j1 kj3 a0 a1 a2 true) else (laws_FnReplacedParts.j1 kj3 a0 a1 a2 (decide ((a2.size : Int) > 1000)))) = some r := by rw [if_neg (show ¬ (false = true) by decide)] at H; exact H
        clear H
        have H := H1
        clear H1
        have HC7 := Aside0.mk H
        clear H
        go_upto_region 3 with (fail)
        go_cut [29] (fun v29 wc => ∃ (kq : Nat) (x29_6 : Bool), v29 = .bool x29_6 ∧ Aside0 (laws_FnReplacedParts.j1 kq a0 a1 a2 x29_6 = some r) ∧ Aside0 (kq ≤ kj3) ∧ Aside0 (Below w.heap.size w wc))
        case first =>
          have H := HC7.out
          clear HC7
          by_cases c8 : (a1.size : Int) > 1000
          · rw [if_pos c8] at H
            have c8b0 : decide (1000 < (a1.size : Int)) = true := decide_eq_true c8
            have c8b1 : decide (1000 < a1.size) = true := decide_eq_true (by omega)
            clear c8
            (first | rw [c8b0] | (simp only [i64_w, i32_w]; rw [c8b0]) | skip)
            have H' := Aside0.mk H
            clear H
            go_wp2
            go_meet
            case rel => exact ⟨_, (true), (by first | rfl | (simp; done) | (simp [*]; done)), H', ⟨by have := HJ3.out; first | omega | exact Nat.le_refl _⟩, ⟨by repeat (first | (with_reducible first | exact HB.out | apply below_alloc | apply pw_below_drewN | apply below_drew1) | exact HB.out)⟩⟩
          · rw [if_neg c8] at H
            have c8b0 : decide (1000 < (a1.size : Int)) = false := decide_eq_false c8
            have c8b1 : decide (1000 < a1.size) = false := decide_eq_false (by omega)
            clear c8
            (first | rw [c8b0] | (simp only [i64_w, i32_w]; rw [c8b0]) | skip)
            have H' := Aside0.mk H
            clear H
            go_wp2
            go_meet
            case rel => exact ⟨_, (decide ((a2.size : Int) > 1000)), (by first | rfl | (simp; done) | (simp [*]; done)), H', ⟨by have := HJ3.out; first | omega | exact Nat.le_refl _⟩, ⟨by repeat (first | (with_reducible first | exact HB.out | apply below_alloc | apply pw_below_drewN | apply below_drew1) | exact HB.out)⟩⟩
        case rest =>
          clear HC7
          try clear p2
          try clear c5
          try clear c5b0
          try clear c5b1
          try clear c6
          try clear c7
          try clear c8
          try clear c8b0
          try clear c8b1
          try clear p2
          obtain ⟨kq, x29_6, rfl, HA, HJ6, HB⟩ := hcut
          cases kq with
          | zero => exact absurd HA.out (by simp [laws_FnReplacedParts.j1])
          | succ kj6 =>
            have H := HA.out
            clear HA
            simp only [laws_FnReplacedParts.j1] at H
            by_cases c9 : x29_6 = true
            · subst c9
              have H1 : (some true) = some r := by rw [if_pos rfl] at H; exact H
              clear H
              have H := H1
              clear H1
              obtain rfl := Option.some.inj H
              go_wp2
              go_ret
              exact ⟨by first | rfl | (simp [errW_none, errW_some] <;> rfl) | (simp [*, errW_none, errW_some] <;> rfl), by repeat (first | (with_reducible first | exact HB.out | apply below_alloc | apply pw_below_drewN | apply below_drew1) | exact HB.out)⟩
            · replace c9 := Bool.eq_false_iff.mpr c9
              subst c9
              have H1 : (laws_FnReplacedParts.l0 kj6 a0 a1 a2 0) = some r := by rw [if_neg (show ¬ (false = true) by decide)] at H; exact H
              clear H
              have H := H1
              clear H1
              have H' := Aside0.mk H
              clear H
              go_wp2
              go_loopg [7] kj6 (fun kq v7 w' => ∃ (x7_3 : Int), v7 = .int .i64 x7_3 ∧ Aside0 (laws_FnReplacedParts.l0 kq a0 a1 a2 x7_3 = some r) ∧ Aside0 (kq ≤ kj6) ∧ Aside0 (Below w.heap.size w w'))
              case atStart => exact ⟨(0), (by first | rfl | (simp; done) | (simp [*]; done)), H', ⟨Nat.le_refl _⟩, ⟨by repeat (first | (with_reducible first | exact HB.out | apply below_alloc | apply pw_below_drewN | apply below_drew1) | exact HB.out)⟩⟩
              case round =>
                clear H'
                try clear p2
                try clear c5
                try clear c5b0
                try clear c5b1
                try clear c6
                try clear c7
                try clear c8
                try clear c8b0
                try clear c8b1
                try clear c9
                try clear p2
                obtain ⟨x7_3, rfl, HA, HK3, HB⟩ := hrel
                cases gk with
                | zero => exact absurd HA.out (by simp [laws_FnReplacedParts.l0])
                | succ k3 =>
                  have H := HA.out
                  clear HA
                  simp only [laws_FnReplacedParts.l0] at H
                  by_cases c10 : x7_3 < (a2.size : Int)
                  · rw [if_pos c10] at H
                    have c10b0 : decide (x7_3 < (a2.size : Int)) = true := decide_eq_true c10
                    clear c10
                    by_cases c11 : 0 ≤ x7_3
                    · rw [if_pos c11] at H
                      have c11b0 : decide (0 ≤ x7_3) = true := decide_eq_true c11
                      clear c11
                      by_cases c13 : (bt a2 x7_3) = 63
                      · rw [if_pos c13] at H
                        have c13b0 : ((bt a2 x7_3) == 63) = true := beq_iff_eq.mpr c13
                        have c13b1 : ((bt a2 x7_3) != 63) = false := bne_eq_false_iff_eq.mpr c13
                        clear c13
                        obtain rfl := Option.some.inj H
                        have p12 : 0 ≤ (x7_3 : Int) := of_decide_eq_true (by first | (with_reducible assumption) | assumption)
                        have q12 : x7_3 < (a2.size : Int) := of_decide_eq_true (by first | (with_reducible assumption) | assumption)
                        have hx12 := bt_at a2 x7_3
                        replace p12 := eq_true p12
                        replace q12 := eq_true q12
                        go_wp2
                        go_ret
                        exact ⟨by first | rfl | (simp [errW_none, errW_some] <;> rfl) | (simp [*, errW_none, errW_some] <;> rfl), by repeat (first | (with_reducible first | exact HB.out | apply below_alloc | apply pw_below_drewN | apply below_drew1) | exact HB.out)⟩
                      · rw [if_neg c13] at H
                        have c13b0 : ((bt a2 x7_3) == 63) = false := beq_eq_false_iff_ne.mpr c13
                        have c13b1 : ((bt a2 x7_3) != 63) = true := bne_iff_ne.mpr c13
                        have H' := Aside0.mk H
                        clear H
                        have p12 : 0 ≤ (x7_3 : Int) := of_decide_eq_true (by first | (with_reducible assumption) | assumption)
                        have q12 : x7_3 < (a2.size : Int) := of_decide_eq_true (by first | (with_reducible assumption) | assumption)
                        have hx12 := bt_at a2 x7_3
                        replace p12 := eq_true p12
                        replace q12 := eq_true q12
                        go_wp2
                        go_roundg k3
                        case measure => have := HJ3.out; have := HJ6.out; have := HK3.out; omega
                        case rel => exact ⟨(wrap64 (x7_3 + 1)), (by first | rfl | (simp; done) | (simp [*]; done)), H', ⟨by have := HJ3.out; have := HJ6.out; have := HK3.out; omega⟩, ⟨by repeat (first | (with_reducible first | exact HB.out | apply below_alloc | apply pw_below_drewN | apply below_drew1) | exact HB.out)⟩⟩
                    · rw [if_neg c11] at H
                      exact absurd H (by simp)
                  · rw [if_neg c10] at H
                    have c10b0 : decide (x7_3 < (a2.size : Int)) = false := decide_eq_false c10
                    clear c10
                    replace H := Option.bind_eq_some_iff.mp H
                    obtain ⟨t104, A140, H⟩ := H
                    replace H : ((impl_Replaced.f t104 a1).bind fun bt105 => ((laws_form9.f a0).bind fun t107 => (if a1.size + a2.size ≤ 9223372036854775807 then ((impl_Replaced.f t107 (a1 ++ a2)).bind fun bt108 => ((laws_form9.f a0).bind fun t110 => (if a2.size + a1.size ≤ 9223372036854775807 then ((impl_Replaced.f t110 (a2 ++ a1)).bind fun bt111 => (if bt105.2 = true then (if bt108.2 = true then (if bt111.2 = true then (if bt105.1.size + a2.size ≤ 9223372036854775807 then (if bt108.1.toList = (bt105.1 ++ a2).toList then (if a2.size + bt105.1.size ≤ 9223372036854775807 then (some (bt111.1.toList == (a2 ++ bt105.1).toList)) else (none)) else (some false)) else (none)) else (some false)) else (some false)) else (some false))) else (none)))) else (none)))) = some r := H
                    have A14 := Aside0.mk A140
                    clear A140
                    replace H := Option.bind_eq_some_iff.mp H
                    obtain ⟨⟨t105, t106⟩, A150, H⟩ := H
                    replace H : ((laws_form9.f a0).bind fun t107 => (if a1.size + a2.size ≤ 9223372036854775807 then ((impl_Replaced.f t107 (a1 ++ a2)).bind fun bt108 => ((laws_form9.f a0).bind fun t110 => (if a2.size + a1.size ≤ 9223372036854775807 then ((impl_Replaced.f t110 (a2 ++ a1)).bind fun bt111 => (if t106 = true then (if bt108.2 = true then (if bt111.2 = true then (if t105.size + a2.size ≤ 9223372036854775807 then (if bt108.1.toList = (t105 ++ a2).toList then (if a2.size + t105.size ≤ 9223372036854775807 then (some (bt111.1.toList == (a2 ++ t105).toList)) else (none)) else (some false)) else (none)) else (some false)) else (some false)) else (some false))) else (none)))) else (none))) = some r := H
                    have A15 := Aside0.mk A150
                    clear A150
                    replace H := Option.bind_eq_some_iff.mp H
                    obtain ⟨t107, A160, H⟩ := H
                    replace H : (if a1.size + a2.size ≤ 9223372036854775807 then ((impl_Replaced.f t107 (a1 ++ a2)).bind fun bt108 => ((laws_form9.f a0).bind fun t110 => (if a2.size + a1.size ≤ 9223372036854775807 then ((impl_Replaced.f t110 (a2 ++ a1)).bind fun bt111 => (if t106 = true then (if bt108.2 = true then (if bt111.2 = true then (if t105.size + a2.size ≤ 9223372036854775807 then (if bt108.1.toList = (t105 ++ a2).toList then (if a2.size + t105.size ≤ 9223372036854775807 then (some (bt111.1.toList == (a2 ++ t105).toList)) else (none)) else (some false)) else (none)) else (some false)) else (some false)) else (some false))) else (none)))) else (none)) = some r := H
                    have A16 := Aside0.mk A160
                    clear A160
                    by_cases c17 : a1.size + a2.size ≤ 9223372036854775807
                    · rw [if_pos c17] at H
                      have c17b0 := eq_true c17
                      have c17b1 : decide (a1.size + a2.size ≤ 9223372036854775807) = true := decide_eq_true c17
                      try have c17b2 : (9223372036854775807 < a1.size + a2.size) = False := eq_false (Nat.not_lt.2 c17)
                      replace H := Option.bind_eq_some_iff.mp H
                      obtain ⟨⟨t108, t109⟩, A180, H⟩ := H
                      replace H : ((laws_form9.f a0).bind fun t110 => (if a2.size + a1.size ≤ 9223372036854775807 then ((impl_Replaced.f t110 (a2 ++ a1)).bind fun bt111 => (if t106 = true then (if t109 = true then (if bt111.2 = true then (if t105.size + a2.size ≤ 9223372036854775807 then (if t108.toList = (t105 ++ a2).toList then (if a2.size + t105.size ≤ 9223372036854775807 then (some (bt111.1.toList == (a2 ++ t105).toList)) else (none)) else (some false)) else (none)) else (some false)) else (some false)) else (some false))) else (none))) = some r := H
                      have A18 := Aside0.mk A180
                      clear A180
                      replace H := Option.bind_eq_some_iff.mp H
                      obtain ⟨t110, A190, H⟩ := H
                      replace H : (if a2.size + a1.size ≤ 9223372036854775807 then ((impl_Replaced.f t110 (a2 ++ a1)).bind fun bt111 => (if t106 = true then (if t109 = true then (if bt111.2 = true then (if t105.size + a2.size ≤ 9223372036854775807 then (if t108.toList = (t105 ++ a2).toList then (if a2.size + t105.size ≤ 9223372036854775807 then (some (bt111.1.toList == (a2 ++ t105).toList)) else (none)) else (some false)) else (none)) else (some false)) else (some false)) else (some false))) else (none)) = some r := H
                      have A19 := Aside0.mk A190
                      clear A190
                      by_cases c20 : a2.size + a1.size ≤ 9223372036854775807
                      · rw [if_pos c20] at H
                        have c20b0 := eq_true c20
                        have c20b1 : decide (a2.size + a1.size ≤ 9223372036854775807) = true := decide_eq_true c20
                        try have c20b2 : (9223372036854775807 < a2.size + a1.size) = False := eq_false (Nat.not_lt.2 c20)
                        replace H := Option.bind_eq_some_iff.mp H
                        obtain ⟨⟨t111, t112⟩, A210, H⟩ := H
                        replace H : (if t106 = true then (if t109 = true then (if t112 = true then (if t105.size + a2.size ≤ 9223372036854775807 then (if t108.toList = (t105 ++ a2).toList then (if a2.size + t105.size ≤ 9223372036854775807 then (some (t111.toList == (a2 ++ t105).toList)) else (none)) else (some false)) else (none)) else (some false)) else (some false)) else (some false)) = some r := H
                        have A21 := Aside0.mk A210
                        clear A210
                        by_cases c22 : t106 = true
                        · subst c22
                          have H1 : (if t109 = true then (if t112 = true then (if t105.size + a2.size ≤ 9223372036854775807 then (if t108.toList = (t105 ++ a2).toList then (if a2.size + t105.size ≤ 9223372036854775807 then (some (t111.toList == (a2 ++ t105).toList)) else (none)) else (some false)) else (none)) else (some false)) else (some false)) = some r := by rw [if_pos rfl] at H; exact H
                          clear H
                          have H := H1
                          clear H1
                          by_cases c23 : t109 = true
                          · subst c23
                            have H1 : (if t112 = true then (if t105.size + a2.size ≤ 9223372036854775807 then (if t108.toList = (t105 ++ a2).toList then (if a2.size + t105.size ≤ 9223372036854775807 then (some (t111.toList == (a2 ++ t105).toList)) else (none)) else (some false)) else (none)) else (some false)) = some r := by rw [if_pos rfl] at H; exact H
                            clear H
                            have H := H1
                            clear H1
                            by_cases c24 : t112 = true
                            · subst c24
                              have H1 : (if t105.size + a2.size ≤ 9223372036854775807 then (if t108.toList = (t105 ++ a2).toList then (if a2.size + t105.size ≤ 9223372036854775807 then (some (t111.toList == (a2 ++ t105).toList)) else (none)) else (some false)) else (none)) = some r := by rw [if_pos rfl] at H; exact H
                              clear H
                              have H := H1
                              clear H1
                              by_cases c25 : t105.size + a2.size ≤ 9223372036854775807
                              · rw [if_pos c25] at H
                                have c25b0 := eq_true c25
                                have c25b1 : decide (t105.size + a2.size ≤ 9223372036854775807) = true := decide_eq_true c25
                                try have c25b2 : (9223372036854775807 < t105.size + a2.size) = False := eq_false (Nat.not_lt.2 c25)
                                by_cases c26 : t108.toList = (t105 ++ a2).toList
                                · rw [if_pos c26] at H
                                  have c26b0 : (t108.toList == (t105 ++ a2).toList) = true := beq_iff_eq.mpr c26
                                  have c26b1 : (t108.toList != (t105 ++ a2).toList) = false := bne_eq_false_iff_eq.mpr c26
                                  clear c26
                                  by_cases c27 : a2.size + t105.size ≤ 9223372036854775807
                                  · rw [if_pos c27] at H
                                    have c27b0 := eq_true c27
                                    have c27b1 : decide (a2.size + t105.size ≤ 9223372036854775807) = true := decide_eq_true c27
                                    try have c27b2 : (9223372036854775807 < a2.size + t105.size) = False := eq_false (Nat.not_lt.2 c27)
                                    obtain rfl := Option.some.inj H
                                    go_wp2_with (first | ((with_reducible refine gate_callee (f := 14) rfl ?_); refine goesL_ (some 42) rfl rfl Tryd.func14 (by kernel_rfl) rfl #[.int .u8 a0] rfl (by (try simp only [List.map_toArray, List.map_cons, List.map_nil]); first | done | rfl | (simp only [List.length_drop, List.length_take]; rfl)) ?_; (with_reducible refine (laws_form9.calls a0 t104 _ A14.out).mono ?_); rintro e w' ⟨rfl, ⟨nd, rfl⟩⟩; refine ⟨_, rfl, ?_⟩) | ((with_reducible refine gate_callee (f := 13) rfl ?_); refine goesL_ (some 44) rfl rfl Tryd.func13 (by kernel_rfl) rfl #[.int .i64 t104, .string a1] rfl (by (try simp only [List.map_toArray, List.map_cons, List.map_nil]); first | done | rfl | (simp only [List.length_drop, List.length_take]; rfl)) ?_; (with_reducible refine (impl_Replaced.calls t104 a1 t105 true _ (tab_at HTAB_.out (by repeat (first | (with_reducible first | exact HB.out | apply below_alloc | apply pw_below_drewN | apply below_drew1) | exact HB.out))) A15.out).mono ?_); rintro e w28 ⟨rfl, hb⟩; refine ⟨_, rfl, ?_⟩; have n0_ := Aside0.mk (below_step (by repeat (first | (with_reducible first | exact HB.out | apply below_alloc | apply pw_below_drewN | apply below_drew1) | exact HB.out)) hb); clear HB; have HB := n0_; clear n0_; (try clear hb); (try clear hb2); (try clear hk); (try clear hi)) | ((with_reducible refine gate_callee (f := 14) rfl ?_); refine goesL_ (some 49) rfl rfl Tryd.func14 (by kernel_rfl) rfl #[.int .u8 a0] rfl (by (try simp only [List.map_toArray, List.map_cons, List.map_nil]); first | done | rfl | (simp only [List.length_drop, List.length_take]; rfl)) ?_; (with_reducible refine (laws_form9.calls a0 t107 _ A16.out).mono ?_); rintro e w' ⟨rfl, ⟨nd, rfl⟩⟩; refine ⟨_, rfl, ?_⟩) | ((with_reducible refine gate_callee (f := 13) rfl ?_); refine goesL_ (some 53) rfl rfl Tryd.func13 (by kernel_rfl) rfl #[.int .i64 t107, .string (a1 ++ a2)] rfl (by (try simp only [List.map_toArray, List.map_cons, List.map_nil]); first | done | rfl | (simp only [List.length_drop, List.length_take]; rfl)) ?_; (with_reducible refine (impl_Replaced.calls t107 (a1 ++ a2) t108 true _ (tab_at HTAB_.out (by repeat (first | (with_reducible first | exact HB.out | apply below_alloc | apply pw_below_drewN | apply below_drew1) | exact HB.out))) A18.out).mono ?_); rintro e w29 ⟨rfl, hb⟩; refine ⟨_, rfl, ?_⟩; have n0_ := Aside0.mk (below_step (by repeat (first | (with_reducible first | exact HB.out | apply below_alloc | apply pw_below_drewN | apply below_drew1) | exact HB.out)) hb); clear HB; have HB := n0_; clear n0_; (try clear hb); (try clear hb2); (try clear hk); (try clear hi)) | ((with_reducible refine gate_callee (f := 14) rfl ?_); refine goesL_ (some 58) rfl rfl Tryd.func14 (by kernel_rfl) rfl #[.int .u8 a0] rfl (by (try simp only [List.map_toArray, List.map_cons, List.map_nil]); first | done | rfl | (simp only [List.length_drop, List.length_take]; rfl)) ?_; (with_reducible refine (laws_form9.calls a0 t110 _ A19.out).mono ?_); rintro e w' ⟨rfl, ⟨nd, rfl⟩⟩; refine ⟨_, rfl, ?_⟩) | ((with_reducible refine gate_callee (f := 13) rfl ?_); refine goesL_ (some 62) rfl rfl Tryd.func13 (by kernel_rfl) rfl #[.int .i64 t110, .string (a2 ++ a1)] rfl (by (try simp only [List.map_toArray, List.map_cons, List.map_nil]); first | done | rfl | (simp only [List.length_drop, List.length_take]; rfl)) ?_; (with_reducible refine (impl_Replaced.calls t110 (a2 ++ a1) t111 true _ (tab_at HTAB_.out (by repeat (first | (with_reducible first | exact HB.out | apply below_alloc | apply pw_below_drewN | apply below_drew1) | exact HB.out))) A21.out).mono ?_); rintro e w30 ⟨rfl, hb⟩; refine ⟨_, rfl, ?_⟩; have n0_ := Aside0.mk (below_step (by repeat (first | (with_reducible first | exact HB.out | apply below_alloc | apply pw_below_drewN | apply below_drew1) | exact HB.out)) hb); clear HB; have HB := n0_; clear n0_; (try clear hb); (try clear hb2); (try clear hk); (try clear hi)))
                                    go_ret
                                    exact ⟨by first | rfl | (simp [errW_none, errW_some] <;> rfl) | (simp [*, errW_none, errW_some] <;> rfl), by repeat (first | (with_reducible first | exact HB.out | apply below_alloc | apply pw_below_drewN | apply below_drew1) | exact HB.out)⟩
                                  · rw [if_neg c27] at H
                                    exact absurd H (by simp)
                                · rw [if_neg c26] at H
                                  have c26b0 : (t108.toList == (t105 ++ a2).toList) = false := beq_eq_false_iff_ne.mpr c26
                                  have c26b1 : (t108.toList != (t105 ++ a2).toList) = true := bne_iff_ne.mpr c26
                                  obtain rfl := Option.some.inj H
                                  go_wp2_with (first | ((with_reducible refine gate_callee (f := 14) rfl ?_); refine goesL_ (some 42) rfl rfl Tryd.func14 (by kernel_rfl) rfl #[.int .u8 a0] rfl (by (try simp only [List.map_toArray, List.map_cons, List.map_nil]); first | done | rfl | (simp only [List.length_drop, List.length_take]; rfl)) ?_; (with_reducible refine (laws_form9.calls a0 t104 _ A14.out).mono ?_); rintro e w' ⟨rfl, ⟨nd, rfl⟩⟩; refine ⟨_, rfl, ?_⟩) | ((with_reducible refine gate_callee (f := 13) rfl ?_); refine goesL_ (some 44) rfl rfl Tryd.func13 (by kernel_rfl) rfl #[.int .i64 t104, .string a1] rfl (by (try simp only [List.map_toArray, List.map_cons, List.map_nil]); first | done | rfl | (simp only [List.length_drop, List.length_take]; rfl)) ?_; (with_reducible refine (impl_Replaced.calls t104 a1 t105 true _ (tab_at HTAB_.out (by repeat (first | (with_reducible first | exact HB.out | apply below_alloc | apply pw_below_drewN | apply below_drew1) | exact HB.out))) A15.out).mono ?_); rintro e w31 ⟨rfl, hb⟩; refine ⟨_, rfl, ?_⟩; have n0_ := Aside0.mk (below_step (by repeat (first | (with_reducible first | exact HB.out | apply below_alloc | apply pw_below_drewN | apply below_drew1) | exact HB.out)) hb); clear HB; have HB := n0_; clear n0_; (try clear hb); (try clear hb2); (try clear hk); (try clear hi)) | ((with_reducible refine gate_callee (f := 14) rfl ?_); refine goesL_ (some 49) rfl rfl Tryd.func14 (by kernel_rfl) rfl #[.int .u8 a0] rfl (by (try simp only [List.map_toArray, List.map_cons, List.map_nil]); first | done | rfl | (simp only [List.length_drop, List.length_take]; rfl)) ?_; (with_reducible refine (laws_form9.calls a0 t107 _ A16.out).mono ?_); rintro e w' ⟨rfl, ⟨nd, rfl⟩⟩; refine ⟨_, rfl, ?_⟩) | ((with_reducible refine gate_callee (f := 13) rfl ?_); refine goesL_ (some 53) rfl rfl Tryd.func13 (by kernel_rfl) rfl #[.int .i64 t107, .string (a1 ++ a2)] rfl (by (try simp only [List.map_toArray, List.map_cons, List.map_nil]); first | done | rfl | (simp only [List.length_drop, List.length_take]; rfl)) ?_; (with_reducible refine (impl_Replaced.calls t107 (a1 ++ a2) t108 true _ (tab_at HTAB_.out (by repeat (first | (with_reducible first | exact HB.out | apply below_alloc | apply pw_below_drewN | apply below_drew1) | exact HB.out))) A18.out).mono ?_); rintro e w32 ⟨rfl, hb⟩; refine ⟨_, rfl, ?_⟩; have n0_ := Aside0.mk (below_step (by repeat (first | (with_reducible first | exact HB.out | apply below_alloc | apply pw_below_drewN | apply below_drew1) | exact HB.out)) hb); clear HB; have HB := n0_; clear n0_; (try clear hb); (try clear hb2); (try clear hk); (try clear hi)) | ((with_reducible refine gate_callee (f := 14) rfl ?_); refine goesL_ (some 58) rfl rfl Tryd.func14 (by kernel_rfl) rfl #[.int .u8 a0] rfl (by (try simp only [List.map_toArray, List.map_cons, List.map_nil]); first | done | rfl | (simp only [List.length_drop, List.length_take]; rfl)) ?_; (with_reducible refine (laws_form9.calls a0 t110 _ A19.out).mono ?_); rintro e w' ⟨rfl, ⟨nd, rfl⟩⟩; refine ⟨_, rfl, ?_⟩) | ((with_reducible refine gate_callee (f := 13) rfl ?_); refine goesL_ (some 62) rfl rfl Tryd.func13 (by kernel_rfl) rfl #[.int .i64 t110, .string (a2 ++ a1)] rfl (by (try simp only [List.map_toArray, List.map_cons, List.map_nil]); first | done | rfl | (simp only [List.length_drop, List.length_take]; rfl)) ?_; (with_reducible refine (impl_Replaced.calls t110 (a2 ++ a1) t111 true _ (tab_at HTAB_.out (by repeat (first | (with_reducible first | exact HB.out | apply below_alloc | apply pw_below_drewN | apply below_drew1) | exact HB.out))) A21.out).mono ?_); rintro e w33 ⟨rfl, hb⟩; refine ⟨_, rfl, ?_⟩; have n0_ := Aside0.mk (below_step (by repeat (first | (with_reducible first | exact HB.out | apply below_alloc | apply pw_below_drewN | apply below_drew1) | exact HB.out)) hb); clear HB; have HB := n0_; clear n0_; (try clear hb); (try clear hb2); (try clear hk); (try clear hi)))
                                  go_ret
                                  exact ⟨by first | rfl | (simp [errW_none, errW_some] <;> rfl) | (simp [*, errW_none, errW_some] <;> rfl), by repeat (first | (with_reducible first | exact HB.out | apply below_alloc | apply pw_below_drewN | apply below_drew1) | exact HB.out)⟩
                              · rw [if_neg c25] at H
                                exact absurd H (by simp)
                            · replace c24 := Bool.eq_false_iff.mpr c24
                              subst c24
                              have H1 : (some false) = some r := by rw [if_neg (show ¬ (false = true) by decide)] at H; exact H
                              clear H
                              have H := H1
                              clear H1
                              obtain rfl := Option.some.inj H
                              go_wp2_with (first | ((with_reducible refine gate_callee (f := 14) rfl ?_); refine goesL_ (some 42) rfl rfl Tryd.func14 (by kernel_rfl) rfl #[.int .u8 a0] rfl (by (try simp only [List.map_toArray, List.map_cons, List.map_nil]); first | done | rfl | (simp only [List.length_drop, List.length_take]; rfl)) ?_; (with_reducible refine (laws_form9.calls a0 t104 _ A14.out).mono ?_); rintro e w' ⟨rfl, ⟨nd, rfl⟩⟩; refine ⟨_, rfl, ?_⟩) | ((with_reducible refine gate_callee (f := 13) rfl ?_); refine goesL_ (some 44) rfl rfl Tryd.func13 (by kernel_rfl) rfl #[.int .i64 t104, .string a1] rfl (by (try simp only [List.map_toArray, List.map_cons, List.map_nil]); first | done | rfl | (simp only [List.length_drop, List.length_take]; rfl)) ?_; (with_reducible refine (impl_Replaced.calls t104 a1 t105 true _ (tab_at HTAB_.out (by repeat (first | (with_reducible first | exact HB.out | apply below_alloc | apply pw_below_drewN | apply below_drew1) | exact HB.out))) A15.out).mono ?_); rintro e w34 ⟨rfl, hb⟩; refine ⟨_, rfl, ?_⟩; have n0_ := Aside0.mk (below_step (by repeat (first | (with_reducible first | exact HB.out | apply below_alloc | apply pw_below_drewN | apply below_drew1) | exact HB.out)) hb); clear HB; have HB := n0_; clear n0_; (try clear hb); (try clear hb2); (try clear hk); (try clear hi)) | ((with_reducible refine gate_callee (f := 14) rfl ?_); refine goesL_ (some 49) rfl rfl Tryd.func14 (by kernel_rfl) rfl #[.int .u8 a0] rfl (by (try simp only [List.map_toArray, List.map_cons, List.map_nil]); first | done | rfl | (simp only [List.length_drop, List.length_take]; rfl)) ?_; (with_reducible refine (laws_form9.calls a0 t107 _ A16.out).mono ?_); rintro e w' ⟨rfl, ⟨nd, rfl⟩⟩; refine ⟨_, rfl, ?_⟩) | ((with_reducible refine gate_callee (f := 13) rfl ?_); refine goesL_ (some 53) rfl rfl Tryd.func13 (by kernel_rfl) rfl #[.int .i64 t107, .string (a1 ++ a2)] rfl (by (try simp only [List.map_toArray, List.map_cons, List.map_nil]); first | done | rfl | (simp only [List.length_drop, List.length_take]; rfl)) ?_; (with_reducible refine (impl_Replaced.calls t107 (a1 ++ a2) t108 true _ (tab_at HTAB_.out (by repeat (first | (with_reducible first | exact HB.out | apply below_alloc | apply pw_below_drewN | apply below_drew1) | exact HB.out))) A18.out).mono ?_); rintro e w35 ⟨rfl, hb⟩; refine ⟨_, rfl, ?_⟩; have n0_ := Aside0.mk (below_step (by repeat (first | (with_reducible first | exact HB.out | apply below_alloc | apply pw_below_drewN | apply below_drew1) | exact HB.out)) hb); clear HB; have HB := n0_; clear n0_; (try clear hb); (try clear hb2); (try clear hk); (try clear hi)) | ((with_reducible refine gate_callee (f := 14) rfl ?_); refine goesL_ (some 58) rfl rfl Tryd.func14 (by kernel_rfl) rfl #[.int .u8 a0] rfl (by (try simp only [List.map_toArray, List.map_cons, List.map_nil]); first | done | rfl | (simp only [List.length_drop, List.length_take]; rfl)) ?_; (with_reducible refine (laws_form9.calls a0 t110 _ A19.out).mono ?_); rintro e w' ⟨rfl, ⟨nd, rfl⟩⟩; refine ⟨_, rfl, ?_⟩) | ((with_reducible refine gate_callee (f := 13) rfl ?_); refine goesL_ (some 62) rfl rfl Tryd.func13 (by kernel_rfl) rfl #[.int .i64 t110, .string (a2 ++ a1)] rfl (by (try simp only [List.map_toArray, List.map_cons, List.map_nil]); first | done | rfl | (simp only [List.length_drop, List.length_take]; rfl)) ?_; (with_reducible refine (impl_Replaced.calls t110 (a2 ++ a1) t111 false _ (tab_at HTAB_.out (by repeat (first | (with_reducible first | exact HB.out | apply below_alloc | apply pw_below_drewN | apply below_drew1) | exact HB.out))) A21.out).mono ?_); rintro e w36 ⟨rfl, hb⟩; refine ⟨_, rfl, ?_⟩; have n0_ := Aside0.mk (below_step (by repeat (first | (with_reducible first | exact HB.out | apply below_alloc | apply pw_below_drewN | apply below_drew1) | exact HB.out)) hb); clear HB; have HB := n0_; clear n0_; (try clear hb); (try clear hb2); (try clear hk); (try clear hi)))
                              go_ret
                              exact ⟨by first | rfl | (simp [errW_none, errW_some] <;> rfl) | (simp [*, errW_none, errW_some] <;> rfl), by repeat (first | (with_reducible first | exact HB.out | apply below_alloc | apply pw_below_drewN | apply below_drew1) | exact HB.out)⟩
                          · replace c23 := Bool.eq_false_iff.mpr c23
                            subst c23
                            have H1 : (some false) = some r := by rw [if_neg (show ¬ (false = true) by decide)] at H; exact H
                            clear H
                            have H := H1
                            clear H1
                            obtain rfl := Option.some.inj H
                            go_wp2_with (first | ((with_reducible refine gate_callee (f := 14) rfl ?_); refine goesL_ (some 42) rfl rfl Tryd.func14 (by kernel_rfl) rfl #[.int .u8 a0] rfl (by (try simp only [List.map_toArray, List.map_cons, List.map_nil]); first | done | rfl | (simp only [List.length_drop, List.length_take]; rfl)) ?_; (with_reducible refine (laws_form9.calls a0 t104 _ A14.out).mono ?_); rintro e w' ⟨rfl, ⟨nd, rfl⟩⟩; refine ⟨_, rfl, ?_⟩) | ((with_reducible refine gate_callee (f := 13) rfl ?_); refine goesL_ (some 44) rfl rfl Tryd.func13 (by kernel_rfl) rfl #[.int .i64 t104, .string a1] rfl (by (try simp only [List.map_toArray, List.map_cons, List.map_nil]); first | done | rfl | (simp only [List.length_drop, List.length_take]; rfl)) ?_; (with_reducible refine (impl_Replaced.calls t104 a1 t105 true _ (tab_at HTAB_.out (by repeat (first | (with_reducible first | exact HB.out | apply below_alloc | apply pw_below_drewN | apply below_drew1) | exact HB.out))) A15.out).mono ?_); rintro e w37 ⟨rfl, hb⟩; refine ⟨_, rfl, ?_⟩; have n0_ := Aside0.mk (below_step (by repeat (first | (with_reducible first | exact HB.out | apply below_alloc | apply pw_below_drewN | apply below_drew1) | exact HB.out)) hb); clear HB; have HB := n0_; clear n0_; (try clear hb); (try clear hb2); (try clear hk); (try clear hi)) | ((with_reducible refine gate_callee (f := 14) rfl ?_); refine goesL_ (some 49) rfl rfl Tryd.func14 (by kernel_rfl) rfl #[.int .u8 a0] rfl (by (try simp only [List.map_toArray, List.map_cons, List.map_nil]); first | done | rfl | (simp only [List.length_drop, List.length_take]; rfl)) ?_; (with_reducible refine (laws_form9.calls a0 t107 _ A16.out).mono ?_); rintro e w' ⟨rfl, ⟨nd, rfl⟩⟩; refine ⟨_, rfl, ?_⟩) | ((with_reducible refine gate_callee (f := 13) rfl ?_); refine goesL_ (some 53) rfl rfl Tryd.func13 (by kernel_rfl) rfl #[.int .i64 t107, .string (a1 ++ a2)] rfl (by (try simp only [List.map_toArray, List.map_cons, List.map_nil]); first | done | rfl | (simp only [List.length_drop, List.length_take]; rfl)) ?_; (with_reducible refine (impl_Replaced.calls t107 (a1 ++ a2) t108 false _ (tab_at HTAB_.out (by repeat (first | (with_reducible first | exact HB.out | apply below_alloc | apply pw_below_drewN | apply below_drew1) | exact HB.out))) A18.out).mono ?_); rintro e w38 ⟨rfl, hb⟩; refine ⟨_, rfl, ?_⟩; have n0_ := Aside0.mk (below_step (by repeat (first | (with_reducible first | exact HB.out | apply below_alloc | apply pw_below_drewN | apply below_drew1) | exact HB.out)) hb); clear HB; have HB := n0_; clear n0_; (try clear hb); (try clear hb2); (try clear hk); (try clear hi)) | ((with_reducible refine gate_callee (f := 14) rfl ?_); refine goesL_ (some 58) rfl rfl Tryd.func14 (by kernel_rfl) rfl #[.int .u8 a0] rfl (by (try simp only [List.map_toArray, List.map_cons, List.map_nil]); first | done | rfl | (simp only [List.length_drop, List.length_take]; rfl)) ?_; (with_reducible refine (laws_form9.calls a0 t110 _ A19.out).mono ?_); rintro e w' ⟨rfl, ⟨nd, rfl⟩⟩; refine ⟨_, rfl, ?_⟩) | ((with_reducible refine gate_callee (f := 13) rfl ?_); refine goesL_ (some 62) rfl rfl Tryd.func13 (by kernel_rfl) rfl #[.int .i64 t110, .string (a2 ++ a1)] rfl (by (try simp only [List.map_toArray, List.map_cons, List.map_nil]); first | done | rfl | (simp only [List.length_drop, List.length_take]; rfl)) ?_; (with_reducible refine (impl_Replaced.calls t110 (a2 ++ a1) t111 t112 _ (tab_at HTAB_.out (by repeat (first | (with_reducible first | exact HB.out | apply below_alloc | apply pw_below_drewN | apply below_drew1) | exact HB.out))) A21.out).mono ?_); rintro e w39 ⟨rfl, hb⟩; refine ⟨_, rfl, ?_⟩; have n0_ := Aside0.mk (below_step (by repeat (first | (with_reducible first | exact HB.out | apply below_alloc | apply pw_below_drewN | apply below_drew1) | exact HB.out)) hb); clear HB; have HB := n0_; clear n0_; (try clear hb); (try clear hb2); (try clear hk); (try clear hi)))
                            go_ret
                            exact ⟨by first | rfl | (simp [errW_none, errW_some] <;> rfl) | (simp [*, errW_none, errW_some] <;> rfl), by repeat (first | (with_reducible first | exact HB.out | apply below_alloc | apply pw_below_drewN | apply below_drew1) | exact HB.out)⟩
                        · replace c22 := Bool.eq_false_iff.mpr c22
                          subst c22
                          have H1 : (some false) = some r := by rw [if_neg (show ¬ (false = true) by decide)] at H; exact H
                          clear H
                          have H := H1
                          clear H1
                          obtain rfl := Option.some.inj H
                          go_wp2_with (first | ((with_reducible refine gate_callee (f := 14) rfl ?_); refine goesL_ (some 42) rfl rfl Tryd.func14 (by kernel_rfl) rfl #[.int .u8 a0] rfl (by (try simp only [List.map_toArray, List.map_cons, List.map_nil]); first | done | rfl | (simp only [List.length_drop, List.length_take]; rfl)) ?_; (with_reducible refine (laws_form9.calls a0 t104 _ A14.out).mono ?_); rintro e w' ⟨rfl, ⟨nd, rfl⟩⟩; refine ⟨_, rfl, ?_⟩) | ((with_reducible refine gate_callee (f := 13) rfl ?_); refine goesL_ (some 44) rfl rfl Tryd.func13 (by kernel_rfl) rfl #[.int .i64 t104, .string a1] rfl (by (try simp only [List.map_toArray, List.map_cons, List.map_nil]); first | done | rfl | (simp only [List.length_drop, List.length_take]; rfl)) ?_; (with_reducible refine (impl_Replaced.calls t104 a1 t105 false _ (tab_at HTAB_.out (by repeat (first | (with_reducible first | exact HB.out | apply below_alloc | apply pw_below_drewN | apply below_drew1) | exact HB.out))) A15.out).mono ?_); rintro e w40 ⟨rfl, hb⟩; refine ⟨_, rfl, ?_⟩; have n0_ := Aside0.mk (below_step (by repeat (first | (with_reducible first | exact HB.out | apply below_alloc | apply pw_below_drewN | apply below_drew1) | exact HB.out)) hb); clear HB; have HB := n0_; clear n0_; (try clear hb); (try clear hb2); (try clear hk); (try clear hi)) | ((with_reducible refine gate_callee (f := 14) rfl ?_); refine goesL_ (some 49) rfl rfl Tryd.func14 (by kernel_rfl) rfl #[.int .u8 a0] rfl (by (try simp only [List.map_toArray, List.map_cons, List.map_nil]); first | done | rfl | (simp only [List.length_drop, List.length_take]; rfl)) ?_; (with_reducible refine (laws_form9.calls a0 t107 _ A16.out).mono ?_); rintro e w' ⟨rfl, ⟨nd, rfl⟩⟩; refine ⟨_, rfl, ?_⟩) | ((with_reducible refine gate_callee (f := 13) rfl ?_); refine goesL_ (some 53) rfl rfl Tryd.func13 (by kernel_rfl) rfl #[.int .i64 t107, .string (a1 ++ a2)] rfl (by (try simp only [List.map_toArray, List.map_cons, List.map_nil]); first | done | rfl | (simp only [List.length_drop, List.length_take]; rfl)) ?_; (with_reducible refine (impl_Replaced.calls t107 (a1 ++ a2) t108 t109 _ (tab_at HTAB_.out (by repeat (first | (with_reducible first | exact HB.out | apply below_alloc | apply pw_below_drewN | apply below_drew1) | exact HB.out))) A18.out).mono ?_); rintro e w41 ⟨rfl, hb⟩; refine ⟨_, rfl, ?_⟩; have n0_ := Aside0.mk (below_step (by repeat (first | (with_reducible first | exact HB.out | apply below_alloc | apply pw_below_drewN | apply below_drew1) | exact HB.out)) hb); clear HB; have HB := n0_; clear n0_; (try clear hb); (try clear hb2); (try clear hk); (try clear hi)) | ((with_reducible refine gate_callee (f := 14) rfl ?_); refine goesL_ (some 58) rfl rfl Tryd.func14 (by kernel_rfl) rfl #[.int .u8 a0] rfl (by (try simp only [List.map_toArray, List.map_cons, List.map_nil]); first | done | rfl | (simp only [List.length_drop, List.length_take]; rfl)) ?_; (with_reducible refine (laws_form9.calls a0 t110 _ A19.out).mono ?_); rintro e w' ⟨rfl, ⟨nd, rfl⟩⟩; refine ⟨_, rfl, ?_⟩) | ((with_reducible refine gate_callee (f := 13) rfl ?_); refine goesL_ (some 62) rfl rfl Tryd.func13 (by kernel_rfl) rfl #[.int .i64 t110, .string (a2 ++ a1)] rfl (by (try simp only [List.map_toArray, List.map_cons, List.map_nil]); first | done | rfl | (simp only [List.length_drop, List.length_take]; rfl)) ?_; (with_reducible refine (impl_Replaced.calls t110 (a2 ++ a1) t111 t112 _ (tab_at HTAB_.out (by repeat (first | (with_reducible first | exact HB.out | apply below_alloc | apply pw_below_drewN | apply below_drew1) | exact HB.out))) A21.out).mono ?_); rintro e w42 ⟨rfl, hb⟩; refine ⟨_, rfl, ?_⟩; have n0_ := Aside0.mk (below_step (by repeat (first | (with_reducible first | exact HB.out | apply below_alloc | apply pw_below_drewN | apply below_drew1) | exact HB.out)) hb); clear HB; have HB := n0_; clear n0_; (try clear hb); (try clear hb2); (try clear hk); (try clear hi)))
                          go_ret
                          exact ⟨by first | rfl | (simp [errW_none, errW_some] <;> rfl) | (simp [*, errW_none, errW_some] <;> rfl), by repeat (first | (with_reducible first | exact HB.out | apply below_alloc | apply pw_below_drewN | apply below_drew1) | exact HB.out)⟩
                      · rw [if_neg c20] at H
                        exact absurd H (by simp)
                    · rw [if_neg c17] at H
                      exact absurd H (by simp)

/-- THE ONE PURE STATEMENT of laws_FnReplacedParts: yours. -/
def laws_FnReplacedParts.Pure [Inhabited TabT] : Prop := ∀ (a0 : Int) (a1 : ByteArray) (a2 : ByteArray), (Lit.int .u8 a0).wf = true → a1.size ≤ 140737488351232 → a2.size ≤ 140737488351232 → ∃ k, laws_FnReplacedParts.f k a0 a1 a2 = some true
theorem laws_FnReplacedParts.walk [Inhabited TabT] (P : laws_FnReplacedParts.Pure) (a0 : Int) (a1 : ByteArray) (a2 : ByteArray) (w : World) (ht_ : Tab w) (w0 : (Lit.int .u8 a0).wf = true) (w1 : a1.size ≤ 140737488351232) (w2 : a2.size ≤ 140737488351232) :
    Calls Tryd.prog 7 #[.int .u8 a0, .string a1, .string a2] w fun e w' => e = .returned (.bool true) ∧ Below w.heap.size w w' := by
  obtain ⟨k, h⟩ := P a0 a1 a2 w0 w1 w2
  refine (laws_FnReplacedParts.calls k a0 a1 a2 true w ht_ h).mono ?_
  rintro e w' ⟨rfl, hd⟩
  exact ⟨rfl, hd⟩

end Go.Proofs.YtapnlnikeniomaaDoor.QP
