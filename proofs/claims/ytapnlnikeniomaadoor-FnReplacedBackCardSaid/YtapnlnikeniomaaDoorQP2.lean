-- WRITTEN BY A PROGRAM OF THIS SESSION (wip/print2.py): the print, with contracts of this session's own let in. Not trusted: Lean checks it.
import Derived.Test.YtapnlnikeniomaaDoorHRow
import Derived.Test.YtapnlnikeniomaaDoorQP0
import Derived.Test.YtapnlnikeniomaaDoorQP1
import Derived.Test.YtapnlnikeniomaaDoorHPosI
namespace Go.Proofs.YtapnlnikeniomaaDoor.QP
open Go.RowKit Go.Proofs.YtapnlnikeniomaaDoorW.PrintWords Go.Proofs.YtapnlnikeniomaaDoorW.PrintLast Go.Proofs.YtapnlnikeniomaaDoorW.PrintMore
attribute [local go_sem] max2_int min2_int max_two min_two max_three min_three max_four min_four   -- for this text's walks alone
set_option linter.unusedVariables false
set_option linter.unusedSimpArgs false

open Go.Proofs.YtapnlnikeniomaaDoor.H
/-! ### laws_FnReplacedBack: function 6 -/
mutual
def laws_FnReplacedBack.l0 [Inhabited TabT] : Nat → Int → ByteArray → Int → Option (Bool)
  | 0, _, _, _ => none
  | k + 1, x0, x1, x5 => if x5 < (x1.size : Int) then (if 0 ≤ x5 then (if (bt x1 x5) = 32 then (if (bt x1 x5) = 63 then (if x5 > 0 then (if 0 ≤ (wrap64 (x5 - 1)) then (if (wrap64 (x5 - 1)) < (x1.size : Int) then (if (bt x1 (wrap64 (x5 - 1))) = 63 then (some true) else (laws_FnReplacedBack.l0 k x0 x1 (wrap64 (x5 + 1)))) else (none)) else (none)) else (laws_FnReplacedBack.l0 k x0 x1 (wrap64 (x5 + 1)))) else (laws_FnReplacedBack.l0 k x0 x1 (wrap64 (x5 + 1)))) else (if (bt x1 x5) = 63 then (if x5 > 0 then (if 0 ≤ (wrap64 (x5 - 1)) then (if (wrap64 (x5 - 1)) < (x1.size : Int) then (if (bt x1 (wrap64 (x5 - 1))) = 63 then (some true) else (laws_FnReplacedBack.l0 k x0 x1 (wrap64 (x5 + 1)))) else (none)) else (none)) else (laws_FnReplacedBack.l0 k x0 x1 (wrap64 (x5 + 1)))) else (if (bt x1 x5) < 97 then (some true) else (if (bt x1 x5) > 122 then (some true) else (laws_FnReplacedBack.l0 k x0 x1 (wrap64 (x5 + 1))))))) else (none)) else ((laws_form9.f x0).bind fun t101 => ((impl_Replaced.f t101 x1).bind fun bt102 => (laws_FnReplacedBack.l1 k x1 bt102.1 bt102.2 (⟨#[]⟩ : ByteArray) 0)))
def laws_FnReplacedBack.l1 : Nat → ByteArray → ByteArray → Bool → ByteArray → Int → Option (Bool)
  | 0, _, _, _, _, _ => none
  | k + 1, x1, x7, x8, x9, x10 => if x10 < (x7.size : Int) then (if 0 ≤ x10 then (if (bt x7 x10) = 36 then (laws_FnReplacedBack.j2 k x1 x7 x8 x9 x10 (bt x7 x10) true) else (if (bt x7 x10) = 58 then (laws_FnReplacedBack.j2 k x1 x7 x8 x9 x10 (bt x7 x10) true) else (laws_FnReplacedBack.j2 k x1 x7 x8 x9 x10 (bt x7 x10) ((bt x7 x10) == 64)))) else (none)) else (if x8 = true then (some (x9.toList == x1.toList)) else (some false))
def laws_FnReplacedBack.j2 : Nat → ByteArray → ByteArray → Bool → ByteArray → Int → Int → Bool → Option (Bool)
  | 0, _, _, _, _, _, _, _ => none
  | k + 1, x1, x7, x8, x9, x10, x11, x79 => if x79 = true then (if x9.size + 1 ≤ 9223372036854775807 then (if x11 = 64 then (laws_FnReplacedBack.j3 k x1 x7 x8 (x9 ++ (⟨#[63]⟩ : ByteArray)) (wrap64 (x10 + 1))) else (laws_FnReplacedBack.j3 k x1 x7 x8 (x9 ++ (⟨#[63]⟩ : ByteArray)) x10)) else (none)) else (if 0 ≤ x10 then (if x10 ≤ (wrap64 (x10 + 1)) then (if (wrap64 (x10 + 1)) ≤ (x7.size : Int) then (if x9.size + (x7.extract (x10 : Int).toNat ((wrap64 (x10 + 1)) : Int).toNat).size ≤ 9223372036854775807 then (laws_FnReplacedBack.l1 k x1 x7 x8 (x9 ++ (x7.extract (x10 : Int).toNat ((wrap64 (x10 + 1)) : Int).toNat)) (wrap64 (x10 + 1))) else (none)) else (none)) else (none)) else (none))
def laws_FnReplacedBack.j3 : Nat → ByteArray → ByteArray → Bool → ByteArray → Int → Option (Bool)
  | 0, _, _, _, _, _ => none
  | k + 1, x1, x7, x8, x9, x10 => laws_FnReplacedBack.l2 k x1 x7 x8 x9 x10
def laws_FnReplacedBack.l2 : Nat → ByteArray → ByteArray → Bool → ByteArray → Int → Option (Bool)
  | 0, _, _, _, _, _ => none
  | k + 1, x1, x7, x8, x9, x10 => if (wrap64 (x10 + 1)) < (x7.size : Int) then (if 0 ≤ (wrap64 (x10 + 1)) then (if (bt x7 (wrap64 (x10 + 1))) ≥ 48 then (if (bt x7 (wrap64 (x10 + 1))) ≤ 57 then (laws_FnReplacedBack.l2 k x1 x7 x8 x9 (wrap64 (x10 + 1))) else (laws_FnReplacedBack.l1 k x1 x7 x8 x9 (wrap64 (x10 + 1)))) else (laws_FnReplacedBack.l1 k x1 x7 x8 x9 (wrap64 (x10 + 1)))) else (none)) else (laws_FnReplacedBack.l1 k x1 x7 x8 x9 (wrap64 (x10 + 1)))
end
def laws_FnReplacedBack.f [Inhabited TabT] (k : Nat) (a0 : Int) (a1 : ByteArray) : Option (Bool) := if (a1.size : Int) > 2147483647 then (some true) else (if (a1.size : Int) > 1000 then (some true) else (laws_FnReplacedBack.l0 k a0 a1 0))
theorem laws_FnReplacedBack.mono_l [Inhabited TabT] : ∀ k, (∀ y0 y1 y2, LeO (laws_FnReplacedBack.l0 k y0 y1 y2) (laws_FnReplacedBack.l0 (k + 1) y0 y1 y2)) ∧ (∀ y0 y1 y2 y3 y4, LeO (laws_FnReplacedBack.l1 k y0 y1 y2 y3 y4) (laws_FnReplacedBack.l1 (k + 1) y0 y1 y2 y3 y4)) ∧ (∀ y0 y1 y2 y3 y4 y5 y6, LeO (laws_FnReplacedBack.j2 k y0 y1 y2 y3 y4 y5 y6) (laws_FnReplacedBack.j2 (k + 1) y0 y1 y2 y3 y4 y5 y6)) ∧ (∀ y0 y1 y2 y3 y4, LeO (laws_FnReplacedBack.j3 k y0 y1 y2 y3 y4) (laws_FnReplacedBack.j3 (k + 1) y0 y1 y2 y3 y4)) ∧ (∀ y0 y1 y2 y3 y4, LeO (laws_FnReplacedBack.l2 k y0 y1 y2 y3 y4) (laws_FnReplacedBack.l2 (k + 1) y0 y1 y2 y3 y4))
  | 0 => ⟨fun _ _ _ r h => by simp [laws_FnReplacedBack.l0] at h, fun _ _ _ _ _ r h => by simp [laws_FnReplacedBack.l1] at h, fun _ _ _ _ _ _ _ r h => by simp [laws_FnReplacedBack.j2] at h, fun _ _ _ _ _ r h => by simp [laws_FnReplacedBack.j3] at h, fun _ _ _ _ _ r h => by simp [laws_FnReplacedBack.l2] at h⟩
  | k + 1 => by
    obtain ⟨ih0, ih1, ih2, ih3, ih4⟩ := laws_FnReplacedBack.mono_l k
    refine ⟨?_, ?_, ?_, ?_, ?_⟩
    · intro y0 y1 y2
      unfold laws_FnReplacedBack.l0
      repeat' first
      | (with_reducible exact ih0 _ _ _)
      | (with_reducible exact ih1 _ _ _ _ _)
      | (with_reducible exact ih2 _ _ _ _ _ _ _)
      | (with_reducible exact ih3 _ _ _ _ _)
      | (with_reducible exact ih4 _ _ _ _ _)
      | (with_reducible exact LeO.refl _)
      | (with_reducible exact LeO.none _)
      | (with_reducible refine LeO.ite ?_ ?_)
      | (with_reducible refine LeO.bind ?_ (fun _ => ?_))
      | exact ih0 _ _ _
      | exact ih1 _ _ _ _ _
      | exact ih2 _ _ _ _ _ _ _
      | exact ih3 _ _ _ _ _
      | exact ih4 _ _ _ _ _
      | exact LeO.none _
      | refine LeO.ite ?_ ?_
      | refine LeO.bind ?_ (fun _ => ?_)
    · intro y0 y1 y2 y3 y4
      unfold laws_FnReplacedBack.l1
      repeat' first
      | (with_reducible exact ih0 _ _ _)
      | (with_reducible exact ih1 _ _ _ _ _)
      | (with_reducible exact ih2 _ _ _ _ _ _ _)
      | (with_reducible exact ih3 _ _ _ _ _)
      | (with_reducible exact ih4 _ _ _ _ _)
      | (with_reducible exact LeO.refl _)
      | (with_reducible exact LeO.none _)
      | (with_reducible refine LeO.ite ?_ ?_)
      | (with_reducible refine LeO.bind ?_ (fun _ => ?_))
      | exact ih0 _ _ _
      | exact ih1 _ _ _ _ _
      | exact ih2 _ _ _ _ _ _ _
      | exact ih3 _ _ _ _ _
      | exact ih4 _ _ _ _ _
      | exact LeO.none _
      | refine LeO.ite ?_ ?_
      | refine LeO.bind ?_ (fun _ => ?_)
    · intro y0 y1 y2 y3 y4 y5 y6
      unfold laws_FnReplacedBack.j2
      repeat' first
      | (with_reducible exact ih0 _ _ _)
      | (with_reducible exact ih1 _ _ _ _ _)
      | (with_reducible exact ih2 _ _ _ _ _ _ _)
      | (with_reducible exact ih3 _ _ _ _ _)
      | (with_reducible exact ih4 _ _ _ _ _)
      | (with_reducible exact LeO.refl _)
      | (with_reducible exact LeO.none _)
      | (with_reducible refine LeO.ite ?_ ?_)
      | (with_reducible refine LeO.bind ?_ (fun _ => ?_))
      | exact ih0 _ _ _
      | exact ih1 _ _ _ _ _
      | exact ih2 _ _ _ _ _ _ _
      | exact ih3 _ _ _ _ _
      | exact ih4 _ _ _ _ _
      | exact LeO.none _
      | refine LeO.ite ?_ ?_
      | refine LeO.bind ?_ (fun _ => ?_)
    · intro y0 y1 y2 y3 y4
      unfold laws_FnReplacedBack.j3
      repeat' first
      | (with_reducible exact ih0 _ _ _)
      | (with_reducible exact ih1 _ _ _ _ _)
      | (with_reducible exact ih2 _ _ _ _ _ _ _)
      | (with_reducible exact ih3 _ _ _ _ _)
      | (with_reducible exact ih4 _ _ _ _ _)
      | (with_reducible exact LeO.refl _)
      | (with_reducible exact LeO.none _)
      | (with_reducible refine LeO.ite ?_ ?_)
      | (with_reducible refine LeO.bind ?_ (fun _ => ?_))
      | exact ih0 _ _ _
      | exact ih1 _ _ _ _ _
      | exact ih2 _ _ _ _ _ _ _
      | exact ih3 _ _ _ _ _
      | exact ih4 _ _ _ _ _
      | exact LeO.none _
      | refine LeO.ite ?_ ?_
      | refine LeO.bind ?_ (fun _ => ?_)
    · intro y0 y1 y2 y3 y4
      unfold laws_FnReplacedBack.l2
      repeat' first
      | (with_reducible exact ih0 _ _ _)
      | (with_reducible exact ih1 _ _ _ _ _)
      | (with_reducible exact ih2 _ _ _ _ _ _ _)
      | (with_reducible exact ih3 _ _ _ _ _)
      | (with_reducible exact ih4 _ _ _ _ _)
      | (with_reducible exact LeO.refl _)
      | (with_reducible exact LeO.none _)
      | (with_reducible refine LeO.ite ?_ ?_)
      | (with_reducible refine LeO.bind ?_ (fun _ => ?_))
      | exact ih0 _ _ _
      | exact ih1 _ _ _ _ _
      | exact ih2 _ _ _ _ _ _ _
      | exact ih3 _ _ _ _ _
      | exact ih4 _ _ _ _ _
      | exact LeO.none _
      | refine LeO.ite ?_ ?_
      | refine LeO.bind ?_ (fun _ => ?_)
theorem laws_FnReplacedBack.mono [Inhabited TabT] : ∀ a0 a1 k, LeO (laws_FnReplacedBack.f k a0 a1) (laws_FnReplacedBack.f (k + 1) a0 a1) := by
  intro a0 a1 k
  obtain ⟨ih0, ih1, ih2, ih3, ih4⟩ := laws_FnReplacedBack.mono_l k
  unfold laws_FnReplacedBack.f
  repeat' first
      | (with_reducible exact ih0 _ _ _)
      | (with_reducible exact ih1 _ _ _ _ _)
      | (with_reducible exact ih2 _ _ _ _ _ _ _)
      | (with_reducible exact ih3 _ _ _ _ _)
      | (with_reducible exact ih4 _ _ _ _ _)
      | (with_reducible exact LeO.refl _)
      | (with_reducible exact LeO.none _)
      | (with_reducible refine LeO.ite ?_ ?_)
      | (with_reducible refine LeO.bind ?_ (fun _ => ?_))
      | exact ih0 _ _ _
      | exact ih1 _ _ _ _ _
      | exact ih2 _ _ _ _ _ _ _
      | exact ih3 _ _ _ _ _
      | exact ih4 _ _ _ _ _
      | exact LeO.none _
      | refine LeO.ite ?_ ?_
      | refine LeO.bind ?_ (fun _ => ?_)
set_option maxHeartbeats 8000000 in
set_option maxRecDepth 100000 in
theorem laws_FnReplacedBack.calls [Inhabited TabT] (k : Nat) (a0 : Int) (a1 : ByteArray) (r : Bool) (w : World) (ht_ : Tab w) (h : laws_FnReplacedBack.f k a0 a1 = some r) :
    Calls Tryd.prog 6 #[.int .u8 a0, .string a1] w fun e w' => e = .returned (.bool r) ∧ Below w.heap.size w w' := by
  have HB := Aside0.mk (Below.refl w.heap.size w)
  have HTAB_ := Aside0.mk (tab_below ht_)
  clear ht_
  have H : (if (a1.size : Int) > 2147483647 then (some true) else (if (a1.size : Int) > 1000 then (some true) else (laws_FnReplacedBack.l0 k a0 a1 0))) = some r := h
  clear h
  by_cases c3 : (a1.size : Int) > 2147483647
  · rw [if_pos c3] at H
    have c3b0 : decide (2147483647 < (a1.size : Int)) = true := decide_eq_true c3
    have c3b1 : decide (2147483647 < a1.size) = true := decide_eq_true (by omega)
    clear c3
    obtain rfl := Option.some.inj H
    go_enter Tryd.func6, Tryd.ntmps6
    go_wp2
    go_ret
    exact ⟨by first | rfl | (simp [errW_none, errW_some] <;> rfl) | (simp [*, errW_none, errW_some] <;> rfl), by repeat (first | (with_reducible first | exact HB.out | apply below_alloc | apply pw_below_drewN | apply below_drew1) | exact HB.out)⟩
  · rw [if_neg c3] at H
    have c3b0 : decide (2147483647 < (a1.size : Int)) = false := decide_eq_false c3
    have c3b1 : decide (2147483647 < a1.size) = false := decide_eq_false (by omega)
    clear c3
    by_cases c4 : (a1.size : Int) > 1000
    · rw [if_pos c4] at H
      have c4b0 : decide (1000 < (a1.size : Int)) = true := decide_eq_true c4
      have c4b1 : decide (1000 < a1.size) = true := decide_eq_true (by omega)
      clear c4
      obtain rfl := Option.some.inj H
      go_enter Tryd.func6, Tryd.ntmps6
      go_wp2
      go_ret
      exact ⟨by first | rfl | (simp [errW_none, errW_some] <;> rfl) | (simp [*, errW_none, errW_some] <;> rfl), by repeat (first | (with_reducible first | exact HB.out | apply below_alloc | apply pw_below_drewN | apply below_drew1) | exact HB.out)⟩
    · rw [if_neg c4] at H
      have c4b0 : decide (1000 < (a1.size : Int)) = false := decide_eq_false c4
      have c4b1 : decide (1000 < a1.size) = false := decide_eq_false (by omega)
      clear c4
      have H' := Aside0.mk H
      clear H
      go_enter Tryd.func6, Tryd.ntmps6
      go_wp2
      go_loopg [5] k (fun kq v5 w' => ∃ (x5_1 : Int), v5 = .int .i64 x5_1 ∧ Aside0 (laws_FnReplacedBack.l0 kq a0 a1 x5_1 = some r) ∧ Aside0 (kq ≤ k) ∧ Aside0 (Below w.heap.size w w'))
      case atStart => exact ⟨(0), (by first | rfl | (simp; done) | (simp [*]; done)), H', ⟨Nat.le_refl _⟩, ⟨by repeat (first | (with_reducible first | exact HB.out | apply below_alloc | apply pw_below_drewN | apply below_drew1) | exact HB.out)⟩⟩
      case round =>
        clear H'
        try clear p2
        try clear c3
        try clear c3b0
        try clear c3b1
        try clear c4
        try clear c4b0
        try clear c4b1
        obtain ⟨x5_1, rfl, HA, HK1, HB⟩ := hrel
        cases gk with
        | zero => exact absurd HA.out (by simp [laws_FnReplacedBack.l0])
        | succ k1 =>
          have H := HA.out
          clear HA
          simp only [laws_FnReplacedBack.l0] at H
          by_cases c5 : x5_1 < (a1.size : Int)
          · rw [if_pos c5] at H
            have c5b0 : decide (x5_1 < (a1.size : Int)) = true := decide_eq_true c5
            clear c5
            by_cases c6 : 0 ≤ x5_1
            · rw [if_pos c6] at H
              have c6b0 : decide (0 ≤ x5_1) = true := decide_eq_true c6
              clear c6
              by_cases c8 : (bt a1 x5_1) = 32
              · rw [if_pos c8] at H
                have c8b0 : ((bt a1 x5_1) == 32) = true := beq_iff_eq.mpr c8
                have c8b1 : ((bt a1 x5_1) != 32) = false := bne_eq_false_iff_eq.mpr c8
                clear c8
                by_cases c9 : (bt a1 x5_1) = 63
                · rw [if_pos c9] at H
                  have c9b0 : ((bt a1 x5_1) == 63) = true := beq_iff_eq.mpr c9
                  have c9b1 : ((bt a1 x5_1) != 63) = false := bne_eq_false_iff_eq.mpr c9
                  clear c9
                  by_cases c10 : x5_1 > 0
                  · rw [if_pos c10] at H
                    have c10b0 : decide (0 < x5_1) = true := decide_eq_true c10
                    clear c10
                    obtain ⟨ji11, hji11⟩ : ∃ j_ : Int, (wrap64 (x5_1 - 1)) = j_ := ⟨_, rfl⟩
                    replace H : (if 0 ≤ (ji11) then (if (ji11) < (a1.size : Int) then (if (bt a1 (ji11)) = 63 then (some true) else (laws_FnReplacedBack.l0 k1 a0 a1 (wrap64 (x5_1 + 1)))) else (none)) else (none)) = some r := by first | (rw [hji11] at H; exact H) | (simp only [hji11] at H ⊢; exact H)
                    have hji11w : (IntKind.i64.wrap (x5_1 - 1)) = ji11 := (i64_w _).trans hji11
                    by_cases c12 : 0 ≤ (ji11)
                    · rw [if_pos c12] at H
                      have c12b0 : decide (0 ≤ (ji11)) = true := decide_eq_true c12
                      clear c12
                      by_cases c13 : (ji11) < (a1.size : Int)
                      · rw [if_pos c13] at H
                        have c13b0 : decide ((ji11) < (a1.size : Int)) = true := decide_eq_true c13
                        clear c13
                        by_cases c15 : (bt a1 (ji11)) = 63
                        · rw [if_pos c15] at H
                          have c15b0 : ((bt a1 (ji11)) == 63) = true := beq_iff_eq.mpr c15
                          have c15b1 : ((bt a1 (ji11)) != 63) = false := bne_eq_false_iff_eq.mpr c15
                          clear c15
                          obtain rfl := Option.some.inj H
                          have p7 : 0 ≤ (x5_1 : Int) := of_decide_eq_true (by first | (with_reducible assumption) | assumption)
                          have q7 : x5_1 < (a1.size : Int) := of_decide_eq_true (by first | (with_reducible assumption) | assumption)
                          have hx7 := bt_at a1 x5_1
                          replace p7 := eq_true p7
                          replace q7 := eq_true q7
                          have p14 : 0 ≤ ((ji11) : Int) := of_decide_eq_true (by first | (with_reducible assumption) | assumption)
                          have q14 : (ji11) < (a1.size : Int) := of_decide_eq_true (by first | (with_reducible assumption) | assumption)
                          have hx14 := bt_at a1 (ji11)
                          replace p14 := eq_true p14
                          replace q14 := eq_true q14
                          go_wp2
                          go_ret
                          exact ⟨by first | rfl | (simp [errW_none, errW_some] <;> rfl) | (simp only [← hji11]; first | rfl | (simp [errW_none, errW_some] <;> rfl)) | (simp [*, errW_none, errW_some] <;> rfl), by repeat (first | (with_reducible first | exact HB.out | apply below_alloc | apply pw_below_drewN | apply below_drew1) | exact HB.out)⟩
                        · rw [if_neg c15] at H
                          have c15b0 : ((bt a1 (ji11)) == 63) = false := beq_eq_false_iff_ne.mpr c15
                          have c15b1 : ((bt a1 (ji11)) != 63) = true := bne_iff_ne.mpr c15
                          have H' := Aside0.mk H
                          clear H
                          have p7 : 0 ≤ (x5_1 : Int) := of_decide_eq_true (by first | (with_reducible assumption) | assumption)
                          have q7 : x5_1 < (a1.size : Int) := of_decide_eq_true (by first | (with_reducible assumption) | assumption)
                          have hx7 := bt_at a1 x5_1
                          replace p7 := eq_true p7
                          replace q7 := eq_true q7
                          have p14 : 0 ≤ ((ji11) : Int) := of_decide_eq_true (by first | (with_reducible assumption) | assumption)
                          have q14 : (ji11) < (a1.size : Int) := of_decide_eq_true (by first | (with_reducible assumption) | assumption)
                          have hx14 := bt_at a1 (ji11)
                          replace p14 := eq_true p14
                          replace q14 := eq_true q14
                          go_wp2
                          go_roundg k1
                          case measure => have := HK1.out; omega
                          case rel => exact ⟨(wrap64 (x5_1 + 1)), (by first | rfl | (simp; done) | (simp [*]; done)), H', ⟨by have := HK1.out; omega⟩, ⟨by repeat (first | (with_reducible first | exact HB.out | apply below_alloc | apply pw_below_drewN | apply below_drew1) | exact HB.out)⟩⟩
                      · rw [if_neg c13] at H
                        exact absurd H (by simp)
                    · rw [if_neg c12] at H
                      exact absurd H (by simp)
                  · rw [if_neg c10] at H
                    have c10b0 : decide (0 < x5_1) = false := decide_eq_false c10
                    clear c10
                    have H' := Aside0.mk H
                    clear H
                    have p7 : 0 ≤ (x5_1 : Int) := of_decide_eq_true (by first | (with_reducible assumption) | assumption)
                    have q7 : x5_1 < (a1.size : Int) := of_decide_eq_true (by first | (with_reducible assumption) | assumption)
                    have hx7 := bt_at a1 x5_1
                    replace p7 := eq_true p7
                    replace q7 := eq_true q7
                    go_wp2
                    go_roundg k1
                    case measure => have := HK1.out; omega
                    case rel => exact ⟨(wrap64 (x5_1 + 1)), (by first | rfl | (simp; done) | (simp [*]; done)), H', ⟨by have := HK1.out; omega⟩, ⟨by repeat (first | (with_reducible first | exact HB.out | apply below_alloc | apply pw_below_drewN | apply below_drew1) | exact HB.out)⟩⟩
                · rw [if_neg c9] at H
                  have c9b0 : ((bt a1 x5_1) == 63) = false := beq_eq_false_iff_ne.mpr c9
                  have c9b1 : ((bt a1 x5_1) != 63) = true := bne_iff_ne.mpr c9
                  have H' := Aside0.mk H
                  clear H
                  have p7 : 0 ≤ (x5_1 : Int) := of_decide_eq_true (by first | (with_reducible assumption) | assumption)
                  have q7 : x5_1 < (a1.size : Int) := of_decide_eq_true (by first | (with_reducible assumption) | assumption)
                  have hx7 := bt_at a1 x5_1
                  replace p7 := eq_true p7
                  replace q7 := eq_true q7
                  go_wp2
                  go_roundg k1
                  case measure => have := HK1.out; omega
                  case rel => exact ⟨(wrap64 (x5_1 + 1)), (by first | rfl | (simp; done) | (simp [*]; done)), H', ⟨by have := HK1.out; omega⟩, ⟨by repeat (first | (with_reducible first | exact HB.out | apply below_alloc | apply pw_below_drewN | apply below_drew1) | exact HB.out)⟩⟩
              · rw [if_neg c8] at H
                have c8b0 : ((bt a1 x5_1) == 32) = false := beq_eq_false_iff_ne.mpr c8
                have c8b1 : ((bt a1 x5_1) != 32) = true := bne_iff_ne.mpr c8
                by_cases c16 : (bt a1 x5_1) = 63
                · rw [if_pos c16] at H
                  have c16b0 : ((bt a1 x5_1) == 63) = true := beq_iff_eq.mpr c16
                  have c16b1 : ((bt a1 x5_1) != 63) = false := bne_eq_false_iff_eq.mpr c16
                  clear c16
                  by_cases c17 : x5_1 > 0
                  · rw [if_pos c17] at H
                    have c17b0 : decide (0 < x5_1) = true := decide_eq_true c17
                    clear c17
                    obtain ⟨ji18, hji18⟩ : ∃ j_ : Int, (wrap64 (x5_1 - 1)) = j_ := ⟨_, rfl⟩
                    replace H : (if 0 ≤ (ji18) then (if (ji18) < (a1.size : Int) then (if (bt a1 (ji18)) = 63 then (some true) else (laws_FnReplacedBack.l0 k1 a0 a1 (wrap64 (x5_1 + 1)))) else (none)) else (none)) = some r := by first | (rw [hji18] at H; exact H) | (simp only [hji18] at H ⊢; exact H)
                    have hji18w : (IntKind.i64.wrap (x5_1 - 1)) = ji18 := (i64_w _).trans hji18
                    by_cases c19 : 0 ≤ (ji18)
                    · rw [if_pos c19] at H
                      have c19b0 : decide (0 ≤ (ji18)) = true := decide_eq_true c19
                      clear c19
                      by_cases c20 : (ji18) < (a1.size : Int)
                      · rw [if_pos c20] at H
                        have c20b0 : decide ((ji18) < (a1.size : Int)) = true := decide_eq_true c20
                        clear c20
                        by_cases c22 : (bt a1 (ji18)) = 63
                        · rw [if_pos c22] at H
                          have c22b0 : ((bt a1 (ji18)) == 63) = true := beq_iff_eq.mpr c22
                          have c22b1 : ((bt a1 (ji18)) != 63) = false := bne_eq_false_iff_eq.mpr c22
                          clear c22
                          obtain rfl := Option.some.inj H
                          have p7 : 0 ≤ (x5_1 : Int) := of_decide_eq_true (by first | (with_reducible assumption) | assumption)
                          have q7 : x5_1 < (a1.size : Int) := of_decide_eq_true (by first | (with_reducible assumption) | assumption)
                          have hx7 := bt_at a1 x5_1
                          replace p7 := eq_true p7
                          replace q7 := eq_true q7
                          have p21 : 0 ≤ ((ji18) : Int) := of_decide_eq_true (by first | (with_reducible assumption) | assumption)
                          have q21 : (ji18) < (a1.size : Int) := of_decide_eq_true (by first | (with_reducible assumption) | assumption)
                          have hx21 := bt_at a1 (ji18)
                          replace p21 := eq_true p21
                          replace q21 := eq_true q21
                          go_wp2
                          go_ret
                          exact ⟨by first | rfl | (simp [errW_none, errW_some] <;> rfl) | (simp only [← hji18]; first | rfl | (simp [errW_none, errW_some] <;> rfl)) | (simp [*, errW_none, errW_some] <;> rfl), by repeat (first | (with_reducible first | exact HB.out | apply below_alloc | apply pw_below_drewN | apply below_drew1) | exact HB.out)⟩
                        · rw [if_neg c22] at H
                          have c22b0 : ((bt a1 (ji18)) == 63) = false := beq_eq_false_iff_ne.mpr c22
                          have c22b1 : ((bt a1 (ji18)) != 63) = true := bne_iff_ne.mpr c22
                          have H' := Aside0.mk H
                          clear H
                          have p7 : 0 ≤ (x5_1 : Int) := of_decide_eq_true (by first | (with_reducible assumption) | assumption)
                          have q7 : x5_1 < (a1.size : Int) := of_decide_eq_true (by first | (with_reducible assumption) | assumption)
                          have hx7 := bt_at a1 x5_1
                          replace p7 := eq_true p7
                          replace q7 := eq_true q7
                          have p21 : 0 ≤ ((ji18) : Int) := of_decide_eq_true (by first | (with_reducible assumption) | assumption)
                          have q21 : (ji18) < (a1.size : Int) := of_decide_eq_true (by first | (with_reducible assumption) | assumption)
                          have hx21 := bt_at a1 (ji18)
                          replace p21 := eq_true p21
                          replace q21 := eq_true q21
                          go_wp2
                          go_roundg k1
                          case measure => have := HK1.out; omega
                          case rel => exact ⟨(wrap64 (x5_1 + 1)), (by first | rfl | (simp; done) | (simp [*]; done)), H', ⟨by have := HK1.out; omega⟩, ⟨by repeat (first | (with_reducible first | exact HB.out | apply below_alloc | apply pw_below_drewN | apply below_drew1) | exact HB.out)⟩⟩
                      · rw [if_neg c20] at H
                        exact absurd H (by simp)
                    · rw [if_neg c19] at H
                      exact absurd H (by simp)
                  · rw [if_neg c17] at H
                    have c17b0 : decide (0 < x5_1) = false := decide_eq_false c17
                    clear c17
                    have H' := Aside0.mk H
                    clear H
                    have p7 : 0 ≤ (x5_1 : Int) := of_decide_eq_true (by first | (with_reducible assumption) | assumption)
                    have q7 : x5_1 < (a1.size : Int) := of_decide_eq_true (by first | (with_reducible assumption) | assumption)
                    have hx7 := bt_at a1 x5_1
                    replace p7 := eq_true p7
                    replace q7 := eq_true q7
                    go_wp2
                    go_roundg k1
                    case measure => have := HK1.out; omega
                    case rel => exact ⟨(wrap64 (x5_1 + 1)), (by first | rfl | (simp; done) | (simp [*]; done)), H', ⟨by have := HK1.out; omega⟩, ⟨by repeat (first | (with_reducible first | exact HB.out | apply below_alloc | apply pw_below_drewN | apply below_drew1) | exact HB.out)⟩⟩
                · rw [if_neg c16] at H
                  have c16b0 : ((bt a1 x5_1) == 63) = false := beq_eq_false_iff_ne.mpr c16
                  have c16b1 : ((bt a1 x5_1) != 63) = true := bne_iff_ne.mpr c16
                  by_cases c23 : (bt a1 x5_1) < 97
                  · rw [if_pos c23] at H
                    have c23b0 : decide ((bt a1 x5_1) < 97) = true := decide_eq_true c23
                    clear c23
                    obtain rfl := Option.some.inj H
                    have p7 : 0 ≤ (x5_1 : Int) := of_decide_eq_true (by first | (with_reducible assumption) | assumption)
                    have q7 : x5_1 < (a1.size : Int) := of_decide_eq_true (by first | (with_reducible assumption) | assumption)
                    have hx7 := bt_at a1 x5_1
                    replace p7 := eq_true p7
                    replace q7 := eq_true q7
                    go_wp2
                    go_ret
                    exact ⟨by first | rfl | (simp [errW_none, errW_some] <;> rfl) | (simp [*, errW_none, errW_some] <;> rfl), by repeat (first | (with_reducible first | exact HB.out | apply below_alloc | apply pw_below_drewN | apply below_drew1) | exact HB.out)⟩
                  · rw [if_neg c23] at H
                    have c23b0 : decide ((bt a1 x5_1) < 97) = false := decide_eq_false c23
                    clear c23
                    by_cases c24 : (bt a1 x5_1) > 122
                    · rw [if_pos c24] at H
                      have c24b0 : decide (122 < (bt a1 x5_1)) = true := decide_eq_true c24
                      clear c24
                      obtain rfl := Option.some.inj H
                      have p7 : 0 ≤ (x5_1 : Int) := of_decide_eq_true (by first | (with_reducible assumption) | assumption)
                      have q7 : x5_1 < (a1.size : Int) := of_decide_eq_true (by first | (with_reducible assumption) | assumption)
                      have hx7 := bt_at a1 x5_1
                      replace p7 := eq_true p7
                      replace q7 := eq_true q7
                      go_wp2
                      go_ret
                      exact ⟨by first | rfl | (simp [errW_none, errW_some] <;> rfl) | (simp [*, errW_none, errW_some] <;> rfl), by repeat (first | (with_reducible first | exact HB.out | apply below_alloc | apply pw_below_drewN | apply below_drew1) | exact HB.out)⟩
                    · rw [if_neg c24] at H
                      have c24b0 : decide (122 < (bt a1 x5_1)) = false := decide_eq_false c24
                      clear c24
                      have H' := Aside0.mk H
                      clear H
                      have p7 : 0 ≤ (x5_1 : Int) := of_decide_eq_true (by first | (with_reducible assumption) | assumption)
                      have q7 : x5_1 < (a1.size : Int) := of_decide_eq_true (by first | (with_reducible assumption) | assumption)
                      have hx7 := bt_at a1 x5_1
                      replace p7 := eq_true p7
                      replace q7 := eq_true q7
                      go_wp2
                      go_roundg k1
                      case measure => have := HK1.out; omega
                      case rel => exact ⟨(wrap64 (x5_1 + 1)), (by first | rfl | (simp; done) | (simp [*]; done)), H', ⟨by have := HK1.out; omega⟩, ⟨by repeat (first | (with_reducible first | exact HB.out | apply below_alloc | apply pw_below_drewN | apply below_drew1) | exact HB.out)⟩⟩
            · rw [if_neg c6] at H
              exact absurd H (by simp)
          · rw [if_neg c5] at H
            have c5b0 : decide (x5_1 < (a1.size : Int)) = false := decide_eq_false c5
            clear c5
            replace H := Option.bind_eq_some_iff.mp H
            obtain ⟨t101, A250, H⟩ := H
            replace H : ((impl_Replaced.f t101 a1).bind fun bt102 => (laws_FnReplacedBack.l1 k1 a1 bt102.1 bt102.2 (⟨#[]⟩ : ByteArray) 0)) = some r := H
            have A25 := Aside0.mk A250
            clear A250
            replace H := Option.bind_eq_some_iff.mp H
            obtain ⟨⟨t102, t103⟩, A260, H⟩ := H
            replace H : (laws_FnReplacedBack.l1 k1 a1 t102 t103 (⟨#[]⟩ : ByteArray) 0) = some r := H
            have A26 := Aside0.mk A260
            clear A260
            have H' := Aside0.mk H
            clear H
            go_wp2_with (first | ((with_reducible refine gate_callee (f := 14) rfl ?_); refine goesL_ (some 58) rfl rfl Tryd.func14 (by kernel_rfl) rfl #[.int .u8 a0] rfl (by (try simp only [List.map_toArray, List.map_cons, List.map_nil]); first | done | rfl | (simp only [List.length_drop, List.length_take]; rfl)) ?_; (with_reducible refine (laws_form9.calls a0 t101 _ A25.out).mono ?_); rintro e w' ⟨rfl, ⟨nd, rfl⟩⟩; refine ⟨_, rfl, ?_⟩) | ((with_reducible refine gate_callee (f := 13) rfl ?_); refine goesL_ (some 60) rfl rfl Tryd.func13 (by kernel_rfl) rfl #[.int .i64 t101, .string a1] rfl (by (try simp only [List.map_toArray, List.map_cons, List.map_nil]); first | done | rfl | (simp only [List.length_drop, List.length_take]; rfl)) ?_; (with_reducible refine (impl_Replaced.calls t101 a1 t102 t103 _ (tab_at HTAB_.out (by repeat (first | (with_reducible first | exact HB.out | apply below_alloc | apply pw_below_drewN | apply below_drew1) | exact HB.out))) A26.out).mono ?_); rintro e w27 ⟨rfl, hb⟩; refine ⟨_, rfl, ?_⟩; have n0_ := Aside0.mk (below_step (by repeat (first | (with_reducible first | exact HB.out | apply below_alloc | apply pw_below_drewN | apply below_drew1) | exact HB.out)) hb); clear HB; have HB := n0_; clear n0_; (try clear hb); (try clear hb2); (try clear hk); (try clear hi)))
            go_loopg [9, 10] k1 (fun kq v9 v10 w' => ∃ (x9_2 : ByteArray) (x10_2 : Int), v9 = .string x9_2 ∧ v10 = .int .i64 x10_2 ∧ Aside0 (laws_FnReplacedBack.l1 kq a1 t102 t103 x9_2 x10_2 = some r) ∧ Aside0 (kq ≤ k1) ∧ Aside0 (Below w.heap.size w w'))
            case atStart => exact ⟨((⟨#[]⟩ : ByteArray)), (0), (by first | rfl | (simp; done) | (simp [*]; done)), (by first | rfl | (simp; done) | (simp [*]; done)), H', ⟨Nat.le_refl _⟩, ⟨by repeat (first | (with_reducible first | exact HB.out | apply below_alloc | apply pw_below_drewN | apply below_drew1) | exact HB.out)⟩⟩
            case round =>
              clear H'
              try clear c1
              try clear p1
              try clear q1
              try clear hx1
              try clear c2
              try clear p2
              try clear q2
              try clear hx2
              try clear c3
              try clear c3b0
              try clear c3b1
              try clear c4
              try clear c4b0
              try clear c4b1
              try clear c5
              try clear c5b0
              try clear c6
              try clear c6b0
              try clear p6
              try clear p7
              try clear q7
              try clear hx7
              try clear c8
              try clear c8b0
              try clear c8b1
              try clear c9
              try clear c9b0
              try clear c9b1
              try clear c10
              try clear c10b0
              try clear c12
              try clear c12b0
              try clear c13
              try clear c13b0
              try clear c14
              try clear p14
              try clear q14
              try clear hx14
              try clear c15
              try clear c15b0
              try clear c15b1
              try clear c16
              try clear c16b0
              try clear c16b1
              try clear c17
              try clear c17b0
              try clear c19
              try clear c19b0
              try clear c20
              try clear c20b0
              try clear p21
              try clear q21
              try clear hx21
              try clear c22
              try clear c22b0
              try clear c22b1
              try clear c23
              try clear c23b0
              try clear c24
              try clear c24b0
              try clear p14
              try clear p2
              try clear p21
              try clear p7
              try clear q14
              try clear q21
              try clear q7
              obtain ⟨x9_2, x10_2, rfl, rfl, HA, HK2, HB⟩ := hrel
              cases gk with
              | zero => exact absurd HA.out (by simp [laws_FnReplacedBack.l1])
              | succ k2 =>
                have H := HA.out
                clear HA
                simp only [laws_FnReplacedBack.l1] at H
                by_cases c28 : x10_2 < (t102.size : Int)
                · rw [if_pos c28] at H
                  have c28b0 : decide (x10_2 < (t102.size : Int)) = true := decide_eq_true c28
                  clear c28
                  by_cases c29 : 0 ≤ x10_2
                  · rw [if_pos c29] at H
                    have c29b0 : decide (0 ≤ x10_2) = true := decide_eq_true c29
                    clear c29
                    have HC31 := Aside0.mk H
                    clear H
                    have p30 : 0 ≤ (x10_2 : Int) := of_decide_eq_true (by first | (with_reducible assumption) | assumption)
                    have q30 : x10_2 < (t102.size : Int) := of_decide_eq_true (by first | (with_reducible assumption) | assumption)
                    have hx30 := bt_at t102 x10_2
                    replace p30 := eq_true p30
                    replace q30 := eq_true q30
                    go_upto_region 18 with (fail)
                    go_cut [79] (fun v79 wc => ∃ (kq : Nat) (x79_30 : Bool), v79 = .bool x79_30 ∧ Aside0 (laws_FnReplacedBack.j2 kq a1 t102 t103 x9_2 x10_2 (bt t102 x10_2) x79_30 = some r) ∧ Aside0 (kq ≤ k2) ∧ Aside0 (Below w.heap.size w wc))
                    case first =>
                      have H := HC31.out
                      clear HC31
                      by_cases c32 : (bt t102 x10_2) = 36
                      · rw [if_pos c32] at H
                        have c32b0 : ((bt t102 x10_2) == 36) = true := beq_iff_eq.mpr c32
                        have c32b1 : ((bt t102 x10_2) != 36) = false := bne_eq_false_iff_eq.mpr c32
                        clear c32
                        (first | rw [c32b0] | (simp only [i64_w, i32_w]; rw [c32b0]) | skip)
                        have H' := Aside0.mk H
                        clear H
                        go_wp2
                        go_meet
                        case rel => exact ⟨_, (true), (by first | rfl | (simp; done) | (simp [*]; done)), H', ⟨by have := HK1.out; have := HK2.out; first | omega | exact Nat.le_refl _⟩, ⟨by repeat (first | (with_reducible first | exact HB.out | apply below_alloc | apply pw_below_drewN | apply below_drew1) | exact HB.out)⟩⟩
                      · rw [if_neg c32] at H
                        have c32b0 : ((bt t102 x10_2) == 36) = false := beq_eq_false_iff_ne.mpr c32
                        have c32b1 : ((bt t102 x10_2) != 36) = true := bne_iff_ne.mpr c32
                        (first | rw [c32b0] | (simp only [i64_w, i32_w]; rw [c32b0]) | skip)
                        by_cases c33 : (bt t102 x10_2) = 58
                        · rw [if_pos c33] at H
                          have c33b0 : ((bt t102 x10_2) == 58) = true := beq_iff_eq.mpr c33
                          have c33b1 : ((bt t102 x10_2) != 58) = false := bne_eq_false_iff_eq.mpr c33
                          clear c33
                          have H' := Aside0.mk H
                          clear H
                          go_wp2
                          go_meet
                          case rel => exact ⟨_, (true), (by first | rfl | (simp; done) | (simp [*]; done)), H', ⟨by have := HK1.out; have := HK2.out; first | omega | exact Nat.le_refl _⟩, ⟨by repeat (first | (with_reducible first | exact HB.out | apply below_alloc | apply pw_below_drewN | apply below_drew1) | exact HB.out)⟩⟩
                        · rw [if_neg c33] at H
                          have c33b0 : ((bt t102 x10_2) == 58) = false := beq_eq_false_iff_ne.mpr c33
                          have c33b1 : ((bt t102 x10_2) != 58) = true := bne_iff_ne.mpr c33
                          have H' := Aside0.mk H
                          clear H
                          go_wp2
                          go_meet
                          case rel => exact ⟨_, (((bt t102 x10_2) == 64)), (by first | rfl | (simp; done) | (simp [*]; done)), H', ⟨by have := HK1.out; have := HK2.out; first | omega | exact Nat.le_refl _⟩, ⟨by repeat (first | (with_reducible first | exact HB.out | apply below_alloc | apply pw_below_drewN | apply below_drew1) | exact HB.out)⟩⟩
                    case rest =>
                      clear HC31
                      try clear c1
                      try clear p1
                      try clear q1
                      try clear hx1
                      try clear c2
                      try clear p2
                      try clear q2
                      try clear hx2
                      try clear c3
                      try clear c3b0
                      try clear c3b1
                      try clear p3
                      try clear q3
                      try clear hx3
                      try clear c4
                      try clear c4b0
                      try clear c4b1
                      try clear c5
                      try clear c5b0
                      try clear c6
                      try clear c6b0
                      try clear p6
                      try clear p7
                      try clear q7
                      try clear hx7
                      try clear c8
                      try clear c8b0
                      try clear c8b1
                      try clear c9
                      try clear c9b0
                      try clear c9b1
                      try clear c10
                      try clear c10b0
                      try clear c12
                      try clear c12b0
                      try clear c13
                      try clear c13b0
                      try clear c14
                      try clear p14
                      try clear q14
                      try clear hx14
                      try clear c15
                      try clear c15b0
                      try clear c15b1
                      try clear c16
                      try clear c16b0
                      try clear c16b1
                      try clear c17
                      try clear c17b0
                      try clear c19
                      try clear c19b0
                      try clear c20
                      try clear c20b0
                      try clear p21
                      try clear q21
                      try clear hx21
                      try clear c22
                      try clear c22b0
                      try clear c22b1
                      try clear c23
                      try clear c23b0
                      try clear c24
                      try clear c24b0
                      try clear c28
                      try clear c28b0
                      try clear c29
                      try clear c29b0
                      try clear p30
                      try clear q30
                      try clear hx30
                      try clear c32
                      try clear c32b0
                      try clear c32b1
                      try clear c33
                      try clear c33b0
                      try clear c33b1
                      try clear p1
                      try clear p14
                      try clear p2
                      try clear p21
                      try clear p30
                      try clear p6
                      try clear p7
                      try clear q1
                      try clear q14
                      try clear q2
                      try clear q21
                      try clear q30
                      try clear q7
                      obtain ⟨kq, x79_30, rfl, HA, HJ30, HB⟩ := hcut
                      cases kq with
                      | zero => exact absurd HA.out (by simp [laws_FnReplacedBack.j2])
                      | succ kj30 =>
                        have H := HA.out
                        clear HA
                        simp only [laws_FnReplacedBack.j2] at H
                        by_cases c34 : x79_30 = true
                        · subst c34
                          have H1 : (if x9_2.size + 1 ≤ 9223372036854775807 then (if (bt t102 x10_2) = 64 then (laws_FnReplacedBack.j3 kj30 a1 t102 t103 (x9_2 ++ (⟨#[63]⟩ : ByteArray)) (wrap64 (x10_2 + 1))) else (laws_FnReplacedBack.j3 kj30 a1 t102 t103 (x9_2 ++ (⟨#[63]⟩ : ByteArray)) x10_2)) else (none)) = some r := by rw [if_pos rfl] at H; exact H
                          clear H
                          have H := H1
                          clear H1
                          by_cases c35 : x9_2.size + 1 ≤ 9223372036854775807
                          · rw [if_pos c35] at H
                            have c35b0 := eq_true c35
                            have c35b1 : decide (x9_2.size + 1 ≤ 9223372036854775807) = true := decide_eq_true c35
                            try have c35b2 : (9223372036854775807 < x9_2.size + 1) = False := eq_false (Nat.not_lt.2 c35)
                            have HC36 := Aside0.mk H
                            clear H
                            go_upto_if 93 with (fail)
                            go_cut [10] (fun v10 wc => ∃ (kq : Nat) (x10_35 : Int), v10 = .int .i64 x10_35 ∧ Aside0 (laws_FnReplacedBack.j3 kq a1 t102 t103 (x9_2 ++ (⟨#[63]⟩ : ByteArray)) x10_35 = some r) ∧ Aside0 (kq ≤ kj30) ∧ Aside0 (Below w.heap.size w wc))
                            case first =>
                              have H := HC36.out
                              clear HC36
                              by_cases c37 : (bt t102 x10_2) = 64
                              · rw [if_pos c37] at H
                                have c37b0 : ((bt t102 x10_2) == 64) = true := beq_iff_eq.mpr c37
                                have c37b1 : ((bt t102 x10_2) != 64) = false := bne_eq_false_iff_eq.mpr c37
                                clear c37
                                (first | rw [c37b0] | (simp only [i64_w, i32_w]; rw [c37b0]) | skip)
                                have H' := Aside0.mk H
                                clear H
                                go_wp2
                                go_meet
                                case rel => exact ⟨_, (wrap64 (x10_2 + 1)), (by first | rfl | (simp; done) | (simp [*]; done)), H', ⟨by have := HK1.out; have := HK2.out; have := HJ30.out; first | omega | exact Nat.le_refl _⟩, ⟨by repeat (first | (with_reducible first | exact HB.out | apply below_alloc | apply pw_below_drewN | apply below_drew1) | exact HB.out)⟩⟩
                              · rw [if_neg c37] at H
                                have c37b0 : ((bt t102 x10_2) == 64) = false := beq_eq_false_iff_ne.mpr c37
                                have c37b1 : ((bt t102 x10_2) != 64) = true := bne_iff_ne.mpr c37
                                (first | rw [c37b0] | (simp only [i64_w, i32_w]; rw [c37b0]) | skip)
                                have H' := Aside0.mk H
                                clear H
                                go_wp2
                                go_meet
                                case rel => exact ⟨_, (x10_2), (by first | rfl | (simp; done) | (simp [*]; done)), H', ⟨by have := HK1.out; have := HK2.out; have := HJ30.out; first | omega | exact Nat.le_refl _⟩, ⟨by repeat (first | (with_reducible first | exact HB.out | apply below_alloc | apply pw_below_drewN | apply below_drew1) | exact HB.out)⟩⟩
                            case rest =>
                              clear HC36
                              try clear c1
                              try clear p1
                              try clear q1
                              try clear hx1
                              try clear c2
                              try clear p2
                              try clear q2
                              try clear hx2
                              try clear c3
                              try clear c3b0
                              try clear c3b1
                              try clear p3
                              try clear q3
                              try clear hx3
                              try clear c4
                              try clear c4b0
                              try clear c4b1
                              try clear c5
                              try clear c5b0
                              try clear c6
                              try clear c6b0
                              try clear p6
                              try clear p7
                              try clear q7
                              try clear hx7
                              try clear c8
                              try clear c8b0
                              try clear c8b1
                              try clear c9
                              try clear c9b0
                              try clear c9b1
                              try clear c10
                              try clear c10b0
                              try clear c12
                              try clear c12b0
                              try clear c13
                              try clear c13b0
                              try clear c14
                              try clear p14
                              try clear q14
                              try clear hx14
                              try clear c15
                              try clear c15b0
                              try clear c15b1
                              try clear c16
                              try clear c16b0
                              try clear c16b1
                              try clear c17
                              try clear c17b0
                              try clear c19
                              try clear c19b0
                              try clear c20
                              try clear c20b0
                              try clear p21
                              try clear q21
                              try clear hx21
                              try clear c22
                              try clear c22b0
                              try clear c22b1
                              try clear c23
                              try clear c23b0
                              try clear c24
                              try clear c24b0
                              try clear c28
                              try clear c28b0
                              try clear c29
                              try clear c29b0
                              try clear p30
                              try clear q30
                              try clear hx30
                              try clear c32
                              try clear c32b0
                              try clear c32b1
                              try clear c33
                              try clear c33b0
                              try clear c33b1
                              try clear c34
                              try clear c35
                              try clear c35b0
                              try clear c35b1
                              try clear c35b2
                              try clear c37
                              try clear c37b0
                              try clear c37b1
                              try clear p1
                              try clear p14
                              try clear p2
                              try clear p21
                              try clear p3
                              try clear p30
                              try clear p6
                              try clear p7
                              try clear q1
                              try clear q14
                              try clear q2
                              try clear q21
                              try clear q3
                              try clear q30
                              try clear q7
                              obtain ⟨kq, x10_35, rfl, HA, HJ35, HB⟩ := hcut
                              cases kq with
                              | zero => exact absurd HA.out (by simp [laws_FnReplacedBack.j3])
                              | succ kj35 =>
                                have H := HA.out
                                clear HA
                                simp only [laws_FnReplacedBack.j3] at H
                                have H' := Aside0.mk H
                                clear H
                                go_wp2
                                go_loopg [10] kj35 (fun kq v10 w' => ∃ (x10_5 : Int), v10 = .int .i64 x10_5 ∧ Aside0 (laws_FnReplacedBack.l2 kq a1 t102 t103 (x9_2 ++ (⟨#[63]⟩ : ByteArray)) x10_5 = some r) ∧ Aside0 (kq ≤ kj35) ∧ Aside0 (Below w.heap.size w w'))
                                case atStart => exact ⟨(x10_35), (by first | rfl | (simp; done) | (simp [*]; done)), H', ⟨Nat.le_refl _⟩, ⟨by repeat (first | (with_reducible first | exact HB.out | apply below_alloc | apply pw_below_drewN | apply below_drew1) | exact HB.out)⟩⟩
                                case round =>
                                  clear H'
                                  try clear c1
                                  try clear p1
                                  try clear q1
                                  try clear hx1
                                  try clear c2
                                  try clear p2
                                  try clear q2
                                  try clear hx2
                                  try clear c3
                                  try clear c3b0
                                  try clear c3b1
                                  try clear p3
                                  try clear q3
                                  try clear hx3
                                  try clear c4
                                  try clear c4b0
                                  try clear c4b1
                                  try clear c5
                                  try clear c5b0
                                  try clear c6
                                  try clear c6b0
                                  try clear p6
                                  try clear p7
                                  try clear q7
                                  try clear hx7
                                  try clear c8
                                  try clear c8b0
                                  try clear c8b1
                                  try clear c9
                                  try clear c9b0
                                  try clear c9b1
                                  try clear c10
                                  try clear c10b0
                                  try clear c12
                                  try clear c12b0
                                  try clear c13
                                  try clear c13b0
                                  try clear c14
                                  try clear p14
                                  try clear q14
                                  try clear hx14
                                  try clear c15
                                  try clear c15b0
                                  try clear c15b1
                                  try clear c16
                                  try clear c16b0
                                  try clear c16b1
                                  try clear c17
                                  try clear c17b0
                                  try clear c19
                                  try clear c19b0
                                  try clear c20
                                  try clear c20b0
                                  try clear p21
                                  try clear q21
                                  try clear hx21
                                  try clear c22
                                  try clear c22b0
                                  try clear c22b1
                                  try clear c23
                                  try clear c23b0
                                  try clear c24
                                  try clear c24b0
                                  try clear c28
                                  try clear c28b0
                                  try clear c29
                                  try clear c29b0
                                  try clear p30
                                  try clear q30
                                  try clear hx30
                                  try clear c32
                                  try clear c32b0
                                  try clear c32b1
                                  try clear c33
                                  try clear c33b0
                                  try clear c33b1
                                  try clear c34
                                  try clear c35
                                  try clear c35b0
                                  try clear c35b1
                                  try clear c35b2
                                  try clear c37
                                  try clear c37b0
                                  try clear c37b1
                                  try clear p1
                                  try clear p14
                                  try clear p2
                                  try clear p21
                                  try clear p3
                                  try clear p30
                                  try clear p6
                                  try clear p7
                                  try clear q1
                                  try clear q14
                                  try clear q2
                                  try clear q21
                                  try clear q3
                                  try clear q30
                                  try clear q7
                                  obtain ⟨x10_5, rfl, HA, HK5, HB⟩ := hrel
                                  cases gk with
                                  | zero => exact absurd HA.out (by simp [laws_FnReplacedBack.l2])
                                  | succ k5 =>
                                    have H := HA.out
                                    clear HA
                                    simp only [laws_FnReplacedBack.l2] at H
                                    by_cases c38 : (wrap64 (x10_5 + 1)) < (t102.size : Int)
                                    · rw [if_pos c38] at H
                                      have c38b0 : decide ((wrap64 (x10_5 + 1)) < (t102.size : Int)) = true := decide_eq_true c38
                                      clear c38
                                      obtain ⟨ji39, hji39⟩ : ∃ j_ : Int, (wrap64 (x10_5 + 1)) = j_ := ⟨_, rfl⟩
                                      replace H : (if 0 ≤ (ji39) then (if (bt t102 (ji39)) ≥ 48 then (if (bt t102 (ji39)) ≤ 57 then (laws_FnReplacedBack.l2 k5 a1 t102 t103 (x9_2 ++ (⟨#[63]⟩ : ByteArray)) ji39) else (laws_FnReplacedBack.l1 k5 a1 t102 t103 (x9_2 ++ (⟨#[63]⟩ : ByteArray)) ji39)) else (laws_FnReplacedBack.l1 k5 a1 t102 t103 (x9_2 ++ (⟨#[63]⟩ : ByteArray)) ji39)) else (none)) = some r := by first | (rw [hji39] at H; exact H) | (simp only [hji39] at H ⊢; exact H)
                                      (try rw [hji39] at c38b0)
                                      have hji39w : (IntKind.i64.wrap (x10_5 + 1)) = ji39 := (i64_w _).trans hji39
                                      by_cases c40 : 0 ≤ (ji39)
                                      · rw [if_pos c40] at H
                                        have c40b0 : decide (0 ≤ (ji39)) = true := decide_eq_true c40
                                        clear c40
                                        by_cases c42 : (bt t102 (ji39)) ≥ 48
                                        · rw [if_pos c42] at H
                                          have c42b0 : decide (48 ≤ (bt t102 (ji39))) = true := decide_eq_true c42
                                          clear c42
                                          by_cases c44 : (bt t102 (ji39)) ≤ 57
                                          · rw [if_pos c44] at H
                                            have c44b0 : decide ((bt t102 (ji39)) ≤ 57) = true := decide_eq_true c44
                                            clear c44
                                            have H' := Aside0.mk H
                                            clear H
                                            have p41 : 0 ≤ ((ji39) : Int) := of_decide_eq_true (by first | (with_reducible assumption) | assumption)
                                            have q41 : (ji39) < (t102.size : Int) := of_decide_eq_true (by first | (with_reducible assumption) | assumption)
                                            have hx41 := bt_at t102 (ji39)
                                            replace p41 := eq_true p41
                                            replace q41 := eq_true q41
                                            have p43 : 0 ≤ ((ji39) : Int) := of_decide_eq_true (by first | (with_reducible assumption) | assumption)
                                            have q43 : (ji39) < (t102.size : Int) := of_decide_eq_true (by first | (with_reducible assumption) | assumption)
                                            have hx43 := bt_at t102 (ji39)
                                            replace p43 := eq_true p43
                                            replace q43 := eq_true q43
                                            go_wp2
                                            go_roundg k5
                                            case measure => have := HK1.out; have := HK2.out; have := HJ30.out; have := HJ35.out; have := HK5.out; omega
                                            case rel => exact ⟨(ji39), (by first | rfl | (simp; done) | (simp only [← hji39] <;> (first | rfl | simp)) | (simp [*]; done)), H', ⟨by have := HK1.out; have := HK2.out; have := HJ30.out; have := HJ35.out; have := HK5.out; omega⟩, ⟨by repeat (first | (with_reducible first | exact HB.out | apply below_alloc | apply pw_below_drewN | apply below_drew1) | exact HB.out)⟩⟩
                                          · rw [if_neg c44] at H
                                            have c44b0 : decide ((bt t102 (ji39)) ≤ 57) = false := decide_eq_false c44
                                            clear c44
                                            have H' := Aside0.mk H
                                            clear H
                                            have p41 : 0 ≤ ((ji39) : Int) := of_decide_eq_true (by first | (with_reducible assumption) | assumption)
                                            have q41 : (ji39) < (t102.size : Int) := of_decide_eq_true (by first | (with_reducible assumption) | assumption)
                                            have hx41 := bt_at t102 (ji39)
                                            replace p41 := eq_true p41
                                            replace q41 := eq_true q41
                                            have p43 : 0 ≤ ((ji39) : Int) := of_decide_eq_true (by first | (with_reducible assumption) | assumption)
                                            have q43 : (ji39) < (t102.size : Int) := of_decide_eq_true (by first | (with_reducible assumption) | assumption)
                                            have hx43 := bt_at t102 (ji39)
                                            replace p43 := eq_true p43
                                            replace q43 := eq_true q43
                                            go_wp2
                                            go_roundg k5
                                            case measure => have := HK1.out; have := HK2.out; have := HJ30.out; have := HJ35.out; have := HK5.out; omega
                                            case rel => exact ⟨((x9_2 ++ (⟨#[63]⟩ : ByteArray))), (ji39), (by first | rfl | (simp; done) | (simp [*]; done)), (by first | rfl | (simp; done) | (simp only [← hji39] <;> (first | rfl | simp)) | (simp [*]; done)), H', ⟨by have := HK1.out; have := HK2.out; have := HJ30.out; have := HJ35.out; have := HK5.out; omega⟩, ⟨by repeat (first | (with_reducible first | exact HB.out | apply below_alloc | apply pw_below_drewN | apply below_drew1) | exact HB.out)⟩⟩
                                        · rw [if_neg c42] at H
                                          have c42b0 : decide (48 ≤ (bt t102 (ji39))) = false := decide_eq_false c42
                                          clear c42
                                          have H' := Aside0.mk H
                                          clear H
                                          have p41 : 0 ≤ ((ji39) : Int) := of_decide_eq_true (by first | (with_reducible assumption) | assumption)
                                          have q41 : (ji39) < (t102.size : Int) := of_decide_eq_true (by first | (with_reducible assumption) | assumption)
                                          have hx41 := bt_at t102 (ji39)
                                          replace p41 := eq_true p41
                                          replace q41 := eq_true q41
                                          go_wp2
                                          go_roundg k5
                                          case measure => have := HK1.out; have := HK2.out; have := HJ30.out; have := HJ35.out; have := HK5.out; omega
                                          case rel => exact ⟨((x9_2 ++ (⟨#[63]⟩ : ByteArray))), (ji39), (by first | rfl | (simp; done) | (simp [*]; done)), (by first | rfl | (simp; done) | (simp only [← hji39] <;> (first | rfl | simp)) | (simp [*]; done)), H', ⟨by have := HK1.out; have := HK2.out; have := HJ30.out; have := HJ35.out; have := HK5.out; omega⟩, ⟨by repeat (first | (with_reducible first | exact HB.out | apply below_alloc | apply pw_below_drewN | apply below_drew1) | exact HB.out)⟩⟩
                                      · rw [if_neg c40] at H
                                        exact absurd H (by simp)
                                    · rw [if_neg c38] at H
                                      have c38b0 : decide ((wrap64 (x10_5 + 1)) < (t102.size : Int)) = false := decide_eq_false c38
                                      clear c38
                                      have H' := Aside0.mk H
                                      clear H
                                      go_wp2
                                      go_roundg k5
                                      case measure => have := HK1.out; have := HK2.out; have := HJ30.out; have := HJ35.out; have := HK5.out; omega
                                      case rel => exact ⟨((x9_2 ++ (⟨#[63]⟩ : ByteArray))), (wrap64 (x10_5 + 1)), (by first | rfl | (simp; done) | (simp [*]; done)), (by first | rfl | (simp; done) | (simp [*]; done)), H', ⟨by have := HK1.out; have := HK2.out; have := HJ30.out; have := HJ35.out; have := HK5.out; omega⟩, ⟨by repeat (first | (with_reducible first | exact HB.out | apply below_alloc | apply pw_below_drewN | apply below_drew1) | exact HB.out)⟩⟩
                          · rw [if_neg c35] at H
                            exact absurd H (by simp)
                        · replace c34 := Bool.eq_false_iff.mpr c34
                          subst c34
                          have H1 : (if 0 ≤ x10_2 then (if x10_2 ≤ (wrap64 (x10_2 + 1)) then (if (wrap64 (x10_2 + 1)) ≤ (t102.size : Int) then (if x9_2.size + (t102.extract (x10_2 : Int).toNat ((wrap64 (x10_2 + 1)) : Int).toNat).size ≤ 9223372036854775807 then (laws_FnReplacedBack.l1 kj30 a1 t102 t103 (x9_2 ++ (t102.extract (x10_2 : Int).toNat ((wrap64 (x10_2 + 1)) : Int).toNat)) (wrap64 (x10_2 + 1))) else (none)) else (none)) else (none)) else (none)) = some r := by rw [if_neg (show ¬ (false = true) by decide)] at H; exact H
                          clear H
                          have H := H1
                          clear H1
                          by_cases c45 : 0 ≤ x10_2
                          · rw [if_pos c45] at H
                            have c45b0 := eq_true c45
                            have c45b1 : decide (0 ≤ x10_2) = true := decide_eq_true c45
                            clear c45
                            by_cases c46 : x10_2 ≤ (wrap64 (x10_2 + 1))
                            · rw [if_pos c46] at H
                              have c46b0 := eq_true c46
                              have c46b1 : decide (x10_2 ≤ (wrap64 (x10_2 + 1))) = true := decide_eq_true c46
                              by_cases c47 : (wrap64 (x10_2 + 1)) ≤ (t102.size : Int)
                              · rw [if_pos c47] at H
                                have c47b0 := eq_true c47
                                have c47b1 : decide ((wrap64 (x10_2 + 1)) ≤ (t102.size : Int)) = true := decide_eq_true c47
                                by_cases c48 : x9_2.size + (t102.extract (x10_2 : Int).toNat ((wrap64 (x10_2 + 1)) : Int).toNat).size ≤ 9223372036854775807
                                · rw [if_pos c48] at H
                                  have c48b0 := eq_true c48
                                  have c48b1 : decide (x9_2.size + (t102.extract (x10_2 : Int).toNat ((wrap64 (x10_2 + 1)) : Int).toNat).size ≤ 9223372036854775807) = true := decide_eq_true c48
                                  try have c48b2 : (9223372036854775807 < x9_2.size + (t102.extract (x10_2 : Int).toNat ((wrap64 (x10_2 + 1)) : Int).toNat).size) = False := eq_false (Nat.not_lt.2 c48)
                                  have H' := Aside0.mk H
                                  clear H
                                  go_wp2
                                  go_roundg kj30
                                  case measure => have := HK1.out; have := HK2.out; have := HJ30.out; omega
                                  case rel => exact ⟨(x9_2 ++ (t102.extract (x10_2 : Int).toNat ((wrap64 (x10_2 + 1)) : Int).toNat)), (wrap64 (x10_2 + 1)), (by first | rfl | (simp; done) | (simp [*]; done)), (by first | rfl | (simp; done) | (simp [*]; done)), H', ⟨by have := HK1.out; have := HK2.out; have := HJ30.out; omega⟩, ⟨by repeat (first | (with_reducible first | exact HB.out | apply below_alloc | apply pw_below_drewN | apply below_drew1) | exact HB.out)⟩⟩
                                · rw [if_neg c48] at H
                                  exact absurd H (by simp)
                              · rw [if_neg c47] at H
                                exact absurd H (by simp)
                            · rw [if_neg c46] at H
                              exact absurd H (by simp)
                          · rw [if_neg c45] at H
                            exact absurd H (by simp)
                  · rw [if_neg c29] at H
                    exact absurd H (by simp)
                · rw [if_neg c28] at H
                  have c28b0 : decide (x10_2 < (t102.size : Int)) = false := decide_eq_false c28
                  clear c28
                  by_cases c49 : t103 = true
                  · subst c49
                    have H1 : (some (x9_2.toList == a1.toList)) = some r := by rw [if_pos rfl] at H; exact H
                    clear H
                    have H := H1
                    clear H1
                    obtain rfl := Option.some.inj H
                    go_wp2
                    go_ret
                    exact ⟨by first | rfl | (simp [errW_none, errW_some] <;> rfl) | (simp [*, errW_none, errW_some] <;> rfl), by repeat (first | (with_reducible first | exact HB.out | apply below_alloc | apply pw_below_drewN | apply below_drew1) | exact HB.out)⟩
                  · replace c49 := Bool.eq_false_iff.mpr c49
                    subst c49
                    have H1 : (some false) = some r := by rw [if_neg (show ¬ (false = true) by decide)] at H; exact H
                    clear H
                    have H := H1
                    clear H1
                    obtain rfl := Option.some.inj H
                    go_wp2
                    go_ret
                    exact ⟨by first | rfl | (simp [errW_none, errW_some] <;> rfl) | (simp [*, errW_none, errW_some] <;> rfl), by repeat (first | (with_reducible first | exact HB.out | apply below_alloc | apply pw_below_drewN | apply below_drew1) | exact HB.out)⟩

/-- THE ONE PURE STATEMENT of laws_FnReplacedBack: yours. -/
def laws_FnReplacedBack.Pure [Inhabited TabT] : Prop := ∀ (a0 : Int) (a1 : ByteArray), (Lit.int .u8 a0).wf = true → a1.size ≤ 140737488351232 → ∃ k, laws_FnReplacedBack.f k a0 a1 = some true
theorem laws_FnReplacedBack.walk [Inhabited TabT] (P : laws_FnReplacedBack.Pure) (a0 : Int) (a1 : ByteArray) (w : World) (ht_ : Tab w) (w0 : (Lit.int .u8 a0).wf = true) (w1 : a1.size ≤ 140737488351232) :
    Calls Tryd.prog 6 #[.int .u8 a0, .string a1] w fun e w' => e = .returned (.bool true) ∧ Below w.heap.size w w' := by
  obtain ⟨k, h⟩ := P a0 a1 w0 w1
  refine (laws_FnReplacedBack.calls k a0 a1 true w ht_ h).mono ?_
  rintro e w' ⟨rfl, hd⟩
  exact ⟨rfl, hd⟩

end Go.Proofs.YtapnlnikeniomaaDoor.QP
