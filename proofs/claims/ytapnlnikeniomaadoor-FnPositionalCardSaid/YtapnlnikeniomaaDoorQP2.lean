-- WRITTEN BY A PROGRAM OF THIS SESSION (wip/print2.py): the print, with contracts of this session's own let in. Not trusted: Lean checks it.
import Derived.Test.YtapnlnikeniomaaDoorQP0
import Derived.Test.YtapnlnikeniomaaDoorQP1
namespace Go.Proofs.YtapnlnikeniomaaDoor.QP
open Go.RowKit Go.Proofs.YtapnlnikeniomaaDoorW.PrintWords Go.Proofs.YtapnlnikeniomaaDoorW.PrintLast Go.Proofs.YtapnlnikeniomaaDoorW.PrintMore
attribute [local go_sem] max2_int min2_int max_two min_two max_three min_three max_four min_four   -- for this text's walks alone
set_option linter.unusedVariables false
set_option linter.unusedSimpArgs false

/-! ### spec_Numbered: function 9 -/
def spec_Numbered.l0 : Nat → ByteArray → ByteArray → ByteArray → Int → Int → Option (ByteArray)
  | 0, _, _, _, _, _ => none
  | k + 1, x0, x1, x5, x6, x7 => if x7 < (x1.size : Int) then (if 0 ≤ x7 then (if (bt x1 x7) = 63 then (if (wrap64 (x7 + 1)) < (x1.size : Int) then (if 0 ≤ (wrap64 (x7 + 1)) then (if (bt x1 (wrap64 (x7 + 1))) = 63 then (if x5.size + 1 ≤ 9223372036854775807 then (spec_Numbered.l0 k x0 x1 (x5 ++ (⟨#[63]⟩ : ByteArray)) x6 (wrap64 ((wrap64 (x7 + 1)) + 1))) else (none)) else ((spec_decimal.f k (wrap64 (x6 + 1))).bind fun t109 => (if x0.size + t109.size ≤ 9223372036854775807 then (if x5.size + (x0 ++ t109).size ≤ 9223372036854775807 then (spec_Numbered.l0 k x0 x1 (x5 ++ (x0 ++ t109)) (wrap64 (x6 + 1)) (wrap64 (x7 + 1))) else (none)) else (none)))) else (none)) else ((spec_decimal.f k (wrap64 (x6 + 1))).bind fun t110 => (if x0.size + t110.size ≤ 9223372036854775807 then (if x5.size + (x0 ++ t110).size ≤ 9223372036854775807 then (spec_Numbered.l0 k x0 x1 (x5 ++ (x0 ++ t110)) (wrap64 (x6 + 1)) (wrap64 (x7 + 1))) else (none)) else (none)))) else (if x7 ≤ (wrap64 (x7 + 1)) then (if (wrap64 (x7 + 1)) ≤ (x1.size : Int) then (if x5.size + (x1.extract (x7 : Int).toNat ((wrap64 (x7 + 1)) : Int).toNat).size ≤ 9223372036854775807 then (spec_Numbered.l0 k x0 x1 (x5 ++ (x1.extract (x7 : Int).toNat ((wrap64 (x7 + 1)) : Int).toNat)) x6 (wrap64 (x7 + 1))) else (none)) else (none)) else (none))) else (none)) else (some x5)
def spec_Numbered.f (k : Nat) (a0 : ByteArray) (a1 : ByteArray) : Option (ByteArray) := spec_Numbered.l0 k a0 a1 (⟨#[]⟩ : ByteArray) 0 0
theorem spec_Numbered.mono_l : ∀ k, (∀ y0 y1 y2 y3 y4, LeO (spec_Numbered.l0 k y0 y1 y2 y3 y4) (spec_Numbered.l0 (k + 1) y0 y1 y2 y3 y4))
  | 0 => fun _ _ _ _ _ r h => by simp [spec_Numbered.l0] at h
  | k + 1 => by
    have ih0 := spec_Numbered.mono_l k
    · intro y0 y1 y2 y3 y4
      unfold spec_Numbered.l0
      repeat' first
      | (with_reducible exact ih0 _ _ _ _ _)
      | (with_reducible exact spec_decimal.mono _ _)
      | (with_reducible exact LeO.refl _)
      | (with_reducible exact LeO.none _)
      | (with_reducible refine LeO.ite ?_ ?_)
      | (with_reducible refine LeO.bind ?_ (fun _ => ?_))
      | exact ih0 _ _ _ _ _
      | exact spec_decimal.mono _ _
      | exact LeO.none _
      | refine LeO.ite ?_ ?_
      | refine LeO.bind ?_ (fun _ => ?_)
theorem spec_Numbered.mono : ∀ a0 a1 k, LeO (spec_Numbered.f k a0 a1) (spec_Numbered.f (k + 1) a0 a1) := by
  intro a0 a1 k
  have ih0 := spec_Numbered.mono_l k
  unfold spec_Numbered.f
  repeat' first
      | (with_reducible exact ih0 _ _ _ _ _)
      | (with_reducible exact spec_decimal.mono _ _)
      | (with_reducible exact LeO.refl _)
      | (with_reducible exact LeO.none _)
      | (with_reducible refine LeO.ite ?_ ?_)
      | (with_reducible refine LeO.bind ?_ (fun _ => ?_))
      | exact ih0 _ _ _ _ _
      | exact spec_decimal.mono _ _
      | exact LeO.none _
      | refine LeO.ite ?_ ?_
      | refine LeO.bind ?_ (fun _ => ?_)
set_option maxHeartbeats 8000000 in
set_option maxRecDepth 100000 in
theorem spec_Numbered.calls (k : Nat) (a0 : ByteArray) (a1 : ByteArray) (r : ByteArray) (w : World) (h : spec_Numbered.f k a0 a1 = some r) :
    Calls Tryd.prog 9 #[.string a0, .string a1] w fun e w' => e = .returned (.string r) ∧ Below w.heap.size w w' := by
  have HB := Aside0.mk (Below.refl w.heap.size w)
  have H : (spec_Numbered.l0 k a0 a1 (⟨#[]⟩ : ByteArray) 0 0) = some r := h
  clear h
  have H' := Aside0.mk H
  clear H
  go_enter Tryd.func9, Tryd.ntmps9
  go_wp2
  go_loopg [5, 6, 7] k (fun kq v5 v6 v7 w' => ∃ (x5_1 : ByteArray) (x6_1 : Int) (x7_1 : Int), v5 = .string x5_1 ∧ v6 = .int .i64 x6_1 ∧ v7 = .int .i64 x7_1 ∧ Aside0 (spec_Numbered.l0 kq a0 a1 x5_1 x6_1 x7_1 = some r) ∧ Aside0 (kq ≤ k) ∧ Aside0 (Below w.heap.size w w'))
  case atStart => exact ⟨((⟨#[]⟩ : ByteArray)), (0), (0), (by first | rfl | (simp; done) | (simp [*]; done)), (by first | rfl | (simp; done) | (simp [*]; done)), (by first | rfl | (simp; done) | (simp [*]; done)), H', ⟨Nat.le_refl _⟩, ⟨by repeat (first | (with_reducible first | exact HB.out | apply below_alloc | apply pw_below_drewN | apply below_drew1) | exact HB.out)⟩⟩
  case round =>
    clear H'
    try clear p2
    obtain ⟨x5_1, x6_1, x7_1, rfl, rfl, rfl, HA, HK1, HB⟩ := hrel
    cases gk with
    | zero => exact absurd HA.out (by simp [spec_Numbered.l0])
    | succ k1 =>
      have H := HA.out
      clear HA
      simp only [spec_Numbered.l0] at H
      by_cases c3 : x7_1 < (a1.size : Int)
      · rw [if_pos c3] at H
        have c3b0 : decide (x7_1 < (a1.size : Int)) = true := decide_eq_true c3
        clear c3
        by_cases c4 : 0 ≤ x7_1
        · rw [if_pos c4] at H
          have c4b0 : decide (0 ≤ x7_1) = true := decide_eq_true c4
          clear c4
          by_cases c6 : (bt a1 x7_1) = 63
          · rw [if_pos c6] at H
            have c6b0 : ((bt a1 x7_1) == 63) = true := beq_iff_eq.mpr c6
            have c6b1 : ((bt a1 x7_1) != 63) = false := bne_eq_false_iff_eq.mpr c6
            clear c6
            by_cases c7 : (wrap64 (x7_1 + 1)) < (a1.size : Int)
            · rw [if_pos c7] at H
              have c7b0 : decide ((wrap64 (x7_1 + 1)) < (a1.size : Int)) = true := decide_eq_true c7
              clear c7
              obtain ⟨ji8, hji8⟩ : ∃ j_ : Int, (wrap64 (x7_1 + 1)) = j_ := ⟨_, rfl⟩
              replace H : (if 0 ≤ (ji8) then (if (bt a1 (ji8)) = 63 then (if x5_1.size + 1 ≤ 9223372036854775807 then (spec_Numbered.l0 k1 a0 a1 (x5_1 ++ (⟨#[63]⟩ : ByteArray)) x6_1 (wrap64 ((ji8) + 1))) else (none)) else ((spec_decimal.f k1 (wrap64 (x6_1 + 1))).bind fun t109 => (if a0.size + t109.size ≤ 9223372036854775807 then (if x5_1.size + (a0 ++ t109).size ≤ 9223372036854775807 then (spec_Numbered.l0 k1 a0 a1 (x5_1 ++ (a0 ++ t109)) (wrap64 (x6_1 + 1)) ji8) else (none)) else (none)))) else (none)) = some r := by first | (rw [hji8] at H; exact H) | (simp only [hji8] at H ⊢; exact H)
              (try rw [hji8] at c7b0)
              have hji8w : (IntKind.i64.wrap (x7_1 + 1)) = ji8 := (i64_w _).trans hji8
              by_cases c9 : 0 ≤ (ji8)
              · rw [if_pos c9] at H
                have c9b0 : decide (0 ≤ (ji8)) = true := decide_eq_true c9
                clear c9
                by_cases c11 : (bt a1 (ji8)) = 63
                · rw [if_pos c11] at H
                  have c11b0 : ((bt a1 (ji8)) == 63) = true := beq_iff_eq.mpr c11
                  have c11b1 : ((bt a1 (ji8)) != 63) = false := bne_eq_false_iff_eq.mpr c11
                  clear c11
                  by_cases c12 : x5_1.size + 1 ≤ 9223372036854775807
                  · rw [if_pos c12] at H
                    have c12b0 := eq_true c12
                    have c12b1 : decide (x5_1.size + 1 ≤ 9223372036854775807) = true := decide_eq_true c12
                    try have c12b2 : (9223372036854775807 < x5_1.size + 1) = False := eq_false (Nat.not_lt.2 c12)
                    have H' := Aside0.mk H
                    clear H
                    have p5 : 0 ≤ (x7_1 : Int) := of_decide_eq_true (by first | (with_reducible assumption) | assumption)
                    have q5 : x7_1 < (a1.size : Int) := of_decide_eq_true (by first | (with_reducible assumption) | assumption)
                    have hx5 := bt_at a1 x7_1
                    replace p5 := eq_true p5
                    replace q5 := eq_true q5
                    have p10 : 0 ≤ ((ji8) : Int) := of_decide_eq_true (by first | (with_reducible assumption) | assumption)
                    have q10 : (ji8) < (a1.size : Int) := of_decide_eq_true (by first | (with_reducible assumption) | assumption)
                    have hx10 := bt_at a1 (ji8)
                    replace p10 := eq_true p10
                    replace q10 := eq_true q10
                    go_wp2
                    go_roundg k1
                    case measure => have := HK1.out; omega
                    case rel => exact ⟨(x5_1 ++ (⟨#[63]⟩ : ByteArray)), (x6_1), (wrap64 ((ji8) + 1)), (by first | rfl | (simp; done) | (simp [*]; done)), (by first | rfl | (simp; done) | (simp [*]; done)), (by first | rfl | (simp; done) | (simp only [← hji8] <;> (first | rfl | simp)) | (simp [*]; done)), H', ⟨by have := HK1.out; omega⟩, ⟨by repeat (first | (with_reducible first | exact HB.out | apply below_alloc | apply pw_below_drewN | apply below_drew1) | exact HB.out)⟩⟩
                  · rw [if_neg c12] at H
                    exact absurd H (by simp)
                · rw [if_neg c11] at H
                  have c11b0 : ((bt a1 (ji8)) == 63) = false := beq_eq_false_iff_ne.mpr c11
                  have c11b1 : ((bt a1 (ji8)) != 63) = true := bne_iff_ne.mpr c11
                  replace H := Option.bind_eq_some_iff.mp H
                  obtain ⟨t109, A130, H⟩ := H
                  replace H : (if a0.size + t109.size ≤ 9223372036854775807 then (if x5_1.size + (a0 ++ t109).size ≤ 9223372036854775807 then (spec_Numbered.l0 k1 a0 a1 (x5_1 ++ (a0 ++ t109)) (wrap64 (x6_1 + 1)) ji8) else (none)) else (none)) = some r := H
                  have A13 := Aside0.mk A130
                  clear A130
                  by_cases c14 : a0.size + t109.size ≤ 9223372036854775807
                  · rw [if_pos c14] at H
                    have c14b0 := eq_true c14
                    have c14b1 : decide (a0.size + t109.size ≤ 9223372036854775807) = true := decide_eq_true c14
                    try have c14b2 : (9223372036854775807 < a0.size + t109.size) = False := eq_false (Nat.not_lt.2 c14)
                    by_cases c15 : x5_1.size + (a0 ++ t109).size ≤ 9223372036854775807
                    · rw [if_pos c15] at H
                      have c15b0 := eq_true c15
                      have c15b1 : decide (x5_1.size + (a0 ++ t109).size ≤ 9223372036854775807) = true := decide_eq_true c15
                      try have c15b2 : (9223372036854775807 < x5_1.size + (a0 ++ t109).size) = False := eq_false (Nat.not_lt.2 c15)
                      have H' := Aside0.mk H
                      clear H
                      have p5 : 0 ≤ (x7_1 : Int) := of_decide_eq_true (by first | (with_reducible assumption) | assumption)
                      have q5 : x7_1 < (a1.size : Int) := of_decide_eq_true (by first | (with_reducible assumption) | assumption)
                      have hx5 := bt_at a1 x7_1
                      replace p5 := eq_true p5
                      replace q5 := eq_true q5
                      have p10 : 0 ≤ ((ji8) : Int) := of_decide_eq_true (by first | (with_reducible assumption) | assumption)
                      have q10 : (ji8) < (a1.size : Int) := of_decide_eq_true (by first | (with_reducible assumption) | assumption)
                      have hx10 := bt_at a1 (ji8)
                      replace p10 := eq_true p10
                      replace q10 := eq_true q10
                      go_wp2_with (first | ((with_reducible refine gate_callee (f := 17) rfl ?_); refine goesL_ (some 19) rfl rfl Tryd.func17 (by kernel_rfl) rfl #[.int .i64 (wrap64 (x6_1 + 1))] rfl (by (try simp only [List.map_toArray, List.map_cons, List.map_nil]); first | done | rfl | (simp only [List.length_drop, List.length_take]; rfl)) ?_; (with_reducible refine (spec_decimal.calls k1 (wrap64 (x6_1 + 1)) t109 _ A13.out).mono ?_); rintro e w16 ⟨rfl, hb⟩; refine ⟨_, rfl, ?_⟩; have n0_ := Aside0.mk (below_step (by repeat (first | (with_reducible first | exact HB.out | apply below_alloc | apply pw_below_drewN | apply below_drew1) | exact HB.out)) hb); clear HB; have HB := n0_; clear n0_; (try clear hb); (try clear hb2); (try clear hk); (try clear hi)))
                      go_roundg k1
                      case measure => have := HK1.out; omega
                      case rel => exact ⟨(x5_1 ++ (a0 ++ t109)), (wrap64 (x6_1 + 1)), (ji8), (by first | rfl | (simp; done) | (simp [*]; done)), (by first | rfl | (simp; done) | (simp [*]; done)), (by first | rfl | (simp; done) | (simp only [← hji8] <;> (first | rfl | simp)) | (simp [*]; done)), H', ⟨by have := HK1.out; omega⟩, ⟨by repeat (first | (with_reducible first | exact HB.out | apply below_alloc | apply pw_below_drewN | apply below_drew1) | exact HB.out)⟩⟩
                    · rw [if_neg c15] at H
                      exact absurd H (by simp)
                  · rw [if_neg c14] at H
                    exact absurd H (by simp)
              · rw [if_neg c9] at H
                exact absurd H (by simp)
            · rw [if_neg c7] at H
              have c7b0 : decide ((wrap64 (x7_1 + 1)) < (a1.size : Int)) = false := decide_eq_false c7
              clear c7
              replace H := Option.bind_eq_some_iff.mp H
              obtain ⟨t110, A170, H⟩ := H
              replace H : (if a0.size + t110.size ≤ 9223372036854775807 then (if x5_1.size + (a0 ++ t110).size ≤ 9223372036854775807 then (spec_Numbered.l0 k1 a0 a1 (x5_1 ++ (a0 ++ t110)) (wrap64 (x6_1 + 1)) (wrap64 (x7_1 + 1))) else (none)) else (none)) = some r := H
              have A17 := Aside0.mk A170
              clear A170
              by_cases c18 : a0.size + t110.size ≤ 9223372036854775807
              · rw [if_pos c18] at H
                have c18b0 := eq_true c18
                have c18b1 : decide (a0.size + t110.size ≤ 9223372036854775807) = true := decide_eq_true c18
                try have c18b2 : (9223372036854775807 < a0.size + t110.size) = False := eq_false (Nat.not_lt.2 c18)
                by_cases c19 : x5_1.size + (a0 ++ t110).size ≤ 9223372036854775807
                · rw [if_pos c19] at H
                  have c19b0 := eq_true c19
                  have c19b1 : decide (x5_1.size + (a0 ++ t110).size ≤ 9223372036854775807) = true := decide_eq_true c19
                  try have c19b2 : (9223372036854775807 < x5_1.size + (a0 ++ t110).size) = False := eq_false (Nat.not_lt.2 c19)
                  have H' := Aside0.mk H
                  clear H
                  have p5 : 0 ≤ (x7_1 : Int) := of_decide_eq_true (by first | (with_reducible assumption) | assumption)
                  have q5 : x7_1 < (a1.size : Int) := of_decide_eq_true (by first | (with_reducible assumption) | assumption)
                  have hx5 := bt_at a1 x7_1
                  replace p5 := eq_true p5
                  replace q5 := eq_true q5
                  go_wp2_with (first | ((with_reducible refine gate_callee (f := 17) rfl ?_); refine goesL_ (some 19) rfl rfl Tryd.func17 (by kernel_rfl) rfl #[.int .i64 (wrap64 (x6_1 + 1))] rfl (by (try simp only [List.map_toArray, List.map_cons, List.map_nil]); first | done | rfl | (simp only [List.length_drop, List.length_take]; rfl)) ?_; (with_reducible refine (spec_decimal.calls k1 (wrap64 (x6_1 + 1)) t110 _ A17.out).mono ?_); rintro e w20 ⟨rfl, hb⟩; refine ⟨_, rfl, ?_⟩; have n0_ := Aside0.mk (below_step (by repeat (first | (with_reducible first | exact HB.out | apply below_alloc | apply pw_below_drewN | apply below_drew1) | exact HB.out)) hb); clear HB; have HB := n0_; clear n0_; (try clear hb); (try clear hb2); (try clear hk); (try clear hi)))
                  go_roundg k1
                  case measure => have := HK1.out; omega
                  case rel => exact ⟨(x5_1 ++ (a0 ++ t110)), (wrap64 (x6_1 + 1)), (wrap64 (x7_1 + 1)), (by first | rfl | (simp; done) | (simp [*]; done)), (by first | rfl | (simp; done) | (simp [*]; done)), (by first | rfl | (simp; done) | (simp [*]; done)), H', ⟨by have := HK1.out; omega⟩, ⟨by repeat (first | (with_reducible first | exact HB.out | apply below_alloc | apply pw_below_drewN | apply below_drew1) | exact HB.out)⟩⟩
                · rw [if_neg c19] at H
                  exact absurd H (by simp)
              · rw [if_neg c18] at H
                exact absurd H (by simp)
          · rw [if_neg c6] at H
            have c6b0 : ((bt a1 x7_1) == 63) = false := beq_eq_false_iff_ne.mpr c6
            have c6b1 : ((bt a1 x7_1) != 63) = true := bne_iff_ne.mpr c6
            have c21b0 := eq_true (of_decide_eq_true (by first | (with_reducible assumption) | assumption) : 0 ≤ x7_1)
            by_cases c22 : x7_1 ≤ (wrap64 (x7_1 + 1))
            · rw [if_pos c22] at H
              have c22b0 := eq_true c22
              have c22b1 : decide (x7_1 ≤ (wrap64 (x7_1 + 1))) = true := decide_eq_true c22
              by_cases c23 : (wrap64 (x7_1 + 1)) ≤ (a1.size : Int)
              · rw [if_pos c23] at H
                have c23b0 := eq_true c23
                have c23b1 : decide ((wrap64 (x7_1 + 1)) ≤ (a1.size : Int)) = true := decide_eq_true c23
                by_cases c24 : x5_1.size + (a1.extract (x7_1 : Int).toNat ((wrap64 (x7_1 + 1)) : Int).toNat).size ≤ 9223372036854775807
                · rw [if_pos c24] at H
                  have c24b0 := eq_true c24
                  have c24b1 : decide (x5_1.size + (a1.extract (x7_1 : Int).toNat ((wrap64 (x7_1 + 1)) : Int).toNat).size ≤ 9223372036854775807) = true := decide_eq_true c24
                  try have c24b2 : (9223372036854775807 < x5_1.size + (a1.extract (x7_1 : Int).toNat ((wrap64 (x7_1 + 1)) : Int).toNat).size) = False := eq_false (Nat.not_lt.2 c24)
                  have H' := Aside0.mk H
                  clear H
                  have p5 : 0 ≤ (x7_1 : Int) := of_decide_eq_true (by first | (with_reducible assumption) | assumption)
                  have q5 : x7_1 < (a1.size : Int) := of_decide_eq_true (by first | (with_reducible assumption) | assumption)
                  have hx5 := bt_at a1 x7_1
                  replace p5 := eq_true p5
                  replace q5 := eq_true q5
                  go_wp2
                  go_roundg k1
                  case measure => have := HK1.out; omega
                  case rel => exact ⟨(x5_1 ++ (a1.extract (x7_1 : Int).toNat ((wrap64 (x7_1 + 1)) : Int).toNat)), (x6_1), (wrap64 (x7_1 + 1)), (by first | rfl | (simp; done) | (simp [*]; done)), (by first | rfl | (simp; done) | (simp [*]; done)), (by first | rfl | (simp; done) | (simp [*]; done)), H', ⟨by have := HK1.out; omega⟩, ⟨by repeat (first | (with_reducible first | exact HB.out | apply below_alloc | apply pw_below_drewN | apply below_drew1) | exact HB.out)⟩⟩
                · rw [if_neg c24] at H
                  exact absurd H (by simp)
              · rw [if_neg c23] at H
                exact absurd H (by simp)
            · rw [if_neg c22] at H
              exact absurd H (by simp)
        · rw [if_neg c4] at H
          exact absurd H (by simp)
      · rw [if_neg c3] at H
        have c3b0 : decide (x7_1 < (a1.size : Int)) = false := decide_eq_false c3
        clear c3
        obtain rfl := Option.some.inj H
        go_wp2
        go_ret
        exact ⟨by first | rfl | (simp [errW_none, errW_some] <;> rfl) | (simp [*, errW_none, errW_some] <;> rfl), by repeat (first | (with_reducible first | exact HB.out | apply below_alloc | apply pw_below_drewN | apply below_drew1) | exact HB.out)⟩

end Go.Proofs.YtapnlnikeniomaaDoor.QP
