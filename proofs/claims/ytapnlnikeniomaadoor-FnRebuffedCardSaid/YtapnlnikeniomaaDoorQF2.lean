-- WRITTEN BY A PROGRAM OF THIS SESSION (wip/print2.py): the print, with contracts of this session's own let in. Not trusted: Lean checks it.
import Derived.Test.YtapnlnikeniomaaDoorQF0
import Derived.Test.YtapnlnikeniomaaDoorQF1
namespace Go.Proofs.YtapnlnikeniomaaDoor.QF
open Go.RowKit Go.Proofs.YtapnlnikeniomaaDoorW.PrintWords Go.Proofs.YtapnlnikeniomaaDoorW.PrintLast Go.Proofs.YtapnlnikeniomaaDoorW.PrintMore
attribute [local go_sem] max2_int min2_int max_two min_two max_three min_three max_four min_four   -- for this text's walks alone
set_option linter.unusedVariables false
set_option linter.unusedSimpArgs false

/-! ### spec_Rebound: function 12 -/
mutual
def spec_Rebound.j0 : Nat → Int → ByteArray → Bool → Option (ByteArray)
  | 0, _, _, _ => none
  | k + 1, x0, x1, x17 => if x17 = true then (some x1) else (spec_Rebound.l0 k x0 x1 (⟨#[]⟩ : ByteArray) 0 0)
def spec_Rebound.l0 : Nat → Int → ByteArray → ByteArray → Int → Int → Option (ByteArray)
  | 0, _, _, _, _, _ => none
  | k + 1, x0, x1, x5, x6, x7 => if x7 < (x1.size : Int) then (if 0 ≤ x7 then (if (bt x1 x7) = 63 then ((spec_decimal.f k (wrap64 (x6 + 1))).bind fun t110 => (if 3 + t110.size ≤ 9223372036854775807 then ((spec_Mark.f k x0 (wrap64 (x6 + 1)) ((⟨#[97, 114, 103]⟩ : ByteArray) ++ t110)).bind fun t111 => (if x5.size + t111.size ≤ 9223372036854775807 then (spec_Rebound.l0 k x0 x1 (x5 ++ t111) (wrap64 (x6 + 1)) (wrap64 (x7 + 1))) else (none))) else (none))) else (if x7 ≤ (wrap64 (x7 + 1)) then (if (wrap64 (x7 + 1)) ≤ (x1.size : Int) then (if x5.size + (x1.extract (x7 : Int).toNat ((wrap64 (x7 + 1)) : Int).toNat).size ≤ 9223372036854775807 then (spec_Rebound.l0 k x0 x1 (x5 ++ (x1.extract (x7 : Int).toNat ((wrap64 (x7 + 1)) : Int).toNat)) x6 (wrap64 (x7 + 1))) else (none)) else (none)) else (none))) else (none)) else (some x5)
end
def spec_Rebound.f (k : Nat) (a0 : Int) (a1 : ByteArray) : Option (ByteArray) := if a0 = 2 then (spec_Rebound.j0 k a0 a1 false) else (if a0 = 4 then (spec_Rebound.j0 k a0 a1 false) else (spec_Rebound.j0 k a0 a1 (a0 != 3)))
theorem spec_Rebound.mono_l : ∀ k, (∀ y0 y1 y2, LeO (spec_Rebound.j0 k y0 y1 y2) (spec_Rebound.j0 (k + 1) y0 y1 y2)) ∧ (∀ y0 y1 y2 y3 y4, LeO (spec_Rebound.l0 k y0 y1 y2 y3 y4) (spec_Rebound.l0 (k + 1) y0 y1 y2 y3 y4))
  | 0 => ⟨fun _ _ _ r h => by simp [spec_Rebound.j0] at h, fun _ _ _ _ _ r h => by simp [spec_Rebound.l0] at h⟩
  | k + 1 => by
    obtain ⟨ih0, ih1⟩ := spec_Rebound.mono_l k
    refine ⟨?_, ?_⟩
    · intro y0 y1 y2
      unfold spec_Rebound.j0
      repeat' first
      | (with_reducible exact ih0 _ _ _)
      | (with_reducible exact ih1 _ _ _ _ _)
      | (with_reducible exact spec_Mark.mono _ _ _ _)
      | (with_reducible exact spec_decimal.mono _ _)
      | (with_reducible exact LeO.refl _)
      | (with_reducible exact LeO.none _)
      | (with_reducible refine LeO.ite ?_ ?_)
      | (with_reducible refine LeO.bind ?_ (fun _ => ?_))
      | exact ih0 _ _ _
      | exact ih1 _ _ _ _ _
      | exact spec_Mark.mono _ _ _ _
      | exact spec_decimal.mono _ _
      | exact LeO.none _
      | refine LeO.ite ?_ ?_
      | refine LeO.bind ?_ (fun _ => ?_)
    · intro y0 y1 y2 y3 y4
      unfold spec_Rebound.l0
      repeat' first
      | (with_reducible exact ih0 _ _ _)
      | (with_reducible exact ih1 _ _ _ _ _)
      | (with_reducible exact spec_Mark.mono _ _ _ _)
      | (with_reducible exact spec_decimal.mono _ _)
      | (with_reducible exact LeO.refl _)
      | (with_reducible exact LeO.none _)
      | (with_reducible refine LeO.ite ?_ ?_)
      | (with_reducible refine LeO.bind ?_ (fun _ => ?_))
      | exact ih0 _ _ _
      | exact ih1 _ _ _ _ _
      | exact spec_Mark.mono _ _ _ _
      | exact spec_decimal.mono _ _
      | exact LeO.none _
      | refine LeO.ite ?_ ?_
      | refine LeO.bind ?_ (fun _ => ?_)
theorem spec_Rebound.mono : ∀ a0 a1 k, LeO (spec_Rebound.f k a0 a1) (spec_Rebound.f (k + 1) a0 a1) := by
  intro a0 a1 k
  obtain ⟨ih0, ih1⟩ := spec_Rebound.mono_l k
  unfold spec_Rebound.f
  repeat' first
      | (with_reducible exact ih0 _ _ _)
      | (with_reducible exact ih1 _ _ _ _ _)
      | (with_reducible exact spec_Mark.mono _ _ _ _)
      | (with_reducible exact spec_decimal.mono _ _)
      | (with_reducible exact LeO.refl _)
      | (with_reducible exact LeO.none _)
      | (with_reducible refine LeO.ite ?_ ?_)
      | (with_reducible refine LeO.bind ?_ (fun _ => ?_))
      | exact ih0 _ _ _
      | exact ih1 _ _ _ _ _
      | exact spec_Mark.mono _ _ _ _
      | exact spec_decimal.mono _ _
      | exact LeO.none _
      | refine LeO.ite ?_ ?_
      | refine LeO.bind ?_ (fun _ => ?_)
set_option maxHeartbeats 8000000 in
set_option maxRecDepth 100000 in
theorem spec_Rebound.calls (k : Nat) (a0 : Int) (a1 : ByteArray) (r : ByteArray) (w : World) (h : spec_Rebound.f k a0 a1 = some r) :
    Calls Tryd.prog 12 #[.int .i64 a0, .string a1] w fun e w' => e = .returned (.string r) ∧ Below w.heap.size w w' := by
  have HB := Aside0.mk (Below.refl w.heap.size w)
  have H : (if a0 = 2 then (spec_Rebound.j0 k a0 a1 false) else (if a0 = 4 then (spec_Rebound.j0 k a0 a1 false) else (spec_Rebound.j0 k a0 a1 (a0 != 3)))) = some r := h
  clear h
  have HC3 := Aside0.mk H
  clear H
  go_enter Tryd.func12, Tryd.ntmps12
  go_upto_region 1 with (fail)
  go_cut [17] (fun v17 wc => ∃ (kq : Nat) (x17_2 : Bool), v17 = .bool x17_2 ∧ Aside0 (spec_Rebound.j0 kq a0 a1 x17_2 = some r) ∧ Aside0 (kq ≤ k) ∧ Aside0 (Below w.heap.size w wc))
  case first =>
    have H := HC3.out
    clear HC3
    by_cases c4 : a0 = 2
    · rw [if_pos c4] at H
      have c4b0 : (a0 == 2) = true := beq_iff_eq.mpr c4
      have c4b1 : (a0 != 2) = false := bne_eq_false_iff_eq.mpr c4
      clear c4
      (first | rw [c4b0] | (simp only [i64_w, i32_w]; rw [c4b0]) | skip)
      have H' := Aside0.mk H
      clear H
      go_wp2
      go_meet
      case rel => exact ⟨_, (false), (by first | rfl | (simp; done) | (simp [*]; done)), H', ⟨by first | omega | exact Nat.le_refl _⟩, ⟨by repeat (first | (with_reducible first | exact HB.out | apply below_alloc | apply pw_below_drewN | apply below_drew1) | exact HB.out)⟩⟩
    · rw [if_neg c4] at H
      have c4b0 : (a0 == 2) = false := beq_eq_false_iff_ne.mpr c4
      have c4b1 : (a0 != 2) = true := bne_iff_ne.mpr c4
      (first | rw [c4b0] | (simp only [i64_w, i32_w]; rw [c4b0]) | skip)
      by_cases c5 : a0 = 4
      · rw [if_pos c5] at H
        have c5b0 : (a0 == 4) = true := beq_iff_eq.mpr c5
        have c5b1 : (a0 != 4) = false := bne_eq_false_iff_eq.mpr c5
        clear c5
        have H' := Aside0.mk H
        clear H
        go_wp2
        go_meet
        case rel => exact ⟨_, (false), (by first | rfl | (simp; done) | (simp [*]; done)), H', ⟨by first | omega | exact Nat.le_refl _⟩, ⟨by repeat (first | (with_reducible first | exact HB.out | apply below_alloc | apply pw_below_drewN | apply below_drew1) | exact HB.out)⟩⟩
      · rw [if_neg c5] at H
        have c5b0 : (a0 == 4) = false := beq_eq_false_iff_ne.mpr c5
        have c5b1 : (a0 != 4) = true := bne_iff_ne.mpr c5
        have H' := Aside0.mk H
        clear H
        go_wp2
        go_meet
        case rel => exact ⟨_, ((a0 != 3)), (by first | rfl | (simp; done) | (simp [*]; done)), H', ⟨by first | omega | exact Nat.le_refl _⟩, ⟨by repeat (first | (with_reducible first | exact HB.out | apply below_alloc | apply pw_below_drewN | apply below_drew1) | exact HB.out)⟩⟩
  case rest =>
    clear HC3
    try clear c1
    try clear p2
    try clear c4
    try clear c4b0
    try clear c4b1
    try clear c5
    try clear c5b0
    try clear c5b1
    obtain ⟨kq, x17_2, rfl, HA, HJ2, HB⟩ := hcut
    cases kq with
    | zero => exact absurd HA.out (by simp [spec_Rebound.j0])
    | succ kj2 =>
      have H := HA.out
      clear HA
      simp only [spec_Rebound.j0] at H
      by_cases c6 : x17_2 = true
      · subst c6
        have H1 : (some a1) = some r := by rw [if_pos rfl] at H; exact H
        clear H
        have H := H1
        clear H1
        obtain rfl := Option.some.inj H
        go_wp2
        go_ret
        exact ⟨by first | rfl | (simp [errW_none, errW_some] <;> rfl) | (simp [*, errW_none, errW_some] <;> rfl), by repeat (first | (with_reducible first | exact HB.out | apply below_alloc | apply pw_below_drewN | apply below_drew1) | exact HB.out)⟩
      · replace c6 := Bool.eq_false_iff.mpr c6
        subst c6
        have H1 : (spec_Rebound.l0 kj2 a0 a1 (⟨#[]⟩ : ByteArray) 0 0) = some r := by rw [if_neg (show ¬ (false = true) by decide)] at H; exact H
        clear H
        have H := H1
        clear H1
        have H' := Aside0.mk H
        clear H
        go_wp2
        go_loopg [5, 6, 7] kj2 (fun kq v5 v6 v7 w' => ∃ (x5_2 : ByteArray) (x6_2 : Int) (x7_2 : Int), v5 = .string x5_2 ∧ v6 = .int .i64 x6_2 ∧ v7 = .int .i64 x7_2 ∧ Aside0 (spec_Rebound.l0 kq a0 a1 x5_2 x6_2 x7_2 = some r) ∧ Aside0 (kq ≤ kj2) ∧ Aside0 (Below w.heap.size w w'))
        case atStart => exact ⟨((⟨#[]⟩ : ByteArray)), (0), (0), (by first | rfl | (simp; done) | (simp [*]; done)), (by first | rfl | (simp; done) | (simp [*]; done)), (by first | rfl | (simp; done) | (simp [*]; done)), H', ⟨Nat.le_refl _⟩, ⟨by repeat (first | (with_reducible first | exact HB.out | apply below_alloc | apply pw_below_drewN | apply below_drew1) | exact HB.out)⟩⟩
        case round =>
          clear H'
          try clear c1
          try clear p2
          try clear c4
          try clear c4b0
          try clear c4b1
          try clear c5
          try clear c5b0
          try clear c5b1
          try clear c6
          try clear p2
          obtain ⟨x5_2, x6_2, x7_2, rfl, rfl, rfl, HA, HK2, HB⟩ := hrel
          cases gk with
          | zero => exact absurd HA.out (by simp [spec_Rebound.l0])
          | succ k2 =>
            have H := HA.out
            clear HA
            simp only [spec_Rebound.l0] at H
            by_cases c7 : x7_2 < (a1.size : Int)
            · rw [if_pos c7] at H
              have c7b0 : decide (x7_2 < (a1.size : Int)) = true := decide_eq_true c7
              clear c7
              by_cases c8 : 0 ≤ x7_2
              · rw [if_pos c8] at H
                have c8b0 : decide (0 ≤ x7_2) = true := decide_eq_true c8
                clear c8
                by_cases c10 : (bt a1 x7_2) = 63
                · rw [if_pos c10] at H
                  have c10b0 : ((bt a1 x7_2) == 63) = true := beq_iff_eq.mpr c10
                  have c10b1 : ((bt a1 x7_2) != 63) = false := bne_eq_false_iff_eq.mpr c10
                  clear c10
                  replace H := Option.bind_eq_some_iff.mp H
                  obtain ⟨t110, A110, H⟩ := H
                  replace H : (if 3 + t110.size ≤ 9223372036854775807 then ((spec_Mark.f k2 a0 (wrap64 (x6_2 + 1)) ((⟨#[97, 114, 103]⟩ : ByteArray) ++ t110)).bind fun t111 => (if x5_2.size + t111.size ≤ 9223372036854775807 then (spec_Rebound.l0 k2 a0 a1 (x5_2 ++ t111) (wrap64 (x6_2 + 1)) (wrap64 (x7_2 + 1))) else (none))) else (none)) = some r := H
                  have A11 := Aside0.mk A110
                  clear A110
                  by_cases c12 : 3 + t110.size ≤ 9223372036854775807
                  · rw [if_pos c12] at H
                    have c12b0 := eq_true c12
                    have c12b1 : decide (3 + t110.size ≤ 9223372036854775807) = true := decide_eq_true c12
                    try have c12b2 : (9223372036854775807 < 3 + t110.size) = False := eq_false (Nat.not_lt.2 c12)
                    replace H := Option.bind_eq_some_iff.mp H
                    obtain ⟨t111, A130, H⟩ := H
                    replace H : (if x5_2.size + t111.size ≤ 9223372036854775807 then (spec_Rebound.l0 k2 a0 a1 (x5_2 ++ t111) (wrap64 (x6_2 + 1)) (wrap64 (x7_2 + 1))) else (none)) = some r := H
                    have A13 := Aside0.mk A130
                    clear A130
                    by_cases c14 : x5_2.size + t111.size ≤ 9223372036854775807
                    · rw [if_pos c14] at H
                      have c14b0 := eq_true c14
                      have c14b1 : decide (x5_2.size + t111.size ≤ 9223372036854775807) = true := decide_eq_true c14
                      try have c14b2 : (9223372036854775807 < x5_2.size + t111.size) = False := eq_false (Nat.not_lt.2 c14)
                      have H' := Aside0.mk H
                      clear H
                      have p9 : 0 ≤ (x7_2 : Int) := of_decide_eq_true (by first | (with_reducible assumption) | assumption)
                      have q9 : x7_2 < (a1.size : Int) := of_decide_eq_true (by first | (with_reducible assumption) | assumption)
                      have hx9 := bt_at a1 x7_2
                      replace p9 := eq_true p9
                      replace q9 := eq_true q9
                      go_wp2_with (first | ((with_reducible refine gate_callee (f := 17) rfl ?_); refine goesL_ (some 42) rfl rfl Tryd.func17 (by kernel_rfl) rfl #[.int .i64 (wrap64 (x6_2 + 1))] rfl (by (try simp only [List.map_toArray, List.map_cons, List.map_nil]); first | done | rfl | (simp only [List.length_drop, List.length_take]; rfl)) ?_; (with_reducible refine (spec_decimal.calls k2 (wrap64 (x6_2 + 1)) t110 _ A11.out).mono ?_); rintro e w15 ⟨rfl, hb⟩; refine ⟨_, rfl, ?_⟩; have n0_ := Aside0.mk (below_step (by repeat (first | (with_reducible first | exact HB.out | apply below_alloc | apply pw_below_drewN | apply below_drew1) | exact HB.out)) hb); clear HB; have HB := n0_; clear n0_; (try clear hb); (try clear hb2); (try clear hk); (try clear hi)) | ((with_reducible refine gate_callee (f := 20) rfl ?_); refine goesL_ (some 44) rfl rfl Tryd.func20 (by kernel_rfl) rfl #[.int .i64 a0, .int .i64 (wrap64 (x6_2 + 1)), .string ((⟨#[97, 114, 103]⟩ : ByteArray) ++ t110)] rfl (by (try simp only [List.map_toArray, List.map_cons, List.map_nil]); first | done | rfl | (simp only [List.length_drop, List.length_take]; rfl)) ?_; (with_reducible refine (spec_Mark.calls k2 a0 (wrap64 (x6_2 + 1)) ((⟨#[97, 114, 103]⟩ : ByteArray) ++ t110) t111 _ A13.out).mono ?_); rintro e w16 ⟨rfl, hb⟩; refine ⟨_, rfl, ?_⟩; have n0_ := Aside0.mk (below_step (by repeat (first | (with_reducible first | exact HB.out | apply below_alloc | apply pw_below_drewN | apply below_drew1) | exact HB.out)) hb); clear HB; have HB := n0_; clear n0_; (try clear hb); (try clear hb2); (try clear hk); (try clear hi)))
                      go_roundg k2
                      case measure => have := HJ2.out; have := HK2.out; omega
                      case rel => exact ⟨(x5_2 ++ t111), (wrap64 (x6_2 + 1)), (wrap64 (x7_2 + 1)), (by first | rfl | (simp; done) | (simp [*]; done)), (by first | rfl | (simp; done) | (simp [*]; done)), (by first | rfl | (simp; done) | (simp [*]; done)), H', ⟨by have := HJ2.out; have := HK2.out; omega⟩, ⟨by repeat (first | (with_reducible first | exact HB.out | apply below_alloc | apply pw_below_drewN | apply below_drew1) | exact HB.out)⟩⟩
                    · rw [if_neg c14] at H
                      exact absurd H (by simp)
                  · rw [if_neg c12] at H
                    exact absurd H (by simp)
                · rw [if_neg c10] at H
                  have c10b0 : ((bt a1 x7_2) == 63) = false := beq_eq_false_iff_ne.mpr c10
                  have c10b1 : ((bt a1 x7_2) != 63) = true := bne_iff_ne.mpr c10
                  have c17b0 := eq_true (of_decide_eq_true (by first | (with_reducible assumption) | assumption) : 0 ≤ x7_2)
                  by_cases c18 : x7_2 ≤ (wrap64 (x7_2 + 1))
                  · rw [if_pos c18] at H
                    have c18b0 := eq_true c18
                    have c18b1 : decide (x7_2 ≤ (wrap64 (x7_2 + 1))) = true := decide_eq_true c18
                    by_cases c19 : (wrap64 (x7_2 + 1)) ≤ (a1.size : Int)
                    · rw [if_pos c19] at H
                      have c19b0 := eq_true c19
                      have c19b1 : decide ((wrap64 (x7_2 + 1)) ≤ (a1.size : Int)) = true := decide_eq_true c19
                      by_cases c20 : x5_2.size + (a1.extract (x7_2 : Int).toNat ((wrap64 (x7_2 + 1)) : Int).toNat).size ≤ 9223372036854775807
                      · rw [if_pos c20] at H
                        have c20b0 := eq_true c20
                        have c20b1 : decide (x5_2.size + (a1.extract (x7_2 : Int).toNat ((wrap64 (x7_2 + 1)) : Int).toNat).size ≤ 9223372036854775807) = true := decide_eq_true c20
                        try have c20b2 : (9223372036854775807 < x5_2.size + (a1.extract (x7_2 : Int).toNat ((wrap64 (x7_2 + 1)) : Int).toNat).size) = False := eq_false (Nat.not_lt.2 c20)
                        have H' := Aside0.mk H
                        clear H
                        have p9 : 0 ≤ (x7_2 : Int) := of_decide_eq_true (by first | (with_reducible assumption) | assumption)
                        have q9 : x7_2 < (a1.size : Int) := of_decide_eq_true (by first | (with_reducible assumption) | assumption)
                        have hx9 := bt_at a1 x7_2
                        replace p9 := eq_true p9
                        replace q9 := eq_true q9
                        go_wp2
                        go_roundg k2
                        case measure => have := HJ2.out; have := HK2.out; omega
                        case rel => exact ⟨(x5_2 ++ (a1.extract (x7_2 : Int).toNat ((wrap64 (x7_2 + 1)) : Int).toNat)), (x6_2), (wrap64 (x7_2 + 1)), (by first | rfl | (simp; done) | (simp [*]; done)), (by first | rfl | (simp; done) | (simp [*]; done)), (by first | rfl | (simp; done) | (simp [*]; done)), H', ⟨by have := HJ2.out; have := HK2.out; omega⟩, ⟨by repeat (first | (with_reducible first | exact HB.out | apply below_alloc | apply pw_below_drewN | apply below_drew1) | exact HB.out)⟩⟩
                      · rw [if_neg c20] at H
                        exact absurd H (by simp)
                    · rw [if_neg c19] at H
                      exact absurd H (by simp)
                  · rw [if_neg c18] at H
                    exact absurd H (by simp)
              · rw [if_neg c8] at H
                exact absurd H (by simp)
            · rw [if_neg c7] at H
              have c7b0 : decide (x7_2 < (a1.size : Int)) = false := decide_eq_false c7
              clear c7
              obtain rfl := Option.some.inj H
              go_wp2
              go_ret
              exact ⟨by first | rfl | (simp [errW_none, errW_some] <;> rfl) | (simp [*, errW_none, errW_some] <;> rfl), by repeat (first | (with_reducible first | exact HB.out | apply below_alloc | apply pw_below_drewN | apply below_drew1) | exact HB.out)⟩

end Go.Proofs.YtapnlnikeniomaaDoor.QF
