-- WRITTEN BY A PROGRAM OF THIS SESSION (wip/print2.py): the print, with contracts of this session's own let in. Not trusted: Lean checks it.
import Derived.Test.YtmiggjncmeomlaaQS0
namespace Go.Proofs.Ytmiggjncmeomlaa.QS
open Go.RowKit Go.Proofs.YtmiggjncmeomlaaW.PrintWords Go.Proofs.YtmiggjncmeomlaaW.PrintLast Go.Proofs.YtmiggjncmeomlaaW.PrintMore
attribute [local go_sem] max2_int min2_int max_two min_two max_three min_three max_four min_four   -- for this text's walks alone
set_option linter.unusedVariables false
set_option linter.unusedSimpArgs false

/-! ### laws_zzFits2: function 5 -/
def laws_zzFits2.f (a0_0 : Int) (a0_1 : Int) (a0_2 : ByteArray) (l0_3 : List (S24)) : Option (Bool) := if (a0_2.size : Int) > 2147483647 then (some false) else (if (l0_3.length : Int) > 2147483647 then (some false) else (some true))
set_option maxHeartbeats 8000000 in
set_option maxRecDepth 100000 in
theorem laws_zzFits2.calls (a0_0 : Int) (a0_1 : Int) (a0_2 : ByteArray) (A0_3 : Option Addr) (c0_3 : Nat) (l0_3 : List (S24)) (r : Bool) (w : World) (hr0_3 : Kd.C k24 w A0_3 l0_3.length l0_3) (hc0_3 : l0_3.length ≤ c0_3) (h : laws_zzFits2.f a0_0 a0_1 a0_2 l0_3 = some r) :
    Calls Try.prog 5 #[.agg #[.int .i64 a0_0, .int .i64 a0_1, .string a0_2, .slice A0_3 l0_3.length c0_3]] w fun e w' => e = .returned (.bool r) ∧ Below w.heap.size w w' := by
  have hu24 := Try.underlying24
  have HR0_3 := Aside0.mk hr0_3
  have HC0_3 := Aside0.mk hc0_3
  clear hr0_3 hc0_3
  have HB := Aside0.mk (Below.refl w.heap.size w)
  have H : (if (a0_2.size : Int) > 2147483647 then (some false) else (if (l0_3.length : Int) > 2147483647 then (some false) else (some true))) = some r := h
  clear h
  by_cases c2 : (a0_2.size : Int) > 2147483647
  · rw [if_pos c2] at H
    have c2b0 : decide (2147483647 < (a0_2.size : Int)) = true := decide_eq_true c2
    have c2b1 : decide (2147483647 < a0_2.size) = true := decide_eq_true (by omega)
    clear c2
    obtain rfl := Option.some.inj H
    go_enter Try.func5, Try.ntmps5
    go_wp2_with (first | ((with_reducible refine gate_dst (N := 1) rfl ?_); refine box_event ?hg (N := 1) ?hd (cs := #[.int .i64 a0_0, .int .i64 a0_1, .string a0_2, .slice A0_3 l0_3.length c0_3]) (t := 24) ?hr ?_; (case hd => rfl); (case hg => rfl); (case hr => first | (go_simp; done) | (go_simp; rfl)); intro gb101 hg w3 hbox hb; have n0_ := Aside0.mk (below_step (by repeat (first | (with_reducible first | exact HB.out | apply below_alloc | apply pw_below_drewN | apply below_drew1) | exact HB.out)) hb); have n1_ := Aside0.mk (hbox); have n2_ := Aside0.mk ((by rw [hg]; exact (below_size (by repeat (first | (with_reducible first | exact HB.out | apply below_alloc | apply pw_below_drewN | apply below_drew1) | exact HB.out))) : w.heap.size ≤ gb101)); have n3_ := Aside0.mk ((by rw [hg]; exact (below_size (by repeat (first | (with_reducible first | exact HB.out | apply below_alloc | apply pw_below_drewN | apply below_drew1) | exact HB.out))) : w.heap.size ≤ gb101)); clear HB; have HB := n0_; have BK101 := n1_; have GW101 := n2_; have GE101 := n3_; clear n0_ n1_ n2_ n3_; clear hb hbox hg; have hcz4_0 : w3.cell? ⟨gb101, 0, none⟩ = some (.int .i64 a0_0) := (blk_cell BK101.out 0).trans rfl; have hcz4_1 : w3.cell? ⟨gb101, 1, none⟩ = some (.int .i64 a0_1) := (blk_cell BK101.out 1).trans rfl; have hcz4_2 : w3.cell? ⟨gb101, 2, none⟩ = some (.string a0_2) := (blk_cell BK101.out 2).trans rfl; have hcz4_3 : w3.cell? ⟨gb101, 3, none⟩ = some (.slice A0_3 l0_3.length c0_3) := (blk_cell BK101.out 3).trans rfl; have hfz4_0 := blk_frozen BK101.out 0; have hfz4_1 := blk_frozen BK101.out 1; have hfz4_2 := blk_frozen BK101.out 2; have hfz4_3 := blk_frozen BK101.out 3))
    go_ret
    exact ⟨by first | rfl | (simp [errW_none, errW_some] <;> rfl) | (simp [*, errW_none, errW_some] <;> rfl), by repeat (first | (with_reducible first | exact HB.out | apply below_alloc | apply pw_below_drewN | apply below_drew1 | refine below_set ?_ GE101.out) | exact HB.out)⟩
  · rw [if_neg c2] at H
    have c2b0 : decide (2147483647 < (a0_2.size : Int)) = false := decide_eq_false c2
    have c2b1 : decide (2147483647 < a0_2.size) = false := decide_eq_false (by omega)
    clear c2
    by_cases c5 : (l0_3.length : Int) > 2147483647
    · rw [if_pos c5] at H
      have c5b0 : decide (2147483647 < (l0_3.length : Int)) = true := decide_eq_true c5
      have c5b1 : decide (2147483647 < l0_3.length) = true := decide_eq_true (by omega)
      clear c5
      obtain rfl := Option.some.inj H
      go_enter Try.func5, Try.ntmps5
      go_wp2_with (first | ((with_reducible refine gate_dst (N := 1) rfl ?_); refine box_event ?hg (N := 1) ?hd (cs := #[.int .i64 a0_0, .int .i64 a0_1, .string a0_2, .slice A0_3 l0_3.length c0_3]) (t := 24) ?hr ?_; (case hd => rfl); (case hg => rfl); (case hr => first | (go_simp; done) | (go_simp; rfl)); intro gb101 hg w6 hbox hb; have n0_ := Aside0.mk (below_step (by repeat (first | (with_reducible first | exact HB.out | apply below_alloc | apply pw_below_drewN | apply below_drew1) | exact HB.out)) hb); have n1_ := Aside0.mk (hbox); have n2_ := Aside0.mk ((by rw [hg]; exact (below_size (by repeat (first | (with_reducible first | exact HB.out | apply below_alloc | apply pw_below_drewN | apply below_drew1) | exact HB.out))) : w.heap.size ≤ gb101)); have n3_ := Aside0.mk ((by rw [hg]; exact (below_size (by repeat (first | (with_reducible first | exact HB.out | apply below_alloc | apply pw_below_drewN | apply below_drew1) | exact HB.out))) : w.heap.size ≤ gb101)); clear HB; have HB := n0_; have BK101 := n1_; have GW101 := n2_; have GE101 := n3_; clear n0_ n1_ n2_ n3_; clear hb hbox hg; have hcz7_0 : w6.cell? ⟨gb101, 0, none⟩ = some (.int .i64 a0_0) := (blk_cell BK101.out 0).trans rfl; have hcz7_1 : w6.cell? ⟨gb101, 1, none⟩ = some (.int .i64 a0_1) := (blk_cell BK101.out 1).trans rfl; have hcz7_2 : w6.cell? ⟨gb101, 2, none⟩ = some (.string a0_2) := (blk_cell BK101.out 2).trans rfl; have hcz7_3 : w6.cell? ⟨gb101, 3, none⟩ = some (.slice A0_3 l0_3.length c0_3) := (blk_cell BK101.out 3).trans rfl; have hfz7_0 := blk_frozen BK101.out 0; have hfz7_1 := blk_frozen BK101.out 1; have hfz7_2 := blk_frozen BK101.out 2; have hfz7_3 := blk_frozen BK101.out 3))
      go_ret
      exact ⟨by first | rfl | (simp [errW_none, errW_some] <;> rfl) | (simp [*, errW_none, errW_some] <;> rfl), by repeat (first | (with_reducible first | exact HB.out | apply below_alloc | apply pw_below_drewN | apply below_drew1 | refine below_set ?_ GE101.out) | exact HB.out)⟩
    · rw [if_neg c5] at H
      have c5b0 : decide (2147483647 < (l0_3.length : Int)) = false := decide_eq_false c5
      have c5b1 : decide (2147483647 < l0_3.length) = false := decide_eq_false (by omega)
      clear c5
      obtain rfl := Option.some.inj H
      go_enter Try.func5, Try.ntmps5
      go_wp2_with (first | ((with_reducible refine gate_dst (N := 1) rfl ?_); refine box_event ?hg (N := 1) ?hd (cs := #[.int .i64 a0_0, .int .i64 a0_1, .string a0_2, .slice A0_3 l0_3.length c0_3]) (t := 24) ?hr ?_; (case hd => rfl); (case hg => rfl); (case hr => first | (go_simp; done) | (go_simp; rfl)); intro gb101 hg w8 hbox hb; have n0_ := Aside0.mk (below_step (by repeat (first | (with_reducible first | exact HB.out | apply below_alloc | apply pw_below_drewN | apply below_drew1) | exact HB.out)) hb); have n1_ := Aside0.mk (hbox); have n2_ := Aside0.mk ((by rw [hg]; exact (below_size (by repeat (first | (with_reducible first | exact HB.out | apply below_alloc | apply pw_below_drewN | apply below_drew1) | exact HB.out))) : w.heap.size ≤ gb101)); have n3_ := Aside0.mk ((by rw [hg]; exact (below_size (by repeat (first | (with_reducible first | exact HB.out | apply below_alloc | apply pw_below_drewN | apply below_drew1) | exact HB.out))) : w.heap.size ≤ gb101)); clear HB; have HB := n0_; have BK101 := n1_; have GW101 := n2_; have GE101 := n3_; clear n0_ n1_ n2_ n3_; clear hb hbox hg; have hcz9_0 : w8.cell? ⟨gb101, 0, none⟩ = some (.int .i64 a0_0) := (blk_cell BK101.out 0).trans rfl; have hcz9_1 : w8.cell? ⟨gb101, 1, none⟩ = some (.int .i64 a0_1) := (blk_cell BK101.out 1).trans rfl; have hcz9_2 : w8.cell? ⟨gb101, 2, none⟩ = some (.string a0_2) := (blk_cell BK101.out 2).trans rfl; have hcz9_3 : w8.cell? ⟨gb101, 3, none⟩ = some (.slice A0_3 l0_3.length c0_3) := (blk_cell BK101.out 3).trans rfl; have hfz9_0 := blk_frozen BK101.out 0; have hfz9_1 := blk_frozen BK101.out 1; have hfz9_2 := blk_frozen BK101.out 2; have hfz9_3 := blk_frozen BK101.out 3))
      go_ret
      exact ⟨by first | rfl | (simp [errW_none, errW_some] <;> rfl) | (simp [*, errW_none, errW_some] <;> rfl), by repeat (first | (with_reducible first | exact HB.out | apply below_alloc | apply pw_below_drewN | apply below_drew1 | refine below_set ?_ GE101.out) | exact HB.out)⟩

/-! ### spec_isNameByte: function 12 -/
def spec_isNameByte.f (a0 : Int) : Option (Bool) := if a0 ≥ 97 then (if a0 ≤ 122 then (some true) else (if a0 ≥ 65 then (if a0 ≤ 90 then (some true) else (if a0 ≥ 48 then (if a0 ≤ 57 then (some true) else (if a0 = 95 then (some true) else (some (a0 == 46)))) else (if a0 = 95 then (some true) else (some (a0 == 46))))) else (if a0 ≥ 48 then (if a0 ≤ 57 then (some true) else (if a0 = 95 then (some true) else (some (a0 == 46)))) else (if a0 = 95 then (some true) else (some (a0 == 46)))))) else (if a0 ≥ 65 then (if a0 ≤ 90 then (some true) else (if a0 ≥ 48 then (if a0 ≤ 57 then (some true) else (if a0 = 95 then (some true) else (some (a0 == 46)))) else (if a0 = 95 then (some true) else (some (a0 == 46))))) else (if a0 ≥ 48 then (if a0 ≤ 57 then (some true) else (if a0 = 95 then (some true) else (some (a0 == 46)))) else (if a0 = 95 then (some true) else (some (a0 == 46)))))
set_option maxHeartbeats 8000000 in
set_option maxRecDepth 100000 in
theorem spec_isNameByte.calls (a0 : Int) (r : Bool) (w : World) (h : spec_isNameByte.f a0 = some r) :
    Calls Try.prog 12 #[.int .u8 a0] w fun e w' => e = .returned (.bool r) ∧ Drawn0 w w' := by
  have H : (if a0 ≥ 97 then (if a0 ≤ 122 then (some true) else (if a0 ≥ 65 then (if a0 ≤ 90 then (some true) else (if a0 ≥ 48 then (if a0 ≤ 57 then (some true) else (if a0 = 95 then (some true) else (some (a0 == 46)))) else (if a0 = 95 then (some true) else (some (a0 == 46))))) else (if a0 ≥ 48 then (if a0 ≤ 57 then (some true) else (if a0 = 95 then (some true) else (some (a0 == 46)))) else (if a0 = 95 then (some true) else (some (a0 == 46)))))) else (if a0 ≥ 65 then (if a0 ≤ 90 then (some true) else (if a0 ≥ 48 then (if a0 ≤ 57 then (some true) else (if a0 = 95 then (some true) else (some (a0 == 46)))) else (if a0 = 95 then (some true) else (some (a0 == 46))))) else (if a0 ≥ 48 then (if a0 ≤ 57 then (some true) else (if a0 = 95 then (some true) else (some (a0 == 46)))) else (if a0 = 95 then (some true) else (some (a0 == 46)))))) = some r := h
  clear h
  by_cases c2 : a0 ≥ 97
  · rw [if_pos c2] at H
    have c2b0 : decide (97 ≤ a0) = true := decide_eq_true c2
    clear c2
    by_cases c3 : a0 ≤ 122
    · rw [if_pos c3] at H
      have c3b0 : decide (a0 ≤ 122) = true := decide_eq_true c3
      clear c3
      obtain rfl := Option.some.inj H
      go_enter Try.func12, Try.ntmps12
      go_wp2
      go_ret
      exact ⟨by first | rfl | (simp; done) | (simp [*]; done), by repeat (first | exact Drawn0.refl _ | apply Drawn0.step)⟩
    · rw [if_neg c3] at H
      have c3b0 : decide (a0 ≤ 122) = false := decide_eq_false c3
      clear c3
      by_cases c4 : a0 ≥ 65
      · rw [if_pos c4] at H
        have c4b0 : decide (65 ≤ a0) = true := decide_eq_true c4
        clear c4
        by_cases c5 : a0 ≤ 90
        · rw [if_pos c5] at H
          have c5b0 : decide (a0 ≤ 90) = true := decide_eq_true c5
          clear c5
          obtain rfl := Option.some.inj H
          go_enter Try.func12, Try.ntmps12
          go_wp2
          go_ret
          exact ⟨by first | rfl | (simp; done) | (simp [*]; done), by repeat (first | exact Drawn0.refl _ | apply Drawn0.step)⟩
        · rw [if_neg c5] at H
          have c5b0 : decide (a0 ≤ 90) = false := decide_eq_false c5
          clear c5
          by_cases c6 : a0 ≥ 48
          · rw [if_pos c6] at H
            have c6b0 : decide (48 ≤ a0) = true := decide_eq_true c6
            clear c6
            by_cases c7 : a0 ≤ 57
            · rw [if_pos c7] at H
              have c7b0 : decide (a0 ≤ 57) = true := decide_eq_true c7
              clear c7
              obtain rfl := Option.some.inj H
              go_enter Try.func12, Try.ntmps12
              go_wp2
              go_ret
              exact ⟨by first | rfl | (simp; done) | (simp [*]; done), by repeat (first | exact Drawn0.refl _ | apply Drawn0.step)⟩
            · rw [if_neg c7] at H
              have c7b0 : decide (a0 ≤ 57) = false := decide_eq_false c7
              clear c7
              by_cases c8 : a0 = 95
              · rw [if_pos c8] at H
                have c8b0 : (a0 == 95) = true := beq_iff_eq.mpr c8
                have c8b1 : (a0 != 95) = false := bne_eq_false_iff_eq.mpr c8
                clear c8
                obtain rfl := Option.some.inj H
                go_enter Try.func12, Try.ntmps12
                go_wp2
                go_ret
                exact ⟨by first | rfl | (simp; done) | (simp [*]; done), by repeat (first | exact Drawn0.refl _ | apply Drawn0.step)⟩
              · rw [if_neg c8] at H
                have c8b0 : (a0 == 95) = false := beq_eq_false_iff_ne.mpr c8
                have c8b1 : (a0 != 95) = true := bne_iff_ne.mpr c8
                obtain rfl := Option.some.inj H
                go_enter Try.func12, Try.ntmps12
                go_wp2
                go_ret
                exact ⟨by first | rfl | (simp; done) | (simp [*]; done), by repeat (first | exact Drawn0.refl _ | apply Drawn0.step)⟩
          · rw [if_neg c6] at H
            have c6b0 : decide (48 ≤ a0) = false := decide_eq_false c6
            clear c6
            by_cases c9 : a0 = 95
            · rw [if_pos c9] at H
              have c9b0 : (a0 == 95) = true := beq_iff_eq.mpr c9
              have c9b1 : (a0 != 95) = false := bne_eq_false_iff_eq.mpr c9
              clear c9
              obtain rfl := Option.some.inj H
              go_enter Try.func12, Try.ntmps12
              go_wp2
              go_ret
              exact ⟨by first | rfl | (simp; done) | (simp [*]; done), by repeat (first | exact Drawn0.refl _ | apply Drawn0.step)⟩
            · rw [if_neg c9] at H
              have c9b0 : (a0 == 95) = false := beq_eq_false_iff_ne.mpr c9
              have c9b1 : (a0 != 95) = true := bne_iff_ne.mpr c9
              obtain rfl := Option.some.inj H
              go_enter Try.func12, Try.ntmps12
              go_wp2
              go_ret
              exact ⟨by first | rfl | (simp; done) | (simp [*]; done), by repeat (first | exact Drawn0.refl _ | apply Drawn0.step)⟩
      · rw [if_neg c4] at H
        have c4b0 : decide (65 ≤ a0) = false := decide_eq_false c4
        clear c4
        by_cases c10 : a0 ≥ 48
        · rw [if_pos c10] at H
          have c10b0 : decide (48 ≤ a0) = true := decide_eq_true c10
          clear c10
          by_cases c11 : a0 ≤ 57
          · rw [if_pos c11] at H
            have c11b0 : decide (a0 ≤ 57) = true := decide_eq_true c11
            clear c11
            obtain rfl := Option.some.inj H
            go_enter Try.func12, Try.ntmps12
            go_wp2
            go_ret
            exact ⟨by first | rfl | (simp; done) | (simp [*]; done), by repeat (first | exact Drawn0.refl _ | apply Drawn0.step)⟩
          · rw [if_neg c11] at H
            have c11b0 : decide (a0 ≤ 57) = false := decide_eq_false c11
            clear c11
            by_cases c12 : a0 = 95
            · rw [if_pos c12] at H
              have c12b0 : (a0 == 95) = true := beq_iff_eq.mpr c12
              have c12b1 : (a0 != 95) = false := bne_eq_false_iff_eq.mpr c12
              clear c12
              obtain rfl := Option.some.inj H
              go_enter Try.func12, Try.ntmps12
              go_wp2
              go_ret
              exact ⟨by first | rfl | (simp; done) | (simp [*]; done), by repeat (first | exact Drawn0.refl _ | apply Drawn0.step)⟩
            · rw [if_neg c12] at H
              have c12b0 : (a0 == 95) = false := beq_eq_false_iff_ne.mpr c12
              have c12b1 : (a0 != 95) = true := bne_iff_ne.mpr c12
              obtain rfl := Option.some.inj H
              go_enter Try.func12, Try.ntmps12
              go_wp2
              go_ret
              exact ⟨by first | rfl | (simp; done) | (simp [*]; done), by repeat (first | exact Drawn0.refl _ | apply Drawn0.step)⟩
        · rw [if_neg c10] at H
          have c10b0 : decide (48 ≤ a0) = false := decide_eq_false c10
          clear c10
          by_cases c13 : a0 = 95
          · rw [if_pos c13] at H
            have c13b0 : (a0 == 95) = true := beq_iff_eq.mpr c13
            have c13b1 : (a0 != 95) = false := bne_eq_false_iff_eq.mpr c13
            clear c13
            obtain rfl := Option.some.inj H
            go_enter Try.func12, Try.ntmps12
            go_wp2
            go_ret
            exact ⟨by first | rfl | (simp; done) | (simp [*]; done), by repeat (first | exact Drawn0.refl _ | apply Drawn0.step)⟩
          · rw [if_neg c13] at H
            have c13b0 : (a0 == 95) = false := beq_eq_false_iff_ne.mpr c13
            have c13b1 : (a0 != 95) = true := bne_iff_ne.mpr c13
            obtain rfl := Option.some.inj H
            go_enter Try.func12, Try.ntmps12
            go_wp2
            go_ret
            exact ⟨by first | rfl | (simp; done) | (simp [*]; done), by repeat (first | exact Drawn0.refl _ | apply Drawn0.step)⟩
  · rw [if_neg c2] at H
    have c2b0 : decide (97 ≤ a0) = false := decide_eq_false c2
    clear c2
    by_cases c14 : a0 ≥ 65
    · rw [if_pos c14] at H
      have c14b0 : decide (65 ≤ a0) = true := decide_eq_true c14
      clear c14
      by_cases c15 : a0 ≤ 90
      · rw [if_pos c15] at H
        have c15b0 : decide (a0 ≤ 90) = true := decide_eq_true c15
        clear c15
        obtain rfl := Option.some.inj H
        go_enter Try.func12, Try.ntmps12
        go_wp2
        go_ret
        exact ⟨by first | rfl | (simp; done) | (simp [*]; done), by repeat (first | exact Drawn0.refl _ | apply Drawn0.step)⟩
      · rw [if_neg c15] at H
        have c15b0 : decide (a0 ≤ 90) = false := decide_eq_false c15
        clear c15
        by_cases c16 : a0 ≥ 48
        · rw [if_pos c16] at H
          have c16b0 : decide (48 ≤ a0) = true := decide_eq_true c16
          clear c16
          by_cases c17 : a0 ≤ 57
          · rw [if_pos c17] at H
            have c17b0 : decide (a0 ≤ 57) = true := decide_eq_true c17
            clear c17
            obtain rfl := Option.some.inj H
            go_enter Try.func12, Try.ntmps12
            go_wp2
            go_ret
            exact ⟨by first | rfl | (simp; done) | (simp [*]; done), by repeat (first | exact Drawn0.refl _ | apply Drawn0.step)⟩
          · rw [if_neg c17] at H
            have c17b0 : decide (a0 ≤ 57) = false := decide_eq_false c17
            clear c17
            by_cases c18 : a0 = 95
            · rw [if_pos c18] at H
              have c18b0 : (a0 == 95) = true := beq_iff_eq.mpr c18
              have c18b1 : (a0 != 95) = false := bne_eq_false_iff_eq.mpr c18
              clear c18
              obtain rfl := Option.some.inj H
              go_enter Try.func12, Try.ntmps12
              go_wp2
              go_ret
              exact ⟨by first | rfl | (simp; done) | (simp [*]; done), by repeat (first | exact Drawn0.refl _ | apply Drawn0.step)⟩
            · rw [if_neg c18] at H
              have c18b0 : (a0 == 95) = false := beq_eq_false_iff_ne.mpr c18
              have c18b1 : (a0 != 95) = true := bne_iff_ne.mpr c18
              obtain rfl := Option.some.inj H
              go_enter Try.func12, Try.ntmps12
              go_wp2
              go_ret
              exact ⟨by first | rfl | (simp; done) | (simp [*]; done), by repeat (first | exact Drawn0.refl _ | apply Drawn0.step)⟩
        · rw [if_neg c16] at H
          have c16b0 : decide (48 ≤ a0) = false := decide_eq_false c16
          clear c16
          by_cases c19 : a0 = 95
          · rw [if_pos c19] at H
            have c19b0 : (a0 == 95) = true := beq_iff_eq.mpr c19
            have c19b1 : (a0 != 95) = false := bne_eq_false_iff_eq.mpr c19
            clear c19
            obtain rfl := Option.some.inj H
            go_enter Try.func12, Try.ntmps12
            go_wp2
            go_ret
            exact ⟨by first | rfl | (simp; done) | (simp [*]; done), by repeat (first | exact Drawn0.refl _ | apply Drawn0.step)⟩
          · rw [if_neg c19] at H
            have c19b0 : (a0 == 95) = false := beq_eq_false_iff_ne.mpr c19
            have c19b1 : (a0 != 95) = true := bne_iff_ne.mpr c19
            obtain rfl := Option.some.inj H
            go_enter Try.func12, Try.ntmps12
            go_wp2
            go_ret
            exact ⟨by first | rfl | (simp; done) | (simp [*]; done), by repeat (first | exact Drawn0.refl _ | apply Drawn0.step)⟩
    · rw [if_neg c14] at H
      have c14b0 : decide (65 ≤ a0) = false := decide_eq_false c14
      clear c14
      by_cases c20 : a0 ≥ 48
      · rw [if_pos c20] at H
        have c20b0 : decide (48 ≤ a0) = true := decide_eq_true c20
        clear c20
        by_cases c21 : a0 ≤ 57
        · rw [if_pos c21] at H
          have c21b0 : decide (a0 ≤ 57) = true := decide_eq_true c21
          clear c21
          obtain rfl := Option.some.inj H
          go_enter Try.func12, Try.ntmps12
          go_wp2
          go_ret
          exact ⟨by first | rfl | (simp; done) | (simp [*]; done), by repeat (first | exact Drawn0.refl _ | apply Drawn0.step)⟩
        · rw [if_neg c21] at H
          have c21b0 : decide (a0 ≤ 57) = false := decide_eq_false c21
          clear c21
          by_cases c22 : a0 = 95
          · rw [if_pos c22] at H
            have c22b0 : (a0 == 95) = true := beq_iff_eq.mpr c22
            have c22b1 : (a0 != 95) = false := bne_eq_false_iff_eq.mpr c22
            clear c22
            obtain rfl := Option.some.inj H
            go_enter Try.func12, Try.ntmps12
            go_wp2
            go_ret
            exact ⟨by first | rfl | (simp; done) | (simp [*]; done), by repeat (first | exact Drawn0.refl _ | apply Drawn0.step)⟩
          · rw [if_neg c22] at H
            have c22b0 : (a0 == 95) = false := beq_eq_false_iff_ne.mpr c22
            have c22b1 : (a0 != 95) = true := bne_iff_ne.mpr c22
            obtain rfl := Option.some.inj H
            go_enter Try.func12, Try.ntmps12
            go_wp2
            go_ret
            exact ⟨by first | rfl | (simp; done) | (simp [*]; done), by repeat (first | exact Drawn0.refl _ | apply Drawn0.step)⟩
      · rw [if_neg c20] at H
        have c20b0 : decide (48 ≤ a0) = false := decide_eq_false c20
        clear c20
        by_cases c23 : a0 = 95
        · rw [if_pos c23] at H
          have c23b0 : (a0 == 95) = true := beq_iff_eq.mpr c23
          have c23b1 : (a0 != 95) = false := bne_eq_false_iff_eq.mpr c23
          clear c23
          obtain rfl := Option.some.inj H
          go_enter Try.func12, Try.ntmps12
          go_wp2
          go_ret
          exact ⟨by first | rfl | (simp; done) | (simp [*]; done), by repeat (first | exact Drawn0.refl _ | apply Drawn0.step)⟩
        · rw [if_neg c23] at H
          have c23b0 : (a0 == 95) = false := beq_eq_false_iff_ne.mpr c23
          have c23b1 : (a0 != 95) = true := bne_iff_ne.mpr c23
          obtain rfl := Option.some.inj H
          go_enter Try.func12, Try.ntmps12
          go_wp2
          go_ret
          exact ⟨by first | rfl | (simp; done) | (simp [*]; done), by repeat (first | exact Drawn0.refl _ | apply Drawn0.step)⟩

end Go.Proofs.Ytmiggjncmeomlaa.QS
