-- WRITTEN BY A PROGRAM OF THIS SESSION (wip/print2.py): the print, with contracts of this session's own let in. Not trusted: Lean checks it.
import Derived.Test.YtabaldpjahcilaaDoorQD0
import Derived.Test.YtabaldpjahcilaaDoorQD1
namespace Go.Proofs.YtabaldpjahcilaaDoor.QD
open Go.RowKit Go.Proofs.YtabaldpjahcilaaDoorW.PrintWords Go.Proofs.YtabaldpjahcilaaDoorW.PrintLast Go.Proofs.YtabaldpjahcilaaDoorW.PrintMore
attribute [local go_sem] max2_int min2_int max_two min_two max_three min_three max_four min_four   -- for this text's walks alone
set_option linter.unusedVariables false
set_option linter.unusedSimpArgs false

/-! ### spec_ArgumentRight: function 23 -/
mutual
def spec_ArgumentRight.j0 : Nat → Bool → Int → Int → ByteArray → List (S27) → Option (Bool)
  | 0, _, _, _, _, _ => none
  | k + 1, x22, x103000, x103001, x103002, x103003 => if x22 = true then (some false) else (spec_ArgumentRight.l0 k 0 x103000 x103001 x103002 x103003)
def spec_ArgumentRight.l0 : Nat → Int → Int → Int → ByteArray → List (S27) → Option (Bool)
  | 0, _, _, _, _, _ => none
  | k + 1, x3, x103000, x103001, x103002, x103003 => if x3 < (x103003.length : Int) then (if 0 ≤ x3 then (if ((rd_T27 x103003 x3).f0) = 5 then (some false) else ((spec_flat.f ((rd_T27 x103003 x3).f0) ((rd_T27 x103003 x3).f1) ((rd_T27 x103003 x3).f2) ((rd_T27 x103003 x3).f3)).bind fun t106 => (if t106 = true then (spec_ArgumentRight.l0 k (wrap64 (x3 + 1)) x103000 x103001 x103002 x103003) else (some false)))) else (none)) else (some true)
end
def spec_ArgumentRight.f (k : Nat) (a0_0 : Int) (a0_1 : Int) (a0_2 : ByteArray) (l0_3 : List (S27)) : Option (Bool) := if a0_0 = 5 then (if a0_1 = 0 then (if a0_2.toList = ([] : List UInt8) then (spec_ArgumentRight.j0 k (decide ((l0_3.length : Int) > 20)) a0_0 a0_1 a0_2 l0_3) else (spec_ArgumentRight.j0 k true a0_0 a0_1 a0_2 l0_3)) else (spec_ArgumentRight.j0 k true a0_0 a0_1 a0_2 l0_3)) else ((spec_flat.f a0_0 a0_1 a0_2 l0_3).bind fun t103 => (some t103))
theorem spec_ArgumentRight.mono_l : ∀ k, (∀ y0 y1 y2 y3 y4, LeO (spec_ArgumentRight.j0 k y0 y1 y2 y3 y4) (spec_ArgumentRight.j0 (k + 1) y0 y1 y2 y3 y4)) ∧ (∀ y0 y1 y2 y3 y4, LeO (spec_ArgumentRight.l0 k y0 y1 y2 y3 y4) (spec_ArgumentRight.l0 (k + 1) y0 y1 y2 y3 y4))
  | 0 => ⟨fun _ _ _ _ _ r h => by simp [spec_ArgumentRight.j0] at h, fun _ _ _ _ _ r h => by simp [spec_ArgumentRight.l0] at h⟩
  | k + 1 => by
    obtain ⟨ih0, ih1⟩ := spec_ArgumentRight.mono_l k
    refine ⟨?_, ?_⟩
    · intro y0 y1 y2 y3 y4
      unfold spec_ArgumentRight.j0
      repeat' first
      | (with_reducible exact ih0 _ _ _ _ _)
      | (with_reducible exact ih1 _ _ _ _ _)
      | (with_reducible exact LeO.refl _)
      | (with_reducible exact LeO.none _)
      | (with_reducible refine LeO.ite ?_ ?_)
      | (with_reducible refine LeO.bind ?_ (fun _ => ?_))
      | exact ih0 _ _ _ _ _
      | exact ih1 _ _ _ _ _
      | exact LeO.none _
      | refine LeO.ite ?_ ?_
      | refine LeO.bind ?_ (fun _ => ?_)
    · intro y0 y1 y2 y3 y4
      unfold spec_ArgumentRight.l0
      repeat' first
      | (with_reducible exact ih0 _ _ _ _ _)
      | (with_reducible exact ih1 _ _ _ _ _)
      | (with_reducible exact LeO.refl _)
      | (with_reducible exact LeO.none _)
      | (with_reducible refine LeO.ite ?_ ?_)
      | (with_reducible refine LeO.bind ?_ (fun _ => ?_))
      | exact ih0 _ _ _ _ _
      | exact ih1 _ _ _ _ _
      | exact LeO.none _
      | refine LeO.ite ?_ ?_
      | refine LeO.bind ?_ (fun _ => ?_)
theorem spec_ArgumentRight.mono : ∀ a0 a1 a2 a3 k, LeO (spec_ArgumentRight.f k a0 a1 a2 a3) (spec_ArgumentRight.f (k + 1) a0 a1 a2 a3) := by
  intro a0 a1 a2 a3 k
  obtain ⟨ih0, ih1⟩ := spec_ArgumentRight.mono_l k
  unfold spec_ArgumentRight.f
  repeat' first
      | (with_reducible exact ih0 _ _ _ _ _)
      | (with_reducible exact ih1 _ _ _ _ _)
      | (with_reducible exact LeO.refl _)
      | (with_reducible exact LeO.none _)
      | (with_reducible refine LeO.ite ?_ ?_)
      | (with_reducible refine LeO.bind ?_ (fun _ => ?_))
      | exact ih0 _ _ _ _ _
      | exact ih1 _ _ _ _ _
      | exact LeO.none _
      | refine LeO.ite ?_ ?_
      | refine LeO.bind ?_ (fun _ => ?_)
set_option maxHeartbeats 8000000 in
set_option maxRecDepth 100000 in
theorem spec_ArgumentRight.calls (k : Nat) (a0_0 : Int) (a0_1 : Int) (a0_2 : ByteArray) (A0_3 : Option Addr) (c0_3 : Nat) (l0_3 : List (S27)) (r : Bool) (w : World) (hr0_3 : Kd.C k27 w A0_3 l0_3.length l0_3) (hc0_3 : l0_3.length ≤ c0_3) (h : spec_ArgumentRight.f k a0_0 a0_1 a0_2 l0_3 = some r) :
    Calls Tryd.prog 23 #[.agg #[.int .i64 a0_0, .int .i64 a0_1, .string a0_2, .slice A0_3 l0_3.length c0_3]] w fun e w' => e = .returned (.bool r) ∧ Below w.heap.size w w' := by
  have hu27 := Tryd.underlying27
  have HR0_3 := Aside0.mk hr0_3
  have HC0_3 := Aside0.mk hc0_3
  clear hr0_3 hc0_3
  have HB := Aside0.mk (Below.refl w.heap.size w)
  have H : (if a0_0 = 5 then (if a0_1 = 0 then (if a0_2.toList = ([] : List UInt8) then (spec_ArgumentRight.j0 k (decide ((l0_3.length : Int) > 20)) a0_0 a0_1 a0_2 l0_3) else (spec_ArgumentRight.j0 k true a0_0 a0_1 a0_2 l0_3)) else (spec_ArgumentRight.j0 k true a0_0 a0_1 a0_2 l0_3)) else ((spec_flat.f a0_0 a0_1 a0_2 l0_3).bind fun t103 => (some t103))) = some r := h
  clear h
  by_cases c2 : a0_0 = 5
  · rw [if_pos c2] at H
    have c2b0 : (a0_0 == 5) = true := beq_iff_eq.mpr c2
    have c2b1 : (a0_0 != 5) = false := bne_eq_false_iff_eq.mpr c2
    clear c2
    have HC3 := Aside0.mk H
    clear H
    go_enter Tryd.func23, Tryd.ntmps23
    go_upto_region 3 with (first | ((with_reducible refine gate_dst (N := 1) rfl ?_); (try (refine gate_guard (by rfl) ?_; dsimp only)); refine box_event ?hg (N := 1) ?hd (cs := #[.int .i64 a0_0, .int .i64 a0_1, .string a0_2, .slice A0_3 l0_3.length c0_3]) (t := 27) ?hr ?_; (case hd => rfl); (case hg => rfl); (case hr => first | (go_simp; done) | (go_simp; rfl)); intro gb102 hg w4 hbox hb; have n0_ := Aside0.mk (below_step (by repeat (first | (with_reducible first | exact HB.out | apply below_alloc | apply pw_below_drewN | apply below_drew1) | exact HB.out)) hb); have n1_ := Aside0.mk (hbox); have n2_ := Aside0.mk ((by rw [hg]; exact (below_size (by repeat (first | (with_reducible first | exact HB.out | apply below_alloc | apply pw_below_drewN | apply below_drew1) | exact HB.out))) : w.heap.size ≤ gb102)); have n3_ := Aside0.mk ((by rw [hg]; exact (below_size (by repeat (first | (with_reducible first | exact HB.out | apply below_alloc | apply pw_below_drewN | apply below_drew1) | exact HB.out))) : w.heap.size ≤ gb102)); clear HB; have HB := n0_; have BK102 := n1_; have GW102 := n2_; have GE102 := n3_; clear n0_ n1_ n2_ n3_; clear hb hbox hg; have hcz5_0 : w4.cell? ⟨gb102, 0, none⟩ = some (.int .i64 a0_0) := (blk_cell BK102.out 0).trans rfl; have hcz5_1 : w4.cell? ⟨gb102, 1, none⟩ = some (.int .i64 a0_1) := (blk_cell BK102.out 1).trans rfl; have hcz5_2 : w4.cell? ⟨gb102, 2, none⟩ = some (.string a0_2) := (blk_cell BK102.out 2).trans rfl; have hcz5_3 : w4.cell? ⟨gb102, 3, none⟩ = some (.slice A0_3 l0_3.length c0_3) := (blk_cell BK102.out 3).trans rfl; have hfz5_0 := blk_frozen BK102.out 0; have hfz5_1 := blk_frozen BK102.out 1; have hfz5_2 := blk_frozen BK102.out 2; have hfz5_3 := blk_frozen BK102.out 3))
    (try simp only [Act.put, List.setIfInBounds_toArray, List.set_cons_zero, List.set_cons_succ])
    go_cut [22] (fun v22 wc => ∃ (kq : Nat) (x22_2 : Bool), v22 = .bool x22_2 ∧ Aside0 (spec_ArgumentRight.j0 kq x22_2 a0_0 a0_1 a0_2 l0_3 = some r) ∧ Aside0 (kq ≤ k) ∧ Aside0 (wc.heap[gb102]? = some (.cells #[.int .i64 a0_0, .int .i64 a0_1, .string a0_2, (.slice A0_3 l0_3.length c0_3)] 27 (0, 0))) ∧ Aside0 (Below w.heap.size w wc))
    case first =>
      have H := HC3.out
      clear HC3
      by_cases c6 : a0_1 = 0
      · rw [if_pos c6] at H
        have c6b0 : (a0_1 == 0) = true := beq_iff_eq.mpr c6
        have c6b1 : (a0_1 != 0) = false := bne_eq_false_iff_eq.mpr c6
        clear c6
        (first | rw [c6b0] | (simp only [i64_w, i32_w]; rw [c6b0]) | skip)
        by_cases c7 : a0_2.toList = ([] : List UInt8)
        · rw [if_pos c7] at H
          have c7b0 : (a0_2.toList == ([] : List UInt8)) = true := beq_iff_eq.mpr c7
          have c7b1 : (a0_2.toList != ([] : List UInt8)) = false := bne_eq_false_iff_eq.mpr c7
          clear c7
          have H' := Aside0.mk H
          clear H
          have hcz8_0 : w4.cell? ⟨gb102, 0, none⟩ = some (.int .i64 a0_0) := (blk_cell BK102.out 0).trans rfl
          have hcz8_1 : w4.cell? ⟨gb102, 1, none⟩ = some (.int .i64 a0_1) := (blk_cell BK102.out 1).trans rfl
          have hcz8_2 : w4.cell? ⟨gb102, 2, none⟩ = some (.string a0_2) := (blk_cell BK102.out 2).trans rfl
          have hcz8_3 : w4.cell? ⟨gb102, 3, none⟩ = some (.slice A0_3 l0_3.length c0_3) := (blk_cell BK102.out 3).trans rfl
          have hfz8_0 := blk_frozen BK102.out 0
          have hfz8_1 := blk_frozen BK102.out 1
          have hfz8_2 := blk_frozen BK102.out 2
          have hfz8_3 := blk_frozen BK102.out 3
          go_wp2
          go_meet
          case rel => exact ⟨_, (decide ((l0_3.length : Int) > 20)), (by first | rfl | (simp; done) | (simp [*]; done)), H', ⟨by first | omega | exact Nat.le_refl _⟩, ⟨by (with_reducible repeat (first | refine blk_drewN ?_ _ | refine blk_drew ?_ | refine blk_alloc ?_ _)); exact BK102.out⟩, ⟨by repeat (first | (with_reducible first | exact HB.out | apply below_alloc | apply pw_below_drewN | apply below_drew1 | refine below_set ?_ GE102.out) | exact HB.out)⟩⟩
        · rw [if_neg c7] at H
          have c7b0 : (a0_2.toList == ([] : List UInt8)) = false := beq_eq_false_iff_ne.mpr c7
          have c7b1 : (a0_2.toList != ([] : List UInt8)) = true := bne_iff_ne.mpr c7
          have H' := Aside0.mk H
          clear H
          have hcz9_0 : w4.cell? ⟨gb102, 0, none⟩ = some (.int .i64 a0_0) := (blk_cell BK102.out 0).trans rfl
          have hcz9_1 : w4.cell? ⟨gb102, 1, none⟩ = some (.int .i64 a0_1) := (blk_cell BK102.out 1).trans rfl
          have hcz9_2 : w4.cell? ⟨gb102, 2, none⟩ = some (.string a0_2) := (blk_cell BK102.out 2).trans rfl
          have hcz9_3 : w4.cell? ⟨gb102, 3, none⟩ = some (.slice A0_3 l0_3.length c0_3) := (blk_cell BK102.out 3).trans rfl
          have hfz9_0 := blk_frozen BK102.out 0
          have hfz9_1 := blk_frozen BK102.out 1
          have hfz9_2 := blk_frozen BK102.out 2
          have hfz9_3 := blk_frozen BK102.out 3
          go_wp2
          go_meet
          case rel => exact ⟨_, (true), (by first | rfl | (simp; done) | (simp [*]; done)), H', ⟨by first | omega | exact Nat.le_refl _⟩, ⟨by (with_reducible repeat (first | refine blk_drewN ?_ _ | refine blk_drew ?_ | refine blk_alloc ?_ _)); exact BK102.out⟩, ⟨by repeat (first | (with_reducible first | exact HB.out | apply below_alloc | apply pw_below_drewN | apply below_drew1 | refine below_set ?_ GE102.out) | exact HB.out)⟩⟩
      · rw [if_neg c6] at H
        have c6b0 : (a0_1 == 0) = false := beq_eq_false_iff_ne.mpr c6
        have c6b1 : (a0_1 != 0) = true := bne_iff_ne.mpr c6
        (first | rw [c6b0] | (simp only [i64_w, i32_w]; rw [c6b0]) | skip)
        have H' := Aside0.mk H
        clear H
        have hcz10_0 : w4.cell? ⟨gb102, 0, none⟩ = some (.int .i64 a0_0) := (blk_cell BK102.out 0).trans rfl
        have hcz10_1 : w4.cell? ⟨gb102, 1, none⟩ = some (.int .i64 a0_1) := (blk_cell BK102.out 1).trans rfl
        have hcz10_2 : w4.cell? ⟨gb102, 2, none⟩ = some (.string a0_2) := (blk_cell BK102.out 2).trans rfl
        have hcz10_3 : w4.cell? ⟨gb102, 3, none⟩ = some (.slice A0_3 l0_3.length c0_3) := (blk_cell BK102.out 3).trans rfl
        have hfz10_0 := blk_frozen BK102.out 0
        have hfz10_1 := blk_frozen BK102.out 1
        have hfz10_2 := blk_frozen BK102.out 2
        have hfz10_3 := blk_frozen BK102.out 3
        go_wp2
        go_meet
        case rel => exact ⟨_, (true), (by first | rfl | (simp; done) | (simp [*]; done)), H', ⟨by first | omega | exact Nat.le_refl _⟩, ⟨by (with_reducible repeat (first | refine blk_drewN ?_ _ | refine blk_drew ?_ | refine blk_alloc ?_ _)); exact BK102.out⟩, ⟨by repeat (first | (with_reducible first | exact HB.out | apply below_alloc | apply pw_below_drewN | apply below_drew1 | refine below_set ?_ GE102.out) | exact HB.out)⟩⟩
    case rest =>
      clear HC3
      try clear c2
      try clear c2b0
      try clear c2b1
      try clear p2
      try clear c6
      try clear c6b0
      try clear c6b1
      try clear c7
      try clear c7b0
      try clear c7b1
      try clear hcz10_0
      try clear hcz10_1
      try clear hcz10_2
      try clear hcz10_3
      try clear hcz5_0
      try clear hcz5_1
      try clear hcz5_2
      try clear hcz5_3
      try clear hcz8_0
      try clear hcz8_1
      try clear hcz8_2
      try clear hcz8_3
      try clear hcz9_0
      try clear hcz9_1
      try clear hcz9_2
      try clear hcz9_3
      try clear hfz10_0
      try clear hfz10_1
      try clear hfz10_2
      try clear hfz10_3
      try clear hfz5_0
      try clear hfz5_1
      try clear hfz5_2
      try clear hfz5_3
      try clear hfz8_0
      try clear hfz8_1
      try clear hfz8_2
      try clear hfz8_3
      try clear hfz9_0
      try clear hfz9_1
      try clear hfz9_2
      try clear hfz9_3
      obtain ⟨kq, x22_2, rfl, HA, HJ2, BK102, HB⟩ := hcut
      cases kq with
      | zero => exact absurd HA.out (by simp [spec_ArgumentRight.j0])
      | succ kj2 =>
        have H := HA.out
        clear HA
        simp only [spec_ArgumentRight.j0] at H
        by_cases c11 : x22_2 = true
        · subst c11
          have H1 : (some false) = some r := by rw [if_pos rfl] at H; exact H
          clear H
          have H := H1
          clear H1
          obtain rfl := Option.some.inj H
          go_wp2
          go_ret
          exact ⟨by first | rfl | (simp [errW_none, errW_some] <;> rfl) | (simp [*, errW_none, errW_some] <;> rfl), by repeat (first | (with_reducible first | exact HB.out | apply below_alloc | apply pw_below_drewN | apply below_drew1 | refine below_set ?_ GE102.out) | exact HB.out)⟩
        · replace c11 := Bool.eq_false_iff.mpr c11
          subst c11
          have H1 : (spec_ArgumentRight.l0 kj2 0 a0_0 a0_1 a0_2 l0_3) = some r := by rw [if_neg (show ¬ (false = true) by decide)] at H; exact H
          clear H
          have H := H1
          clear H1
          have H' := Aside0.mk H
          clear H
          go_wp2
          go_loopg [3] kj2 (fun kq v3 w' => ∃ (x3_2 : Int), v3 = .int .i64 x3_2 ∧ Aside0 (spec_ArgumentRight.l0 kq x3_2 a0_0 a0_1 a0_2 l0_3 = some r) ∧ Aside0 (kq ≤ kj2) ∧ Aside0 (w'.heap[gb102]? = some (.cells #[.int .i64 a0_0, .int .i64 a0_1, .string a0_2, (.slice A0_3 l0_3.length c0_3)] 27 (0, 0))) ∧ Aside0 (Below w.heap.size w w'))
          case atStart => exact ⟨(0), (by first | rfl | (simp; done) | (simp [*]; done)), H', ⟨Nat.le_refl _⟩, ⟨by (with_reducible repeat (first | refine blk_drewN ?_ _ | refine blk_drew ?_ | refine blk_alloc ?_ _)); exact BK102.out⟩, ⟨by repeat (first | (with_reducible first | exact HB.out | apply below_alloc | apply pw_below_drewN | apply below_drew1 | refine below_set ?_ GE102.out) | exact HB.out)⟩⟩
          case round =>
            clear H'
            try clear c1
            try clear c2
            try clear c2b0
            try clear c2b1
            try clear p2
            try clear c6
            try clear c6b0
            try clear c6b1
            try clear c7
            try clear c7b0
            try clear c7b1
            try clear c11
            try clear hcz10_0
            try clear hcz10_1
            try clear hcz10_2
            try clear hcz10_3
            try clear hcz5_0
            try clear hcz5_1
            try clear hcz5_2
            try clear hcz5_3
            try clear hcz8_0
            try clear hcz8_1
            try clear hcz8_2
            try clear hcz8_3
            try clear hcz9_0
            try clear hcz9_1
            try clear hcz9_2
            try clear hcz9_3
            try clear hfz10_0
            try clear hfz10_1
            try clear hfz10_2
            try clear hfz10_3
            try clear hfz5_0
            try clear hfz5_1
            try clear hfz5_2
            try clear hfz5_3
            try clear hfz8_0
            try clear hfz8_1
            try clear hfz8_2
            try clear hfz8_3
            try clear hfz9_0
            try clear hfz9_1
            try clear hfz9_2
            try clear hfz9_3
            try clear p2
            obtain ⟨x3_2, rfl, HA, HK2, BK102, HB⟩ := hrel
            cases gk with
            | zero => exact absurd HA.out (by simp [spec_ArgumentRight.l0])
            | succ k2 =>
              have H := HA.out
              clear HA
              simp only [spec_ArgumentRight.l0] at H
              by_cases c12 : x3_2 < (l0_3.length : Int)
              · rw [if_pos c12] at H
                have c12b0 : decide (x3_2 < (l0_3.length : Int)) = true := decide_eq_true c12
                clear c12
                by_cases c13 : 0 ≤ x3_2
                · rw [if_pos c13] at H
                  have c13b0 : decide (0 ≤ x3_2) = true := decide_eq_true c13
                  clear c13
                  by_cases c14 : ((rd_T27 l0_3 x3_2).f0) = 5
                  · rw [if_pos c14] at H
                    have c14b0 : (((rd_T27 l0_3 x3_2).f0) == 5) = true := beq_iff_eq.mpr c14
                    have c14b1 : (((rd_T27 l0_3 x3_2).f0) != 5) = false := bne_eq_false_iff_eq.mpr c14
                    clear c14
                    obtain rfl := Option.some.inj H
                    have hcz15_0 : wr.cell? ⟨gb102, 0, none⟩ = some (.int .i64 a0_0) := (blk_cell BK102.out 0).trans rfl
                    have hcz15_1 : wr.cell? ⟨gb102, 1, none⟩ = some (.int .i64 a0_1) := (blk_cell BK102.out 1).trans rfl
                    have hcz15_2 : wr.cell? ⟨gb102, 2, none⟩ = some (.string a0_2) := (blk_cell BK102.out 2).trans rfl
                    have hcz15_3 : wr.cell? ⟨gb102, 3, none⟩ = some (.slice A0_3 l0_3.length c0_3) := (blk_cell BK102.out 3).trans rfl
                    have hfz15_0 := blk_frozen BK102.out 0
                    have hfz15_1 := blk_frozen BK102.out 1
                    have hfz15_2 := blk_frozen BK102.out 2
                    have hfz15_3 := blk_frozen BK102.out 3
                    have p104 : 0 ≤ (x3_2 : Int) := of_decide_eq_true (by first | (with_reducible assumption) | assumption)
                    have q104 : x3_2 < (l0_3.length : Int) := of_decide_eq_true (by first | (with_reducible assumption) | assumption)
                    obtain ⟨ad104, A104_3, c104_3, e104, hx104_0, hx104_1, hx104_2, hx104_3, hl104_3, hi104_3⟩ := at_T27 HR0_3.out x3_2 p104 q104
                    cases e104
                    replace hx104_0 := (HB.out.cell (World.block_lt_of_cell? w _ hx104_0)).trans hx104_0
                    replace hx104_1 := (HB.out.cell (World.block_lt_of_cell? w _ hx104_1)).trans hx104_1
                    replace hx104_2 := (HB.out.cell (World.block_lt_of_cell? w _ hx104_2)).trans hx104_2
                    replace hx104_3 := (HB.out.cell (World.block_lt_of_cell? w _ hx104_3)).trans hx104_3
                    have HR104_3 := Aside0.mk hi104_3
                    have HC104_3 := Aside0.mk hl104_3
                    clear hi104_3 hl104_3
                    replace p104 := eq_true p104
                    replace q104 := eq_true q104
                    go_wp2
                    go_ret
                    exact ⟨by first | rfl | (simp [errW_none, errW_some] <;> rfl) | (simp [*, errW_none, errW_some] <;> rfl), by repeat (first | (with_reducible first | exact HB.out | apply below_alloc | apply pw_below_drewN | apply below_drew1 | refine below_set ?_ GE102.out) | exact HB.out)⟩
                  · rw [if_neg c14] at H
                    have c14b0 : (((rd_T27 l0_3 x3_2).f0) == 5) = false := beq_eq_false_iff_ne.mpr c14
                    have c14b1 : (((rd_T27 l0_3 x3_2).f0) != 5) = true := bne_iff_ne.mpr c14
                    replace H := Option.bind_eq_some_iff.mp H
                    obtain ⟨t106, A160, H⟩ := H
                    replace H : (if t106 = true then (spec_ArgumentRight.l0 k2 (wrap64 (x3_2 + 1)) a0_0 a0_1 a0_2 l0_3) else (some false)) = some r := H
                    have A16 := Aside0.mk A160
                    clear A160
                    by_cases c17 : t106 = true
                    · subst c17
                      have H1 : (spec_ArgumentRight.l0 k2 (wrap64 (x3_2 + 1)) a0_0 a0_1 a0_2 l0_3) = some r := by rw [if_pos rfl] at H; exact H
                      clear H
                      have H := H1
                      clear H1
                      have H' := Aside0.mk H
                      clear H
                      have hcz18_0 : wr.cell? ⟨gb102, 0, none⟩ = some (.int .i64 a0_0) := (blk_cell BK102.out 0).trans rfl
                      have hcz18_1 : wr.cell? ⟨gb102, 1, none⟩ = some (.int .i64 a0_1) := (blk_cell BK102.out 1).trans rfl
                      have hcz18_2 : wr.cell? ⟨gb102, 2, none⟩ = some (.string a0_2) := (blk_cell BK102.out 2).trans rfl
                      have hcz18_3 : wr.cell? ⟨gb102, 3, none⟩ = some (.slice A0_3 l0_3.length c0_3) := (blk_cell BK102.out 3).trans rfl
                      have hfz18_0 := blk_frozen BK102.out 0
                      have hfz18_1 := blk_frozen BK102.out 1
                      have hfz18_2 := blk_frozen BK102.out 2
                      have hfz18_3 := blk_frozen BK102.out 3
                      have p104 : 0 ≤ (x3_2 : Int) := of_decide_eq_true (by first | (with_reducible assumption) | assumption)
                      have q104 : x3_2 < (l0_3.length : Int) := of_decide_eq_true (by first | (with_reducible assumption) | assumption)
                      obtain ⟨ad104, A104_3, c104_3, e104, hx104_0, hx104_1, hx104_2, hx104_3, hl104_3, hi104_3⟩ := at_T27 HR0_3.out x3_2 p104 q104
                      cases e104
                      replace hx104_0 := (HB.out.cell (World.block_lt_of_cell? w _ hx104_0)).trans hx104_0
                      replace hx104_1 := (HB.out.cell (World.block_lt_of_cell? w _ hx104_1)).trans hx104_1
                      replace hx104_2 := (HB.out.cell (World.block_lt_of_cell? w _ hx104_2)).trans hx104_2
                      replace hx104_3 := (HB.out.cell (World.block_lt_of_cell? w _ hx104_3)).trans hx104_3
                      have HR104_3 := Aside0.mk hi104_3
                      have HC104_3 := Aside0.mk hl104_3
                      clear hi104_3 hl104_3
                      replace p104 := eq_true p104
                      replace q104 := eq_true q104
                      have p105 : 0 ≤ (x3_2 : Int) := of_decide_eq_true (by first | (with_reducible assumption) | assumption)
                      have q105 : x3_2 < (l0_3.length : Int) := of_decide_eq_true (by first | (with_reducible assumption) | assumption)
                      obtain ⟨ad105, A105_3, c105_3, e105, hx105_0, hx105_1, hx105_2, hx105_3, hl105_3, hi105_3⟩ := at_T27 HR0_3.out x3_2 p105 q105
                      obtain rfl : ad104 = ad105 := (by injection e105)
                      replace hx105_0 := (HB.out.cell (World.block_lt_of_cell? w _ hx105_0)).trans hx105_0
                      replace hx105_1 := (HB.out.cell (World.block_lt_of_cell? w _ hx105_1)).trans hx105_1
                      replace hx105_2 := (HB.out.cell (World.block_lt_of_cell? w _ hx105_2)).trans hx105_2
                      replace hx105_3 := (HB.out.cell (World.block_lt_of_cell? w _ hx105_3)).trans hx105_3
                      have HR105_3 := Aside0.mk hi105_3
                      have HC105_3 := Aside0.mk hl105_3
                      clear hi105_3 hl105_3
                      replace p105 := eq_true p105
                      replace q105 := eq_true q105
                      have ea_ := Option.some.inj (hx104_3.symm.trans hx105_3)
                      injection ea_ with ea_ en_ ec_
                      subst ea_
                      subst ec_
                      clear en_
                      go_wp2_with (first | (go_at_call 32; (with_reducible refine (spec_flat.calls ((rd_T27 l0_3 x3_2).f0) ((rd_T27 l0_3 x3_2).f1) ((rd_T27 l0_3 x3_2).f2) _ _ ((rd_T27 l0_3 x3_2).f3) true _ ?side1 ?side2 A16.out).mono ?_); (case side1 => repeat (first | exact (Kd.C_below HR105_3.out HB.out) | (with_reducible refine Kd.C_alloc ?_ _) | (with_reducible refine Kd.C_drewN ?_ _) | (with_reducible refine Kd.C_drew ?_))); (case side2 => exact HC105_3.out); rintro e w19 ⟨rfl, hb⟩; have n0_ := Aside0.mk (blk_below (g := gb102) (o := .cells #[.int .i64 a0_0, .int .i64 a0_1, .string a0_2, .slice (some ad104) l0_3.length c0_3] 27 (0, 0)) (by (with_reducible repeat (first | refine blk_drewN ?_ _ | refine blk_drew ?_ | refine blk_alloc ?_ _)); exact BK102.out) hb); have n1_ := Aside0.mk (below_step (by repeat (first | (with_reducible first | exact HB.out | apply below_alloc | apply pw_below_drewN | apply below_drew1 | refine below_set ?_ GE102.out) | exact HB.out)) hb); clear BK102; clear HB; have BK102 := n0_; have HB := n1_; clear n0_ n1_; (try clear hb); (try clear hb2); (try clear hk); (try clear hi)))
                      go_roundg k2
                      case measure => have := HJ2.out; have := HK2.out; omega
                      case rel => exact ⟨(wrap64 (x3_2 + 1)), (by first | rfl | (simp; done) | (simp [*]; done)), H', ⟨by have := HJ2.out; have := HK2.out; omega⟩, ⟨by (with_reducible repeat (first | refine blk_drewN ?_ _ | refine blk_drew ?_ | refine blk_alloc ?_ _)); exact BK102.out⟩, ⟨by repeat (first | (with_reducible first | exact HB.out | apply below_alloc | apply pw_below_drewN | apply below_drew1 | refine below_set ?_ GE102.out) | exact HB.out)⟩⟩
                    · replace c17 := Bool.eq_false_iff.mpr c17
                      subst c17
                      have H1 : (some false) = some r := by rw [if_neg (show ¬ (false = true) by decide)] at H; exact H
                      clear H
                      have H := H1
                      clear H1
                      obtain rfl := Option.some.inj H
                      have hcz20_0 : wr.cell? ⟨gb102, 0, none⟩ = some (.int .i64 a0_0) := (blk_cell BK102.out 0).trans rfl
                      have hcz20_1 : wr.cell? ⟨gb102, 1, none⟩ = some (.int .i64 a0_1) := (blk_cell BK102.out 1).trans rfl
                      have hcz20_2 : wr.cell? ⟨gb102, 2, none⟩ = some (.string a0_2) := (blk_cell BK102.out 2).trans rfl
                      have hcz20_3 : wr.cell? ⟨gb102, 3, none⟩ = some (.slice A0_3 l0_3.length c0_3) := (blk_cell BK102.out 3).trans rfl
                      have hfz20_0 := blk_frozen BK102.out 0
                      have hfz20_1 := blk_frozen BK102.out 1
                      have hfz20_2 := blk_frozen BK102.out 2
                      have hfz20_3 := blk_frozen BK102.out 3
                      have p104 : 0 ≤ (x3_2 : Int) := of_decide_eq_true (by first | (with_reducible assumption) | assumption)
                      have q104 : x3_2 < (l0_3.length : Int) := of_decide_eq_true (by first | (with_reducible assumption) | assumption)
                      obtain ⟨ad104, A104_3, c104_3, e104, hx104_0, hx104_1, hx104_2, hx104_3, hl104_3, hi104_3⟩ := at_T27 HR0_3.out x3_2 p104 q104
                      cases e104
                      replace hx104_0 := (HB.out.cell (World.block_lt_of_cell? w _ hx104_0)).trans hx104_0
                      replace hx104_1 := (HB.out.cell (World.block_lt_of_cell? w _ hx104_1)).trans hx104_1
                      replace hx104_2 := (HB.out.cell (World.block_lt_of_cell? w _ hx104_2)).trans hx104_2
                      replace hx104_3 := (HB.out.cell (World.block_lt_of_cell? w _ hx104_3)).trans hx104_3
                      have HR104_3 := Aside0.mk hi104_3
                      have HC104_3 := Aside0.mk hl104_3
                      clear hi104_3 hl104_3
                      replace p104 := eq_true p104
                      replace q104 := eq_true q104
                      have p105 : 0 ≤ (x3_2 : Int) := of_decide_eq_true (by first | (with_reducible assumption) | assumption)
                      have q105 : x3_2 < (l0_3.length : Int) := of_decide_eq_true (by first | (with_reducible assumption) | assumption)
                      obtain ⟨ad105, A105_3, c105_3, e105, hx105_0, hx105_1, hx105_2, hx105_3, hl105_3, hi105_3⟩ := at_T27 HR0_3.out x3_2 p105 q105
                      obtain rfl : ad104 = ad105 := (by injection e105)
                      replace hx105_0 := (HB.out.cell (World.block_lt_of_cell? w _ hx105_0)).trans hx105_0
                      replace hx105_1 := (HB.out.cell (World.block_lt_of_cell? w _ hx105_1)).trans hx105_1
                      replace hx105_2 := (HB.out.cell (World.block_lt_of_cell? w _ hx105_2)).trans hx105_2
                      replace hx105_3 := (HB.out.cell (World.block_lt_of_cell? w _ hx105_3)).trans hx105_3
                      have HR105_3 := Aside0.mk hi105_3
                      have HC105_3 := Aside0.mk hl105_3
                      clear hi105_3 hl105_3
                      replace p105 := eq_true p105
                      replace q105 := eq_true q105
                      have ea_ := Option.some.inj (hx104_3.symm.trans hx105_3)
                      injection ea_ with ea_ en_ ec_
                      subst ea_
                      subst ec_
                      clear en_
                      go_wp2_with (first | (go_at_call 32; (with_reducible refine (spec_flat.calls ((rd_T27 l0_3 x3_2).f0) ((rd_T27 l0_3 x3_2).f1) ((rd_T27 l0_3 x3_2).f2) _ _ ((rd_T27 l0_3 x3_2).f3) false _ ?side1 ?side2 A16.out).mono ?_); (case side1 => repeat (first | exact (Kd.C_below HR105_3.out HB.out) | (with_reducible refine Kd.C_alloc ?_ _) | (with_reducible refine Kd.C_drewN ?_ _) | (with_reducible refine Kd.C_drew ?_))); (case side2 => exact HC105_3.out); rintro e w21 ⟨rfl, hb⟩; have n0_ := Aside0.mk (blk_below (g := gb102) (o := .cells #[.int .i64 a0_0, .int .i64 a0_1, .string a0_2, .slice (some ad104) l0_3.length c0_3] 27 (0, 0)) (by (with_reducible repeat (first | refine blk_drewN ?_ _ | refine blk_drew ?_ | refine blk_alloc ?_ _)); exact BK102.out) hb); have n1_ := Aside0.mk (below_step (by repeat (first | (with_reducible first | exact HB.out | apply below_alloc | apply pw_below_drewN | apply below_drew1 | refine below_set ?_ GE102.out) | exact HB.out)) hb); clear BK102; clear HB; have BK102 := n0_; have HB := n1_; clear n0_ n1_; (try clear hb); (try clear hb2); (try clear hk); (try clear hi)))
                      go_ret
                      exact ⟨by first | rfl | (simp [errW_none, errW_some] <;> rfl) | (simp [*, errW_none, errW_some] <;> rfl), by repeat (first | (with_reducible first | exact HB.out | apply below_alloc | apply pw_below_drewN | apply below_drew1 | refine below_set ?_ GE102.out) | exact HB.out)⟩
                · rw [if_neg c13] at H
                  exact absurd H (by simp)
              · rw [if_neg c12] at H
                have c12b0 : decide (x3_2 < (l0_3.length : Int)) = false := decide_eq_false c12
                clear c12
                obtain rfl := Option.some.inj H
                have hcz22_0 : wr.cell? ⟨gb102, 0, none⟩ = some (.int .i64 a0_0) := (blk_cell BK102.out 0).trans rfl
                have hcz22_1 : wr.cell? ⟨gb102, 1, none⟩ = some (.int .i64 a0_1) := (blk_cell BK102.out 1).trans rfl
                have hcz22_2 : wr.cell? ⟨gb102, 2, none⟩ = some (.string a0_2) := (blk_cell BK102.out 2).trans rfl
                have hcz22_3 : wr.cell? ⟨gb102, 3, none⟩ = some (.slice A0_3 l0_3.length c0_3) := (blk_cell BK102.out 3).trans rfl
                have hfz22_0 := blk_frozen BK102.out 0
                have hfz22_1 := blk_frozen BK102.out 1
                have hfz22_2 := blk_frozen BK102.out 2
                have hfz22_3 := blk_frozen BK102.out 3
                go_wp2
                go_ret
                exact ⟨by first | rfl | (simp [errW_none, errW_some] <;> rfl) | (simp [*, errW_none, errW_some] <;> rfl), by repeat (first | (with_reducible first | exact HB.out | apply below_alloc | apply pw_below_drewN | apply below_drew1 | refine below_set ?_ GE102.out) | exact HB.out)⟩
  · rw [if_neg c2] at H
    have c2b0 : (a0_0 == 5) = false := beq_eq_false_iff_ne.mpr c2
    have c2b1 : (a0_0 != 5) = true := bne_iff_ne.mpr c2
    replace H := Option.bind_eq_some_iff.mp H
    obtain ⟨t103, A230, H⟩ := H
    replace H : (some t103) = some r := H
    have A23 := Aside0.mk A230
    clear A230
    obtain rfl := Option.some.inj H
    go_enter Tryd.func23, Tryd.ntmps23
    go_wp2_with (first | ((with_reducible refine gate_dst (N := 1) rfl ?_); (try (refine gate_guard (by rfl) ?_; dsimp only)); refine box_event ?hg (N := 1) ?hd (cs := #[.int .i64 a0_0, .int .i64 a0_1, .string a0_2, .slice A0_3 l0_3.length c0_3]) (t := 27) ?hr ?_; (case hd => rfl); (case hg => rfl); (case hr => first | (go_simp; done) | (go_simp; rfl)); intro gb102 hg w24 hbox hb; have n0_ := Aside0.mk (below_step (by repeat (first | (with_reducible first | exact HB.out | apply below_alloc | apply pw_below_drewN | apply below_drew1) | exact HB.out)) hb); have n1_ := Aside0.mk (hbox); have n2_ := Aside0.mk ((by rw [hg]; exact (below_size (by repeat (first | (with_reducible first | exact HB.out | apply below_alloc | apply pw_below_drewN | apply below_drew1) | exact HB.out))) : w.heap.size ≤ gb102)); have n3_ := Aside0.mk ((by rw [hg]; exact (below_size (by repeat (first | (with_reducible first | exact HB.out | apply below_alloc | apply pw_below_drewN | apply below_drew1) | exact HB.out))) : w.heap.size ≤ gb102)); clear HB; have HB := n0_; have BK102 := n1_; have GW102 := n2_; have GE102 := n3_; clear n0_ n1_ n2_ n3_; clear hb hbox hg; have hcz25_0 : w24.cell? ⟨gb102, 0, none⟩ = some (.int .i64 a0_0) := (blk_cell BK102.out 0).trans rfl; have hcz25_1 : w24.cell? ⟨gb102, 1, none⟩ = some (.int .i64 a0_1) := (blk_cell BK102.out 1).trans rfl; have hcz25_2 : w24.cell? ⟨gb102, 2, none⟩ = some (.string a0_2) := (blk_cell BK102.out 2).trans rfl; have hcz25_3 : w24.cell? ⟨gb102, 3, none⟩ = some (.slice A0_3 l0_3.length c0_3) := (blk_cell BK102.out 3).trans rfl; have hfz25_0 := blk_frozen BK102.out 0; have hfz25_1 := blk_frozen BK102.out 1; have hfz25_2 := blk_frozen BK102.out 2; have hfz25_3 := blk_frozen BK102.out 3) | ((with_reducible refine gate_callee (f := 32) rfl ?_); refine goesL_ (some 8) rfl rfl Tryd.func32 (by kernel_rfl) rfl #[.agg #[.int .i64 a0_0, .int .i64 a0_1, .string a0_2, .slice A0_3 l0_3.length c0_3]] rfl (by (try simp only [List.map_toArray, List.map_cons, List.map_nil]); first | done | rfl | (simp only [List.length_drop, List.length_take]; rfl)) ?_; (with_reducible refine (spec_flat.calls a0_0 a0_1 a0_2 _ _ l0_3 t103 _ ?side1 ?side2 A23.out).mono ?_); (case side1 => repeat (first | exact (Kd.C_below HR0_3.out HB.out) | (with_reducible refine Kd.C_alloc ?_ _) | (with_reducible refine Kd.C_drewN ?_ _) | (with_reducible refine Kd.C_drew ?_))); (case side2 => exact HC0_3.out); rintro e w26 ⟨rfl, hb⟩; refine ⟨_, rfl, ?_⟩; have n0_ := Aside0.mk (blk_below (g := gb102) (o := .cells #[.int .i64 a0_0, .int .i64 a0_1, .string a0_2, .slice A0_3 l0_3.length c0_3] 27 (0, 0)) (by (with_reducible repeat (first | refine blk_drewN ?_ _ | refine blk_drew ?_ | refine blk_alloc ?_ _)); exact BK102.out) hb); have n1_ := Aside0.mk (below_step (by repeat (first | (with_reducible first | exact HB.out | apply below_alloc | apply pw_below_drewN | apply below_drew1 | refine below_set ?_ GE102.out) | exact HB.out)) hb); clear BK102; clear HB; have BK102 := n0_; have HB := n1_; clear n0_ n1_; (try clear hb); (try clear hb2); (try clear hk); (try clear hi)))
    go_ret
    exact ⟨by first | rfl | (simp [errW_none, errW_some] <;> rfl) | (simp [*, errW_none, errW_some] <;> rfl), by repeat (first | (with_reducible first | exact HB.out | apply below_alloc | apply pw_below_drewN | apply below_drew1 | refine below_set ?_ GE102.out) | exact HB.out)⟩

end Go.Proofs.YtabaldpjahcilaaDoor.QD
